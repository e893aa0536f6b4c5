import PyProof.Rows.All
import Wide.All
import OpenK.AllK
import Wide.FinOn
import PySem.Challenge.RW_qu0014_01
open PySem PySem.W PyProof.Rows PySem.Builtin PySem.Builtin.Re
set_option Elab.async false
set_option maxRecDepth 100000
set_option maxHeartbeats 8000000
namespace Mine
open_top hd for PySem.Challenge.rw_qu0014_01
set_option hygiene false in
local macro_rules | `(tactic| walk_at "m.intro") => `(tactic| (dsimp only [Cl]; k_fill; intro mean mg mb loose dp un gd cn cs a ccd cl outer A₀ base h₀ L m s Q E hB hF hX hN hT hk hdp hun hret; refine wpAny_call ?_))
set_option hygiene false in
local macro_rules | `(tactic| walk_at "m.enter") => `(tactic| ((case kA => exact rfl); (case kF => exact rfl); (case kK => assumption); (case k1 => k_asm); (case k2 => k_asm); (case k3 => k_asm); (case k4 => k_asm); (case k5 => k_asm); (case k6 => k_is); (case k7 => k_is); (case k8 => ktr_room); (case k9 => exact BindsTo.of_eq rfl); (case c5 => decide); (case kB => exact locs rfl); (case c2 => exact rfl); (case c3 => exact rfl); (case c4 => exact rfl); k_whole; intro g' L' h' FG' F' N' B' X' T'; (try dsimp only); (try k_lift B'); refine wpAny_noRaise ?_; (try k_fold)))
set_option hygiene false in
local macro_rules | `(tactic| walk_at "m.introL") => `(tactic| (dsimp only [ClL]; k_fill; intro mean mg mb loose dp un gd cn cs a ccd cl outer A₀ base h₀ L m s Q E hB hF hX hN hT hk hdp hun hret; refine wpAny_call ?_))
set_option hygiene false in
local macro_rules | `(tactic| walk_at "m.enterC") => `(tactic| ((case kA => exact rfl); (case kF => exact rfl); (case kK => assumption); (case k1 => k_asm); (case k2 => k_asm); (case k3 => k_asm); (case k4 => k_asm); (case k5 => k_asm); (case k6 => k_is); (case k7 => k_is); (case k8 => ktr_room); (case k9 => exact BindsTo.of_eq rfl); (case kB => exact rfl); (case kD => decide +kernel); (case c2 => exact rfl); (case c3 => exact rfl); (case c4 => exact rfl); k_whole; intro g' L' h' tk' cells' FG' F' N' Y' B' X' T' l0'; k_cells Y'; (try simp only [List.cons_append, List.nil_append] at N'); (try dsimp only); (try k_lift B'); refine wpAny_noRaise ?_; (try k_fold)))
set_option hygiene false in
local macro_rules | `(tactic| walk_at "m.enterS") => `(tactic| ((case kA => exact rfl); (case kF => exact rfl); (case kK => assumption); (case k1 => k_asm); (case k2 => k_asm); (case k3 => k_asm); (case k4 => k_asm); (case k5 => k_asm); (case k6 => k_is); (case k7 => k_is); (case k8 => ktr_room); (case k9 => exact BindsTo.of_eq rfl); (case c5 => decide); (case kB => exact locs rfl); (case c2 => exact rfl); (case c3 => exact rfl); (case c4 => exact rfl); intro g' L' h' FG' F' N' B' X' T' l1; (try dsimp only); (try k_lift B')))
set_option hygiene false in
local macro_rules | `(tactic| walk_at "m.introSeg") => `(tactic| (dsimp only [Seg, lawEnv]; (first | (conv in (lawSt _ _) => (rw [lawSt_eq]; whnf)) | (conv in (bodySt _ _) => (rw [bodySt_eq]; whnf))); (conv in (occs := *) (lawSc _) => all_goals (rw [lawSc_eq]; whnf)); k_fill; intro mean mg mb loose dp un gd fa cdv outer A₀ base h₀ L m news s Q hG hPre hB hF hX hN hT hdp hun hAB hret))

section
local macro_rules | `(tactic| walk_at "zz") => `(tactic| fail)
theorem forget1_0 {prog : Program} {w : World} {A : Around} {Q : Bool → Shared → Prop} {E : Value → Shared → Prop} {s : Shared} (h : wpAny (model prog w) A (truthy (.bool true)) Q E s) : wpAny (model prog w) A (truthy (.bool true)) Q E s := by
  w_top off
  first | (walk1; fail) | exact h
local macro_rules | `(tactic| walk_at "zz") => `(tactic| fail)
theorem forget2_0 {prog : Program} {w : World} {A : Around} {Q : Bool → Shared → Prop} {E : Value → Shared → Prop} {s : Shared} (h : wpAny (model prog w) A (truthy (.bool true)) Q E s) : wpAny (model prog w) A (truthy (.bool true)) Q E s := by
  first | (walk1; fail) | exact h
end
noncomputable section
theorem pa_pat : PlainAttrs "re.Pattern" :=
  ⟨⟨"object.__getattribute__", by rw [typeLookup_type, builtinLookup_eq_fast]; kernel_rfl, by decide +kernel⟩, by rw [typeLookup_type, builtinLookup_eq_fast]; kernel_rfl⟩
theorem slot_search : Slot "re.Pattern" "search" "re.Pattern.search" :=
  .of (owner := "re.Pattern") (n := "search") (by rw [typeLookup_type, builtinLookup_eq_fast]; kernel_rfl) (by decide +kernel) (by decide +kernel) (by decide +kernel)
    (by first | exact .inl (by decide +kernel) | exact .inr (by decide +kernel)) (by rw [isSubtype_type]; kernel_rfl)
theorem type_search : typeOf (.builtin "re.Pattern.search") = pure (.type "method_descriptor") := by show builtinType _ = _; rw [builtinType_eq_fast]; kernel_rfl
theorem entry_search : entryFor table "re.Pattern.search" = some Builtin.«re.Pattern.search» := entryFor_of_tree (by kernel_rfl)
theorem args_search (a b : Value) : argsOk "re.Pattern.search" ⟨[a, b], []⟩ := by
  unfold argsOk; kernel_rfl
def reCode : Array Nat := #[14, 8, 1, 2, 4294967295, 1, 1, 46, 0, 16, 46, 24, 9, 1, 4294967295, 13, 4, 8, 0, 0, 1, 6, 5, 1]
def runRe (x : Str) : Sem (Option Sre.M) := reRunToEnd (Sre.forSearch reCode x.cps 0 0 x.cps.size false)
theorem wp_rule {α : Type} {M : Model} {A : Around} {Q : α → Shared → Prop} {E : Value → Shared → Prop} {s : Shared} {r : String} {k : Unit → Sem α} (h : wpAny M A (k ()) Q E s) : wpAny M A (.rule r k) Q E s := fun Γ p hΓ => h Γ p hΓ
theorem runFor_done {m : Sre.M} (h : m.outcome.isSome = true) : ∀ n, Sre.M.runFor n m = m
  | 0 => rfl
  | n + 1 => by unfold Sre.M.runFor; rw [if_pos h]
theorem runFor_go {m : Sre.M} (h : ¬ m.outcome.isSome = true) {n : Nat} : Sre.M.runFor (n + 1) m = Sre.M.runFor n m.step := by
  rw [show Sre.M.runFor (n + 1) m = if m.outcome.isSome then m else Sre.M.runFor n m.step from rfl, if_neg h]
theorem runFor_add (b : Nat) : ∀ (a : Nat) (m : Sre.M), Sre.M.runFor (a + b) m = Sre.M.runFor b (Sre.M.runFor a m)
  | 0, m => by rw [Nat.zero_add]; rfl
  | a + 1, m => by
    rw [Nat.add_right_comm]
    by_cases h : m.outcome.isSome = true
    · rw [runFor_done h, runFor_done h, runFor_done h]
    · rw [runFor_go h, runFor_go h]
      exact runFor_add b a m.step
theorem wp_drive {M : Model} {A : Around} {E : Value → Shared → Prop} {s : Shared} {Q : Sre.M → Shared → Prop} : ∀ (k turns : Nat) (m : Sre.M), k < turns → (Sre.M.runFor (4 * k) m).outcome.isSome = true → Q (Sre.M.runFor (4 * k) m) s → wpAny M A (reDrive turns m) Q E s
  | _, 0, _, h, _, _ => absurd h (Nat.not_lt_zero _)
  | k, turns + 1, m, hk, hd, hq => by
    unfold reDrive
    dsimp only [reTurnSteps]
    by_cases h1 : (Sre.M.runFor 4 m).outcome.isSome = true
    · rw [if_pos h1]
      refine wpAny_pure ?_
      cases k with
      | zero =>
        have e : Sre.M.runFor 4 m = m := runFor_done (m := m) hd 4
        rw [e]; exact hq
      | succ k =>
        rw [Nat.mul_succ, Nat.add_comm, runFor_add, runFor_done h1] at hq
        exact hq
    · rw [if_neg h1]
      cases k with
      | zero =>
        exact absurd (by rw [runFor_done (m := m) hd 4]; exact hd) h1
      | succ k =>
        rw [Nat.mul_succ, Nat.add_comm, runFor_add] at hd hq
        exact wp_rule (wp_drive k turns _ (by omega) hd hq)
theorem wp_rules {M : Model} {A : Around} {E : Value → Shared → Prop} {s : Shared} {Q : PUnit → Shared → Prop} (p : Nat → Bool) (g : Nat → String) (hq : Q ⟨⟩ s) : ∀ l : List Nat, wpAny M A (forIn l PUnit.unit fun i _ => do
    if p i then rule (g i)
    pure (ForInStep.yield PUnit.unit)) Q E s
  | [] => wpAny_pure hq
  | i :: l => by
    rw [List.forIn_cons]
    by_cases h : p i = true
    · rw [if_pos h]
      exact wp_rule (wp_rules p g hq l)
    · rw [if_neg h]
      exact wp_rules p g hq l
def runRe2 (x : Str) : Option Bool := match (Sre.M.runFor (4 * 200) (Sre.forSearch reCode x.cps 0 0 x.cps.size false)).outcome with
  | some .matched => some true
  | some .failed => some false
  | _ => none
theorem foundRe_ex : ∃ f : Str → Option Bool, ∀ x, f x = runRe2 x := ⟨_, fun _ => rfl⟩
noncomputable def foundRe : Str → Option Bool := Classical.choose foundRe_ex
theorem foundRe_eq (x : Str) : foundRe x = runRe2 x := Classical.choose_spec foundRe_ex x
theorem wp_re {M : Model} {A : Around} {E : Value → Shared → Prop} {s : Shared} {x : Str} {b : Bool} (hf : foundRe x = some b) : wpAny M A (runRe x) (fun o s' => s' = s ∧ (o.isSome = b)) E s := by
  unfold runRe reRunToEnd
  rw [foundRe_eq] at hf
  unfold runRe2 at hf
  generalize Sre.forSearch reCode x.cps 0 0 x.cps.size false = m at hf ⊢
  refine wpAny_bind ?_
  split at hf
  · next e =>
    refine wp_drive 200 _ m (by decide) (by rw [e]; rfl) ?_
    refine wpAny_bind (wp_rules _ _ ?_ _)
    rw [e]
    exact wpAny_pure ⟨rfl, Option.some.inj hf⟩
  · next e =>
    refine wp_drive 200 _ m (by decide) (by rw [e]; rfl) ?_
    refine wpAny_bind (wp_rules _ _ ?_ _)
    rw [e]
    exact wpAny_pure ⟨rfl, Option.some.inj hf⟩
  · cases hf
section
variable {prog : Program} {w : World} {A : Around} {E : Value → Shared → Prop} {s : Shared} {h₀ : Heap} {L : Addr} {m : Str → Option Value} {news : List (Addr × Obj)}

theorem wp_ff {α : Type} {M : Model} {A : Around} {Q : α → Shared → Prop} {E : Value → Shared → Prop} {s : Shared} {c : Prop} [Decidable c] {a b : Sem α} (hc : ¬ c) (h : wpAny M A b Q E s) : wpAny M A (if c then a else b) Q E s := by rw [if_neg hc]; exact h
theorem wp_tt {α : Type} {M : Model} {A : Around} {Q : α → Shared → Prop} {E : Value → Shared → Prop} {s : Shared} {c : Prop} [Decidable c] {a b : Sem α} (hc : c) (h : wpAny M A a Q E s) : wpAny M A (if c then a else b) Q E s := by rw [if_pos hc]; exact h

def patObj : Obj := { cls := .type "re.Pattern", data := .fields #[Value.str (Str.ofString "\\.\\d+$") 292, Value.int 256 319, Value.int 0 0, Value.none, Value.none, Value.ref 42, Value.int 0 0] }
def codeObj : Obj := { cls := .type "tuple", data := .seq #[Value.int 14 0, Value.int 8 0, Value.int 1 0, Value.int 2 0, Value.int 4294967295 0, Value.int 1 0,
              Value.int 1 0, Value.int 46 0, Value.int 0 0, Value.int 16 0, Value.int 46 0, Value.int 24 0,
              Value.int 9 0, Value.int 1 0, Value.int 4294967295 0, Value.int 13 0, Value.int 4 0, Value.int 8 0,
              Value.int 0 0, Value.int 0 0, Value.int 1 0, Value.int 6 0, Value.int 5 0, Value.int 1 0] }
theorem pat_at {w : World} {h : Heap} (X : (hd.heap_39 w.params).In h) : h.get? 43 = some patObj := X 43 patObj (by rfl)
theorem code_at {w : World} {h : Heap} (X : (hd.heap_39 w.params).In h) : h.get? 42 = some codeObj := X 42 codeObj (by rfl)

theorem gm_search {pl : Sem Bool} {Q : Value × List Value → Shared → Prop} (h : s.heap.get? 43 = some patObj) (hQ : Q (.builtin "re.Pattern.search", [.ref 43]) s) :
    wpAny (model prog w) A (getMethod (.ref 43) "search" pl) Q E s :=
  getMethod_builtin ⟨_, h, rfl⟩ pa_pat slot_search type_search (fun a e => by cases e; exact ⟨_, h, rfl⟩) hQ

def matchObj (x : Str) (t : Tok) (n : Nat) (mm : Sre.M) (tp : Addr) : Obj := { cls := .type "re.Match", data := .fields #[.str x t, .ref 43, rawInt 0, rawInt n, rawInt mm.lastindex, .ref tp] }

theorem named_search (v : Value) : reNamed "re.Pattern.search" "search" ["string", "pos", "endpos"] 1 [v] [] = pure [some v, none, none] := by rfl

theorem call_search {x : Str} {t : Tok} {b : Bool} {Q : Value → Shared → Prop} (h1 : s.heap.get? 43 = some patObj) (h2 : s.heap.get? 42 = some codeObj) (hf : foundRe x = some b)
    (hn : b = false → Q .none s)
    (hy : ∀ mm, b = true → Q (.ref (s.heap.objs.size + 1)) { s with heap := (s.heap.push { cls := .type "tuple", data := .seq #[rawInt mm.start, rawInt mm.handed] }).push (matchObj x t x.cps.size mm s.heap.objs.size) })
    (hlen : x.cps.size < 2 ^ 24) :
    wpAny (model prog w) A (call (.builtin "re.Pattern.search") [.ref 43, .str x t]) Q E s := by
  refine wpAny_call (codeAny_call_builtin slot_search.plain entry_search (slot_search.check _ _ _ _ _ _ _ _ ⟨_, h1, rfl⟩ (args_search _ _) ?_))
  have hR : wpAny (model prog w) A.in1 (runRe x) (fun o s' => s' = s ∧ (o.isSome = b)) (fun e s' => False) s := wp_re hf
  have hmin : min ((2 : Int) ^ 63 - 1).toNat x.cps.size = x.cps.size := by omega
  show wpAny _ _ (do let t ← reTarget "re.Pattern.search" "search" ⟨[.ref 43, .str x t], []⟩; reAnswer t (Sre.forSearch t.code t.text t.groups t.pos t.lim false)) _ _ _
  refine wpAny_bind ?_
  unfold reTarget
  dsimp only
  rw [named_search]
  refine wpAny_bind (wpAny_pure ?_)
  dsimp only
  refine wpAny_bind (wpAny_pure (wpAny_bind (wpAny_pure (wpAny_bind ?_))))
  unfold fieldsOf
  refine wpAny_bind (wpAny_load h1 (wpAny_pure ?_))
  refine wpAny_bind (wpAny_pure (a := (x.cps, 0)) ?_)
  refine wp_ff Bool.false_ne_true ?_
  refine wp_ff Bool.false_ne_true ?_
  refine wpAny_bind (show wpAny _ _ (pure ()) _ _ _ from wpAny_pure ?_)
  refine wpAny_bind ?_
  unfold reRawItems
  refine wpAny_bind ?_
  unfold seqItems?
  refine wpAny_bind (wpAny_load h2 (wpAny_pure (wpAny_pure (wpAny_pure ?_))))
  have h0 : Min.min (Int.toNat 0) x.cps.size = 0 := Nat.zero_min _
  have hc : Array.map (fun x => x.toNat) (Array.map reRawOf ((some
                #[Value.int 14 0, Value.int 8 0, Value.int 1 0, Value.int 2 0, Value.int 4294967295 0,
                      Value.int 1 0, Value.int 1 0, Value.int 46 0, Value.int 0 0, Value.int 16 0, Value.int 46 0,
                      Value.int 24 0, Value.int 9 0, Value.int 1 0, Value.int 4294967295 0, Value.int 13 0,
                      Value.int 4 0, Value.int 8 0, Value.int 0 0, Value.int 0 0, Value.int 1 0, Value.int 6 0,
                      Value.int 5 0, Value.int 1 0]).getD #[])) = reCode := by decide +kernel
  dsimp only
  rw [hmin, h0, hc]
  show wpAny _ _ (do match ← runRe x with | some m => ret (← reNewMatch (.ref 43) (.str x t) 0 0 x.cps.size m) | none => ret .none) _ _ _
  refine wpAny_bind (wpAny_mono hR ?_ (fun _ _ h => h.elim))
  rintro o s' ⟨rfl, ho⟩
  cases o with
  | none => exact wpAny_pure (hn ho.symm)
  | some mm =>
    refine wpAny_bind ?_
    refine wpAny_bind (wpAny_newObj_type ?_ (by show 2 ≤ sizeLine; decide))
    refine wpAny_newObj_type (wpAny_pure ?_) (by show 6 ≤ sizeLine + 2; decide)
    have := hy mm ho.symm
    simpa [matchObj, Heap.push] using this
end
section
variable {prog : Program} {w : World} {A : Around} {E : Value → Shared → Prop} {s : Shared} {h₀ : Heap} {L : Addr} {m : Str → Option Value} {news : List (Addr × Obj)}
theorem truthy_match {a : Addr} {o : Obj} {Q : Bool → Shared → Prop} (ho : s.heap.get? a = some o) (hc : o.cls = .type "re.Match") (h : Q true s) :
    wpAny (model prog w) A (truthy (.ref a)) Q E s := by
  have hT : s.TypeIs (.ref a) "re.Match" := ⟨o, ho, hc⟩
  unfold truthy
  refine wpAny_bind ?_
  unfold callSpecial?
  refine wpAny_bind (wpAny_specialOf hT (r := none) (by rw [typeLookup_type, builtinLookup_eq_fast]; kernel_rfl) ?_)
  refine wpAny_pure ?_
  refine wpAny_bind (wpAny_specialOf hT (r := none) (by rw [typeLookup_type, builtinLookup_eq_fast]; kernel_rfl) ?_)
  exact wp_tt rfl (wpAny_pure h)
theorem call_search_K {x : Str} {t : Tok} {b : Bool} {Q : Value → Shared → Prop} (F : Fr h₀ L s.heap m) (N : News h₀ L s.heap news) (X : (hd.heap_39 w.params).In h₀) (hf : foundRe x = some b) (hlen : x.cps.size < 2 ^ 24)
    (h : ∀ v h', (b = false → v = .none) → (b = true → ∃ a o, v = .ref a ∧ h'.get? a = some o ∧ o.cls = .type "re.Match") → Fr h₀ L h' m → News h₀ L h' news → Q v { s with heap := h' }) :
    wpAny (model prog w) A (call (.builtin "re.Pattern.search") [.ref 43, .str x t]) Q E s := by
  refine call_search (F.keep _ _ (pat_at X)) (F.keep _ _ (code_at X)) hf (fun hb => h _ _ (fun _ => rfl) (fun hb' => by simp_all) F N) (fun mm hb => ?_) hlen
  refine h _ _ (fun hb' => by simp_all) (fun _ => ⟨_, matchObj x t x.cps.size mm s.heap.objs.size, rfl, ?_, rfl⟩) ((F.push _).push _) ?_
  · have := Heap.get?_push_size (s.heap.push { cls := .type "tuple", data := .seq #[rawInt mm.start, rawInt mm.handed] }) (o := matchObj x t x.cps.size mm s.heap.objs.size) rfl
    rw [Heap.size_push] at this
    exact this
  · exact fun p hp => ((N.push F _ ).push (F.push _) _ ) p (List.mem_cons_of_mem _ (List.mem_cons_of_mem _ hp))
end
end
section
local macro_rules | `(tactic| walk_at "zz") => `(tactic| fail)
theorem forget1_1 {prog : Program} {w : World} {A : Around} {Q : Bool → Shared → Prop} {E : Value → Shared → Prop} {s : Shared} (h : wpAny (model prog w) A (truthy (.bool true)) Q E s) : wpAny (model prog w) A (truthy (.bool true)) Q E s := by
  w_top off
  first | (walk1; fail) | exact h
local macro_rules | `(tactic| walk_at "zz") => `(tactic| fail)
theorem forget2_1 {prog : Program} {w : World} {A : Around} {Q : Bool → Shared → Prop} {E : Value → Shared → Prop} {s : Shared} (h : wpAny (model prog w) A (truthy (.bool true)) Q E s) : wpAny (model prog w) A (truthy (.bool true)) Q E s := by
  first | (walk1; fail) | exact h
end
noncomputable section
open Sre
abbrev f0 (s : Nat) (b : Bool) : Sre.Frame := { wait := .nextStart, pc := 9, pos := s, outermost := b }
abbrev f1 (p : Nat) (b : Bool) : Sre.Frame := { wait := .giveBack, pc := 11, pos := p, outermost := b, count := 1 }
abbrev sm (t : Array Nat) (n s p h pc : Nat) (b : Bool) (fs : List Sre.Frame) (k : Nat) (sn : Sre.Seen) (a : Option Bool) : Sre.M :=
  { code := reCode, text := t, lim := n, start := s, lastStart := n, pc := pc, pos := p, handed := h, outermost := b, marks := #[], frames := fs, weight := k, seen := sn, answer := a }
abbrev s0 (t : Array Nat) (n s : Nat) (b : Bool) (sn : Sre.Seen) : Sre.M := sm t n s s s 9 b [f0 s b] 1 sn none
theorem m_step {m : Sre.M} (h1 : m.outcome = none) (h2 : m.answer = none) (h3 : m.pc < m.code.size) : M.step m = M.exec m := by
  unfold M.step; rw [h1, h2]; simp only [Option.isSome_none, Bool.false_eq_true, if_false, h3, if_true]
theorem x_lit {m : Sre.M} (h : ops[m.word 0]? = some .LITERAL) : M.exec m = if m.pos ≥ m.lim then { m with seen := m.seen.add (m.word 0) }.say false else
    match accepts m.code m.pc (m.text.getD m.pos 0) (m.seen.add (m.word 0)) with
    | .error why => { m with seen := m.seen.add (m.word 0) }.stick why
    | .ok (false, seen) => { m with seen := seen }.say false
    | .ok (true, seen) => { m with seen := seen, pc := m.pc + itemWidth m.code m.pc, pos := m.pos + 1 } := by
  unfold M.exec; rw [h]; rfl
theorem x_lit_end {m : Sre.M} (h : ops[m.word 0]? = some .LITERAL) (hp : m.lim ≤ m.pos) : M.exec m = { m with seen := m.seen.add (m.word 0) }.say false := by
  rw [x_lit h, if_pos hp]
theorem x_lit_no {m : Sre.M} {sn : Sre.Seen} (h : ops[m.word 0]? = some .LITERAL) (hp : m.pos < m.lim) (ha : accepts m.code m.pc (m.text.getD m.pos 0) (m.seen.add (m.word 0)) = .ok (false, sn)) : M.exec m = { m with seen := sn }.say false := by
  rw [x_lit h, if_neg (by omega), ha]
theorem x_lit_yes {m : Sre.M} {sn : Sre.Seen} (h : ops[m.word 0]? = some .LITERAL) (hp : m.pos < m.lim) (ha : accepts m.code m.pc (m.text.getD m.pos 0) (m.seen.add (m.word 0)) = .ok (true, sn)) : M.exec m = { m with seen := sn, pc := m.pc + itemWidth m.code m.pc, pos := m.pos + 1 } := by
  rw [x_lit h, if_neg (by omega), ha]
/-- the state behind one character at s: no dot; a dot -/
theorem sim_lit0 {t : Array Nat} {n s : Nat} {b : Bool} {sn : Sre.Seen} (hs : s < n) (ht : (t.getD s 0 == 46) = false) :
    M.step (s0 t n s b sn) = sm t n s s s 9 b [f0 s b] 1 (sn.add 16) (some false) := by
  have ha : accepts reCode 9 (t.getD s 0) (sn.add 16) = .ok (false, sn.add 16) := by rw [← ht]; rfl
  exact (m_step rfl rfl (by show 9 < 24; decide)).trans ((x_lit_no (m := s0 t n s b sn) rfl hs ha).trans rfl)
theorem sim_lit1 {t : Array Nat} {n s : Nat} {b : Bool} {sn : Sre.Seen} (hs : s < n) (ht : (t.getD s 0 == 46) = true) :
    M.step (s0 t n s b sn) = sm t n s (s + 1) s 11 b [f0 s b] 1 (sn.add 16) none := by
  have ha : accepts reCode 9 (t.getD s 0) (sn.add 16) = .ok (true, sn.add 16) := by rw [← ht]; rfl
  exact (m_step rfl rfl (by show 9 < 24; decide)).trans ((x_lit_yes (m := s0 t n s b sn) rfl hs ha).trans rfl)
theorem x_back {m : Sre.M} {s : Nat} {b : Bool} (h0 : m.outcome = none) (h1 : m.answer = some false) (h2 : m.frames = [f0 s b]) : M.step m = if s < m.lastStart then { m with answer := none, frames := [], weight := m.weight - 1, pc := 9, pos := s, outermost := b, mustAdvance := false }.attemptFrom (s + 1) false else { m with answer := none, frames := [], weight := m.weight - 1, pc := 9, pos := s, outermost := b }.say false := by
  unfold M.step; rw [h0, h1, h2]; rfl
theorem sim_back {t : Array Nat} {n s h p pc : Nat} {b b' : Bool} {sn : Sre.Seen} (hs : s < n) :
    M.step (sm t n s p h pc b' [f0 s b] 1 sn (some false)) = s0 t n (s + 1) false sn := by
  rw [x_back (m := sm t n s p h pc b' [f0 s b] 1 sn (some false)) rfl rfl rfl, if_pos hs]
  rfl
theorem sim_last {t : Array Nat} {n : Nat} {b : Bool} {sn : Sre.Seen} :
    (M.runFor 3 (s0 t n n b sn)).outcome = some .failed := by
  have e0 : M.step (s0 t n n b sn) = sm t n n n n 9 b [f0 n b] 1 (sn.add 16) (some false) :=
    (m_step rfl rfl (by show 9 < 24; decide)).trans ((x_lit_end (m := s0 t n n b sn) rfl (Nat.le_refl n)).trans rfl)
  have e1 : M.step (sm t n n n n 9 b [f0 n b] 1 (sn.add 16) (some false)) = sm t n n n n 9 b [] 0 (sn.add 16) (some false) := by
    rw [x_back (m := sm t n n n n 9 b [f0 n b] 1 (sn.add 16) (some false)) rfl rfl rfl, if_neg (Nat.lt_irrefl n)]
    rfl
  rw [runFor_go (by exact Bool.false_ne_true), e0, runFor_go (by exact Bool.false_ne_true), e1]
  rfl
theorem x_rep_no {m : Sre.M} (h : ops[m.word 0]? = some .REPEAT_ONE) (hr : ((m.word 2 : Nat) : Int) > (m.lim : Int) - m.pos) : M.exec m = { m with seen := m.seen.add (m.word 0) }.say false := by
  unfold M.exec; rw [h]
  show (if ((m.word 2 : Nat) : Int) > (m.lim : Int) - m.pos then _ else _) = _
  rw [if_pos hr]
theorem x_rep {m : Sre.M} {k : Nat} {sn : Sre.Seen} (h : ops[m.word 0]? = some .REPEAT_ONE) (hr : ¬ ((m.word 2 : Nat) : Int) > (m.lim : Int) - m.pos)
    (hk : Sre.run m.code m.text (m.pc + 4) (min (m.word 3) ((m.lim : Int) - m.pos).toNat) m.pos 0 ((m.seen.add (m.word 0)).add (m.word 4)) = .ok (k, sn)) :
    M.exec m = if k < m.word 2 then { m with seen := sn }.say false else { m with seen := sn, pos := m.pos + k }.afterRun .giveBack k (m.keep m.inner.isSome) := by
  unfold M.exec; rw [h]
  show (if ((m.word 2 : Nat) : Int) > (m.lim : Int) - m.pos then _ else match Sre.run m.code m.text (m.pc + 4) (min (m.word 3) ((m.lim : Int) - m.pos).toNat) m.pos 0 ((m.seen.add (m.word 0)).add (m.word 4)) with | .error why => _ | .ok (n, seen) => _) = _
  rw [if_neg hr, hk]
  rfl
theorem x_at {m : Sre.M} {y : Bool} (h : ops[m.word 0]? = some .AT) (ha : m.isAt (m.word 1) = .ok y) : M.exec m = if y then { m with seen := (m.seen.add (m.word 0)).add (43 + m.word 1), pc := m.pc + 2 } else { m with seen := (m.seen.add (m.word 0)).add (43 + m.word 1) }.say false := by
  unfold M.exec; rw [h]
  show (match m.isAt (m.word 1) with | .error why => _ | .ok yes => _) = _
  rw [ha]
  rfl
theorem acc_digit (c : Nat) (sn : Sre.Seen) : ∃ sn', accepts reCode 15 c sn = .ok (isDigit c, sn') := by
  have e : accepts reCode 15 c sn = (do if ← category 0 c then pure (true, (sn.add 8).add 55) else inSet reCode c 23 19 true ((sn.add 8).add 55)) := rfl
  have e2 : category 0 c = .ok (isDigit c) := by
    show (Except.ok (isDigit c)).map (· != false) = _
    cases isDigit c <;> rfl
  rw [e, e2]
  cases isDigit c
  · exact ⟨_, rfl⟩
  · exact ⟨_, rfl⟩
theorem run0 {t : Array Nat} {k p : Nat} {sn : Sre.Seen} (h : isDigit (t.getD p 0) = false) : ∃ sn', Sre.run reCode t 15 k p 0 sn = .ok (0, sn') := by
  cases k with
  | zero => exact ⟨_, rfl⟩
  | succ k =>
    obtain ⟨sn', e⟩ := acc_digit (t.getD p 0) sn
    refine ⟨sn', ?_⟩
    unfold Sre.run
    rw [e, h]
    rfl
theorem run1 {t : Array Nat} {k p : Nat} {sn : Sre.Seen} (h1 : isDigit (t.getD p 0) = true) (h2 : isDigit (t.getD (p + 1) 0) = false) : ∃ sn', Sre.run reCode t 15 (k + 1) p 0 sn = .ok (1, sn') := by
  obtain ⟨sn', e⟩ := acc_digit (t.getD p 0) sn
  have e1 : Sre.run reCode t 15 (k + 1) p 0 sn = Sre.run reCode t 15 k (p + 1) 1 sn' := by
    rw [show Sre.run reCode t 15 (k + 1) p 0 sn = (do let (yes, seen) ← accepts reCode 15 (t.getD p 0) sn; if yes then Sre.run reCode t 15 k (p + 1) (0 + 1) seen else pure (0, seen)) from rfl, e, h1]
    rfl
  rw [e1]
  cases k with
  | zero => exact ⟨_, rfl⟩
  | succ k =>
    obtain ⟨sn2, e⟩ := acc_digit (t.getD (p + 1) 0) sn'
    refine ⟨sn2, ?_⟩
    rw [show Sre.run reCode t 15 (k + 1) (p + 1) 1 sn' = (do let (yes, seen) ← accepts reCode 15 (t.getD (p + 1) 0) sn'; if yes then Sre.run reCode t 15 k (p + 1 + 1) (1 + 1) seen else pure (1, seen)) from rfl, e, h2]
    rfl
theorem rep_no {t : Array Nat} {n s : Nat} {b : Bool} {sn : Sre.Seen} (hs : s < n) (hd : isDigit (t.getD (s + 1) 0) = false ∨ s + 1 = n) :
    ∃ sn', M.step (sm t n s (s + 1) s 11 b [f0 s b] 1 sn none) = sm t n s (s + 1) s 11 b [f0 s b] 1 sn' (some false) := by
  by_cases e : s + 1 = n
  · exact ⟨sn.add 24, (m_step rfl rfl (by show 11 < 24; decide)).trans ((x_rep_no (m := sm t n s (s + 1) s 11 b [f0 s b] 1 sn none) rfl (by show ((1 : Nat) : Int) > (n : Int) - ((s + 1 : Nat) : Int); omega)).trans rfl)⟩
  · obtain ⟨sn', hr⟩ := run0 (t := t) (k := min 4294967295 ((n : Int) - ((s + 1 : Nat) : Int)).toNat) (p := s + 1) (sn := (sn.add 24).add 13) (hd.resolve_right e)
    refine ⟨sn', (m_step rfl rfl (by show 11 < 24; decide)).trans ((x_rep (m := sm t n s (s + 1) s 11 b [f0 s b] 1 sn none) rfl (by show ¬ ((1 : Nat) : Int) > (n : Int) - ((s + 1 : Nat) : Int); omega) hr).trans ?_)⟩
    exact (if_pos (by show 0 < 1; decide)).trans rfl
theorem rep_yes {t : Array Nat} {n s : Nat} {b : Bool} {sn : Sre.Seen} (hn : n < 2 ^ 24) (hs : s + 1 < n) (hd : isDigit (t.getD (s + 1) 0) = true) (hd2 : isDigit (t.getD (s + 2) 0) = false) :
    ∃ sn', M.step (sm t n s (s + 1) s 11 b [f0 s b] 1 sn none) = sm t n s (s + 2) (s + 2) 21 b [f1 (s + 2) b, f0 s b] 2 sn' none := by
  have hm : min 4294967295 ((n : Int) - ((s + 1 : Nat) : Int)).toNat = (n - s - 2) + 1 := by omega
  obtain ⟨sn', hr⟩ := run1 (t := t) (k := n - s - 2) (p := s + 1) (sn := (sn.add 24).add 13) hd hd2
  rw [← hm] at hr
  refine ⟨sn', (m_step rfl rfl (by show 11 < 24; decide)).trans ((x_rep (m := sm t n s (s + 1) s 11 b [f0 s b] 1 sn none) rfl (by show ¬ ((1 : Nat) : Int) > (n : Int) - ((s + 1 : Nat) : Int); omega) hr).trans ?_)⟩
  exact (if_neg (by show ¬ 1 < 1; decide)).trans rfl
theorem at_no {t : Array Nat} {n s : Nat} {b : Bool} {sn : Sre.Seen} (hs : s + 2 < n) (h10 : (t.getD (s + 2) 0 == 10) = false) :
    ∃ sn', M.step (sm t n s (s + 2) (s + 2) 21 b [f1 (s + 2) b, f0 s b] 2 sn none) = sm t n s (s + 2) (s + 2) 21 b [f1 (s + 2) b, f0 s b] 2 sn' (some false) := by
  have ha : M.isAt (sm t n s (s + 2) (s + 2) 21 b [f1 (s + 2) b, f0 s b] 2 sn none) 5 = .ok false := by
    show Except.ok (s + 2 == n || (s + 2 + 1 == n && t.getD (s + 2) 0 == 10)) = _
    rw [h10, Bool.and_false, Bool.or_false, beq_eq_false_iff_ne.mpr (by omega)]
  exact ⟨_, (m_step rfl rfl (by show 21 < 24; decide)).trans ((x_at (m := sm t n s (s + 2) (s + 2) 21 b [f1 (s + 2) b, f0 s b] 2 sn none) rfl ha).trans rfl)⟩
theorem at_yes {t : Array Nat} {n s : Nat} {b : Bool} {sn : Sre.Seen} (hs : s + 2 = n) :
    ∃ sn', M.step (sm t n s (s + 2) (s + 2) 21 b [f1 (s + 2) b, f0 s b] 2 sn none) = sm t n s (s + 2) (s + 2) 23 b [f1 (s + 2) b, f0 s b] 2 sn' none := by
  have ha : M.isAt (sm t n s (s + 2) (s + 2) 21 b [f1 (s + 2) b, f0 s b] 2 sn none) 5 = .ok true := by
    show Except.ok (s + 2 == n || (s + 2 + 1 == n && t.getD (s + 2) 0 == 10)) = _
    rw [beq_iff_eq.mpr hs, Bool.true_or]
  exact ⟨_, (m_step rfl rfl (by show 21 < 24; decide)).trans ((x_at (m := sm t n s (s + 2) (s + 2) 21 b [f1 (s + 2) b, f0 s b] 2 sn none) rfl ha).trans rfl)⟩
theorem succ_yes {t : Array Nat} {n s p h : Nat} {b : Bool} {fs : List Sre.Frame} {k : Nat} {sn : Sre.Seen} :
    ∃ sn', M.step (sm t n s p h 23 b fs k sn none) = sm t n s p p 23 b fs k sn' (some true) := by
  refine ⟨sn.add 1, (m_step rfl rfl (by show 23 < 24; decide)).trans ?_⟩
  cases b <;> rfl
theorem give_no {t : Array Nat} {n s p h pc : Nat} {b : Bool} {sn : Sre.Seen} :
    ∃ p' h' pc', M.step (sm t n s p h pc b [f1 (s + 2) b, f0 s b] 2 sn (some false)) = sm t n s p' h' pc' b [f0 s b] 1 sn (some false) := ⟨_, _, _, rfl⟩
theorem ends_yes {t : Array Nat} {n s p h pc : Nat} {b : Bool} {sn : Sre.Seen} :
    (M.runFor 3 (sm t n s p h pc b [f1 (s + 2) b, f0 s b] 2 sn (some true))).outcome = some .matched := rfl
theorem go1 {m m' : Sre.M} {k : Nat} (h : m.outcome = none) (e : m.step = m') : M.runFor (k + 1) m = M.runFor k m' := by
  rw [runFor_go (by rw [h]; exact Bool.false_ne_true), e]
theorem sim_no {t : Array Nat} {n s : Nat} {b : Bool} {sn : Sre.Seen} (hs : s < n) (ht : (t.getD s 0 == 46) = false) : ∃ sn', M.runFor 2 (s0 t n s b sn) = s0 t n (s + 1) false sn' :=
  ⟨_, (go1 rfl (sim_lit0 hs ht)).trans ((go1 rfl (sim_back hs)).trans rfl)⟩
theorem sim_dot {t : Array Nat} {n s : Nat} {b : Bool} {sn : Sre.Seen} (hn : n < 2 ^ 24) (hs : s < n) (ht : (t.getD s 0 == 46) = true) (hd : isDigit (t.getD (s + 1) 0) = false ∨ s + 1 = n) : ∃ sn', M.runFor 3 (s0 t n s b sn) = s0 t n (s + 1) false sn' := by
  obtain ⟨sn1, e1⟩ := rep_no (b := b) (sn := sn.add 16) hs hd
  exact ⟨_, (go1 rfl (sim_lit1 hs ht)).trans ((go1 rfl e1).trans ((go1 rfl (sim_back hs)).trans rfl))⟩
theorem sim_dig {t : Array Nat} {n s : Nat} {b : Bool} {sn : Sre.Seen} (hn : n < 2 ^ 24) (hs : s + 2 < n) (ht : (t.getD s 0 == 46) = true) (hd : isDigit (t.getD (s + 1) 0) = true) (hd2 : isDigit (t.getD (s + 2) 0) = false) (h10 : (t.getD (s + 2) 0 == 10) = false) : ∃ sn', M.runFor 5 (s0 t n s b sn) = s0 t n (s + 1) false sn' := by
  obtain ⟨sn1, e1⟩ := rep_yes (b := b) (sn := sn.add 16) hn (by omega) hd hd2
  obtain ⟨sn2, e2⟩ := at_no (b := b) (sn := sn1) hs h10
  obtain ⟨p, h, pc, e3⟩ := give_no (t := t) (n := n) (s := s) (p := s + 2) (h := s + 2) (pc := 21) (b := b) (sn := sn2)
  exact ⟨_, (go1 rfl (sim_lit1 (by omega) ht)).trans ((go1 rfl e1).trans ((go1 rfl e2).trans ((go1 rfl e3).trans ((go1 rfl (sim_back (by omega))).trans rfl))))⟩
theorem sim_hit {t : Array Nat} {n s : Nat} {b : Bool} {sn : Sre.Seen} (hn : n < 2 ^ 24) (hs : s + 2 = n) (ht : (t.getD s 0 == 46) = true) (hd : isDigit (t.getD (s + 1) 0) = true) (hd2 : isDigit (t.getD (s + 2) 0) = false) : (M.runFor 7 (s0 t n s b sn)).outcome = some .matched := by
  obtain ⟨sn1, e1⟩ := rep_yes (b := b) (sn := sn.add 16) hn (by omega) hd hd2
  obtain ⟨sn2, e2⟩ := at_yes (t := t) (b := b) (sn := sn1) hs
  obtain ⟨sn3, e3⟩ := succ_yes (t := t) (n := n) (s := s) (p := s + 2) (h := s + 2) (b := b) (fs := [f1 (s + 2) b, f0 s b]) (k := 2) (sn := sn2)
  rw [go1 rfl (sim_lit1 (by omega) ht), go1 rfl e1, go1 rfl e2, go1 rfl e3]
  exact ends_yes
def scanR (t : Array Nat) (n : Nat) : Nat → Nat → Bool
  | 0, _ => false
  | k + 1, s => (t.getD s 0 == 46 && isDigit (t.getD (s + 1) 0) && s + 2 == n) || scanR t n k (s + 1)
theorem scanR_succ {t : Array Nat} {n k s : Nat} : scanR t n (k + 1) s = (t.getD s 0 == 46 && isDigit (t.getD (s + 1) 0) && s + 2 == n || scanR t n k (s + 1)) := rfl
def okR (t : Array Nat) (n : Nat) : Nat → Nat → Bool
  | 0, _ => true
  | k + 1, s => (!(t.getD s 0 == 46 && isDigit (t.getD (s + 1) 0)) || ((s + 2 == n || s + 2 < n) && !isDigit (t.getD (s + 2) 0) && !(t.getD (s + 2) 0 == 10))) && okR t n k (s + 1)
theorem sim_all {t : Array Nat} {n : Nat} (hn : n < 2 ^ 24) : ∀ (k s : Nat) (b : Bool) (sn : Sre.Seen), s + k = n → okR t n k s = true → ∃ j, j ≤ 5 * k + 7 ∧ (M.runFor j (s0 t n s b sn)).outcome = some (if scanR t n k s then .matched else .failed)
  | 0, s, b, sn, h, _ => by
    have : s = n := by omega
    subst this
    exact ⟨3, by omega, sim_last⟩
  | k + 1, s, b, sn, h, ho => by
    unfold okR at ho
    obtain ⟨h1, h2⟩ := Bool.and_eq_true_iff.mp ho
    have next : ∀ (a : Nat) (sn' : Sre.Seen), a ≤ 5 → M.runFor a (s0 t n s b sn) = s0 t n (s + 1) false sn' → (t.getD s 0 == 46 && isDigit (t.getD (s + 1) 0) && s + 2 == n) = false →
        ∃ j, j ≤ 5 * (k + 1) + 7 ∧ (M.runFor j (s0 t n s b sn)).outcome = some (if scanR t n (k + 1) s then .matched else .failed) := by
      intro a sn' ha e hc
      obtain ⟨j, hj, hr⟩ := sim_all hn k (s + 1) false sn' (by omega) h2
      refine ⟨a + j, by omega, ?_⟩
      rw [runFor_add, e, hr, scanR_succ, hc, Bool.false_or]
    by_cases ht : (t.getD s 0 == 46) = true
    · by_cases hd : isDigit (t.getD (s + 1) 0) = true
      · rw [ht, hd] at h1
        simp only [Bool.and_self, Bool.not_true, Bool.false_or, Bool.and_eq_true, Bool.or_eq_true, Bool.not_eq_true', beq_iff_eq, decide_eq_true_eq] at h1
        obtain ⟨⟨hs, hd2⟩, h10⟩ := h1
        rcases hs with hs | hs
        · refine ⟨7, by omega, ?_⟩
          rw [sim_hit hn hs ht hd hd2, scanR_succ, ht, hd, beq_iff_eq.mpr hs]
          rfl
        · obtain ⟨sn', e⟩ := sim_dig (b := b) (sn := sn) hn hs ht hd hd2 h10
          exact next 5 sn' (by omega) e (by rw [beq_eq_false_iff_ne.mpr (show s + 2 ≠ n by omega), Bool.and_false])
      · obtain ⟨sn', e⟩ := sim_dot (b := b) (sn := sn) hn (by omega) ht (.inl (by simpa using hd))
        exact next 3 sn' (by omega) e (by rw [show isDigit (t.getD (s + 1) 0) = false by simpa using hd, Bool.and_false, Bool.false_and])
    · obtain ⟨sn', e⟩ := sim_no (t := t) (b := b) (sn := sn) (show s < n by omega) (by simpa using ht)
      exact next 2 sn' (by omega) e (by rw [show (t.getD s 0 == 46) = false by simpa using ht, Bool.false_and, Bool.false_and])
theorem found_scan {x : Str} (h2 : 2 ≤ x.cps.size) (h3 : x.cps.size ≤ 100) (ho : okR x.cps x.cps.size x.cps.size 0 = true) : foundRe x = some (scanR x.cps x.cps.size x.cps.size 0) := by
  obtain ⟨j, hj, hr⟩ := sim_all (t := x.cps) (n := x.cps.size) (by omega) x.cps.size 0 true (({} : Sre.Seen).add 14) (by omega) ho
  have e0 : Sre.forSearch reCode x.cps 0 0 x.cps.size false = s0 x.cps x.cps.size 0 true (({} : Sre.Seen).add 14) := by
    unfold Sre.forSearch
    refine (if_neg (by show ¬ (decide (0 > x.cps.size) || decide (x.cps.size - 0 < 2)) = true; simp; omega)).trans rfl
  rw [foundRe_eq]
  unfold runRe2
  have hj2 : 4 * 200 = j + (800 - j) := by omega
  rw [e0, hj2, runFor_add, runFor_done (by rw [hr]; rfl), hr]
  cases scanR x.cps x.cps.size x.cps.size 0 <;> rfl
theorem found_short {x : Str} (h2 : x.cps.size < 2) : foundRe x = some false := by
  have e0 : ∃ m, Sre.forSearch reCode x.cps 0 0 x.cps.size false = M.say m false ∧ m.outcome = none ∧ m.frames = [] := by
    unfold Sre.forSearch
    refine ⟨_, if_pos (by show (decide (0 > x.cps.size) || decide (x.cps.size - 0 < 2)) = true; simp; omega), rfl, rfl⟩
  obtain ⟨m, e, ho, hf⟩ := e0
  rw [foundRe_eq]
  unfold runRe2
  have e1 : M.step (M.say m false) = { M.say m false with outcome := some .failed } := by
    unfold M.step M.say
    simp only [ho, hf]
    rfl
  have e2 : (4 * 200 : Nat) = 799 + 1 := rfl
  rw [e, e2, runFor_go (by show ¬ m.outcome.isSome = true; rw [ho]; exact Bool.false_ne_true), e1, runFor_done (by rfl)]
def foundX (x : Str) : Option Bool :=
  if x.cps.size < 2 then some false else if decide (x.cps.size ≤ 100) && okR x.cps x.cps.size x.cps.size 0 then some (scanR x.cps x.cps.size x.cps.size 0) else none
theorem foundX_eq {x : Str} {b : Bool} (h : foundX x = some b) : foundRe x = some b := by
  unfold foundX at h
  split at h
  · next h2 => rw [← h]; exact found_short h2
  · next h2 =>
    split at h
    · next h3 =>
      obtain ⟨h4, h5⟩ := Bool.and_eq_true_iff.mp h3
      rw [← h]; exact found_scan (by omega) (of_decide_eq_true h4) h5
    · cases h
end
section
local macro_rules | `(tactic| walk_at "zz") => `(tactic| fail)
theorem forget1_2 {prog : Program} {w : World} {A : Around} {Q : Bool → Shared → Prop} {E : Value → Shared → Prop} {s : Shared} (h : wpAny (model prog w) A (truthy (.bool true)) Q E s) : wpAny (model prog w) A (truthy (.bool true)) Q E s := by
  w_top off
  first | (walk1; fail) | exact h
local macro_rules | `(tactic| walk_at "zz") => `(tactic| fail)
theorem forget2_2 {prog : Program} {w : World} {A : Around} {Q : Bool → Shared → Prop} {E : Value → Shared → Prop} {s : Shared} (h : wpAny (model prog w) A (truthy (.bool true)) Q E s) : wpAny (model prog w) A (truthy (.bool true)) Q E s := by
  first | (walk1; fail) | exact h
end
noncomputable section
abbrev tabO (ps : Array Value) : Obj := { cls := .none, data := .fields ps }
noncomputable def K2 (P : Params) : Frag := (113, tabO #[]) :: (120, tabO #[]) :: hd.heap_39 P
theorem K2_as (P : Params) : [113, 120, 2, 3, 32, 34, 35, 37, 38, 42, 43, 44, 46, 47, 49, 50, 51, 53, 54, 56, 57, 58, 60, 61, 63, 64, 65, 67, 68, 70, 71, 72, 75, 80, 81, 82, 84, 85, 87, 88, 89, 91, 92, 94, 95, 96, 97, 99, 100, 102, 103, 104, 105, 107, 108, 110, 111, 112, 114, 115, 117, 118, 119, 121, 122, 124, 125, 126, 127, 129, 130, 132, 133, 134, 136, 137, 139, 140, 141, 142, 144, 145, 147, 148, 149, 150, 151, 152, 153, 156, 159, 160, 161, 163, 164, 166, 167, 168, 170, 171, 173, 174, 175, 177, 178, 180, 181, 182, 185, 186, 187, 190, 191] = (K2 P).map (·.1) := by kernel_rfl
end
section
local macro_rules | `(tactic| walk_at "zz") => `(tactic| fail)
theorem forget1_3 {prog : Program} {w : World} {A : Around} {Q : Bool → Shared → Prop} {E : Value → Shared → Prop} {s : Shared} (h : wpAny (model prog w) A (truthy (.bool true)) Q E s) : wpAny (model prog w) A (truthy (.bool true)) Q E s := by
  w_top off
  first | (walk1; fail) | exact h
local macro_rules | `(tactic| walk_at "zz") => `(tactic| fail)
theorem forget2_3 {prog : Program} {w : World} {A : Around} {Q : Bool → Shared → Prop} {E : Value → Shared → Prop} {s : Shared} (h : wpAny (model prog w) A (truthy (.bool true)) Q E s) : wpAny (model prog w) A (truthy (.bool true)) Q E s := by
  first | (walk1; fail) | exact h
end
noncomputable section
abbrev Cl (k : Nat) (w : World) (f : Addr) (news : List (Addr × Obj)) (vs : List Value) (R : Tok → Value) : Prop :=
  ∀ (mean : ExcName → Option Value) (mg mb : Str → Option Value) (loose : List Str) (dp un : Nat) (gd : Option (List Code)) (cn : Str) (cs : Scope) (a : Addr) (ccd : Value) (cl : List (Str × Addr)) (outer : List Env) (A₀ : Around) (base h₀ : Heap) (L : Addr) (m : Str → Option Value) (s : Shared) (Q E : Value → Shared → Prop),
    Below A₀ base outer h₀ → Fr h₀ L s.heap m → (hd.heap_39 w.params).In h₀ → News h₀ L s.heap news → Top topProg loose mean mg mb h₀ → cs.kind = .function → dp + k < recursionLimit → un + 8 * k + 500 < cLine →
    (∀ (t : Tok) (h' : Heap) (tk' : Nat), Fr h₀ L h' m → News h₀ L h' news → Q (R t) { s with heap := h', toks := tk' }) →
      wpAny (model PySem.Challenge.rw_qu0014_01.row.prog w) (ktrTop dp un gd cn cs L a ccd cl outer) (call (.ref f) vs) Q E s
local macro_rules | `(tactic| walk_at "getMethod ref") => `(tactic| (refine gm_search (Fr.keep (by k_asm) _ _ (pat_at (by k_asm))) ?_))
local macro_rules | `(tactic| walk_at "call builtin:re.Pattern.search") => `(tactic| (refine call_search_K (by k_asm) (by k_asm) (by k_asm) (by assumption) (by assumption) ?_; intro v' h' hv1 hv2 F' N'; first | (have e' := hv1 rfl; subst e'; clear hv1 hv2) | (obtain ⟨a', o', e', ho', hc'⟩ := hv2 rfl; subst e'; clear hv1 hv2)))
local macro_rules | `(tactic| walk_at "truthy ref") => `(tactic| (refine truthy_match (by assumption) (by assumption) ?_))
theorem lib_call {w : World} (news) (x : Str) (t : Tok) (b : Bool) (hf : foundRe x = some b) (hlen : x.cps.size < 2 ^ 24) : Cl 1 w 57 news [.str x t] (fun _ => .bool (!b)) := by
  walk_at "m.intro"
  refine' code_def (binds := [(Str.ofString "text", .str x t)]) ?k1 ?k2 ?k3 ?k4 ?k5 ?kA ?kF ?kK ?k6 ?k7 ?k8 ?k9 ?kB ?_ ?c2 ?c3 ?c4 ?c5
  walk_at "m.enter"
  cases b
  all_goals (k_steps; exact cb_retB hret rfl (by k_asm) (by k_asm))
def hdnS (x : Str) (b : Bool) : Bool := !b && !(x == Str.ofString "") && !(Txt.item x 0 == Str.ofString "." || Txt.item x (-1) == Str.ofString ".")
theorem hdn_call {w : World} (news) (x : Str) (t : Tok) (b : Bool) (hf : foundRe x = some b) (hlen : x.cps.size < 2 ^ 24) : Cl 1 w 50 news [.str x t] (fun _ => .bool (hdnS x b)) := by
  walk_at "m.intro"
  refine' code_def (binds := [(Str.ofString "text", .str x t)]) ?k1 ?k2 ?k3 ?k4 ?k5 ?kA ?kF ?kK ?k6 ?k7 ?k8 ?k9 ?kB ?_ ?c2 ?c3 ?c4 ?c5
  walk_at "m.enter"
  cases b
  all_goals k_steps
  all_goals exact cb_retB hret (by clear hret; simp_all [hdnS]) (by k_asm) (by k_asm)
def udmS (x y : Str) (b1 b2 : Bool) : Bool :=
  if (!b1 && !b2) = true then (if Txt.startswith (Txt.lower y) (Str.ofString ".") = true then Txt.endswith (Txt.lower x) (Txt.lower y) else Txt.lower x == Txt.lower y) else Txt.lower x == Txt.lower y
local macro_rules | `(tactic| walk_at "call ref") => `(tactic| (refine' lib_call _ _ _ _ ?f1 ?f2 _ _ _ _ _ _ _ _ _ _ _ _ _ _ _ _ _ _ _ _ _ ?k1 ?k2 ?k3 ?k4 ?k5 ?kK ?kd ?ku ?_; (case f1 => assumption); (case f2 => (show Str.length _ < _; omega)); (case k1 => k_asm); (case k2 => k_asm); (case k3 => k_asm); (case k4 => k_asm); (case k5 => k_asm); (case kK => first | exact rfl | assumption); (case kd => ktr_room); (case ku => ktr_units); intro t9 h9 tk9 F9 N9; (try dsimp only)))
theorem udm_call {w : World} (news) (x y : Str) (t u : Tok) (hx : x.length ≤ 100) (hy : y.length ≤ 100) (b1 b2 : Bool) (hf1 : foundRe (Txt.lower x) = some b1)
    (hf2 : foundRe (Txt.lower y) = some b2) : Cl 2 w 64 news [.str x t, .str y u] (fun _ => .bool (udmS x y b1 b2)) := by
  walk_at "m.intro"
  refine' code_def (binds := [(Str.ofString "A", .str x t), (Str.ofString "B", .str y u)]) ?k1 ?k2 ?k3 ?k4 ?k5 ?kA ?kF ?kK ?k6 ?k7 ?k8 ?k9 ?kB ?_ ?c2 ?c3 ?c4 ?c5
  walk_at "m.enter"
  k_steps
  all_goals exact cb_retB hret (by clear hret; simp_all [udmS]) (by k_asm) (by k_asm)
end
section
local macro_rules | `(tactic| walk_at "zz") => `(tactic| fail)
theorem forget1_4 {prog : Program} {w : World} {A : Around} {Q : Bool → Shared → Prop} {E : Value → Shared → Prop} {s : Shared} (h : wpAny (model prog w) A (truthy (.bool true)) Q E s) : wpAny (model prog w) A (truthy (.bool true)) Q E s := by
  w_top off
  first | (walk1; fail) | exact h
local macro_rules | `(tactic| walk_at "zz") => `(tactic| fail)
theorem forget2_4 {prog : Program} {w : World} {A : Around} {Q : Bool → Shared → Prop} {E : Value → Shared → Prop} {s : Shared} (h : wpAny (model prog w) A (truthy (.bool true)) Q E s) : wpAny (model prog w) A (truthy (.bool true)) Q E s := by
  first | (walk1; fail) | exact h
end
noncomputable section
local macro_rules | `(tactic| walk_at "call ref") => `(tactic| (refine' hdn_call _ _ _ _ ?f1 ?f2 _ _ _ _ _ _ _ _ _ _ _ _ _ _ _ _ _ _ _ _ _ ?k1 ?k2 ?k3 ?k4 ?k5 ?kK ?kd ?ku ?_; (case f1 => assumption); (case f2 => (show Str.length _ < _; omega)); (case k1 => k_asm); (case k2 => k_asm); (case k3 => k_asm); (case k4 => k_asm); (case k5 => k_asm); (case kK => first | exact rfl | assumption); (case kd => ktr_room); (case ku => ktr_units); intro t9 h9 tk9 F9 N9; (try dsimp only)))
def tailS (x : Str) : Str := Txt.slice x (some (Txt.find x (Str.ofString ".") + 1)) none
def reachS (x : Str) (b : Bool) : Str := if 0 ≤ Txt.find x (Str.ofString ".") then (if hdnS x b = true then (if 0 ≤ Txt.find (tailS x) (Str.ofString ".") then Str.ofString "." ++ tailS x else if (tailS x == Str.ofString "local") = true then Str.ofString "." ++ tailS x else x) else x) else x
theorem reach_call {w : World} (news) (x : Str) (t : Tok) (hx : x.length ≤ 100) (b : Bool) (hf : foundRe x = some b) : Cl 2 w 71 news [.str x t] (fun t => .str (reachS x b) t) := by
  walk_at "m.intro"
  refine' code_def (binds := [(Str.ofString "h", .str x t)]) ?k1 ?k2 ?k3 ?k4 ?k5 ?kA ?kF ?kK ?k6 ?k7 ?k8 ?k9 ?kB ?_ ?c2 ?c3 ?c4 ?c5
  walk_at "m.enter"
  k_steps
  all_goals exact cb_retS hret (by clear hret; simp_all [reachS, tailS] <;> (intros; omega)) (by k_asm) (by k_asm)
end
section
local macro_rules | `(tactic| walk_at "zz") => `(tactic| fail)
theorem forget1_5 {prog : Program} {w : World} {A : Around} {Q : Bool → Shared → Prop} {E : Value → Shared → Prop} {s : Shared} (h : wpAny (model prog w) A (truthy (.bool true)) Q E s) : wpAny (model prog w) A (truthy (.bool true)) Q E s := by
  w_top off
  first | (walk1; fail) | exact h
local macro_rules | `(tactic| walk_at "zz") => `(tactic| fail)
theorem forget2_5 {prog : Program} {w : World} {A : Around} {Q : Bool → Shared → Prop} {E : Value → Shared → Prop} {s : Shared} (h : wpAny (model prog w) A (truthy (.bool true)) Q E s) : wpAny (model prog w) A (truthy (.bool true)) Q E s := by
  first | (walk1; fail) | exact h
end
noncomputable section
abbrev lobj (vs : List Value) (n : Nat) : Obj := W.listOf vs.toArray n
abbrev ClL (k : Nat) (w : World) (f : Addr) (news : List (Addr × Obj)) (vs : List Value) (P : List Value → Prop) : Prop :=
  ∀ (mean : ExcName → Option Value) (mg mb : Str → Option Value) (loose : List Str) (dp un : Nat) (gd : Option (List Code)) (cn : Str) (cs : Scope) (a : Addr) (ccd : Value) (cl : List (Str × Addr)) (outer : List Env) (A₀ : Around) (base h₀ : Heap) (L : Addr) (m : Str → Option Value) (s : Shared) (Q E : Value → Shared → Prop),
    Below A₀ base outer h₀ → Fr h₀ L s.heap m → (hd.heap_39 w.params).In h₀ → News h₀ L s.heap news → Top topProg loose mean mg mb h₀ → cs.kind = .function → dp + k < recursionLimit → un + 8 * k + 500 < cLine →
    (∀ (x : Addr) (ws : List Value) (n : Nat) (h' : Heap) (tk' : Nat), P ws → Fr h₀ L h' m → News h₀ L h' ((x, lobj ws n) :: news) → (∀ p ∈ news, p.1 < x) → Q (.ref x) { s with heap := h', toks := tk' }) →
      wpAny (model PySem.Challenge.rw_qu0014_01.row.prog w) (ktrTop dp un gd cn cs L a ccd cl outer) (call (.ref f) vs) Q E s
theorem news_lt {h₀ h : Heap} {L : Addr} {news : List (Addr × Obj)} (N : News h₀ L h news) {x : Addr} (hx : h.objs.size ≤ x) : ∀ p ∈ news, p.1 < x := fun p hp => Nat.lt_of_lt_of_le (Heap.lt_size (N p hp).1) hx
theorem news_tail {h₀ h : Heap} {L : Addr} {q : Addr × Obj} {news : List (Addr × Obj)} (N : News h₀ L h (q :: news)) : News h₀ L h news := fun p hp => N p (List.mem_cons_of_mem _ hp)
theorem news_skip {h₀ h : Heap} {L : Addr} {q r : Addr × Obj} {news : List (Addr × Obj)} (N : News h₀ L h (q :: r :: news)) : News h₀ L h (q :: news) := fun p hp => by
  rcases List.mem_cons.mp hp with rfl | hp
  · exact N _ (.head _)
  · exact N p (.tail _ (.tail _ hp))
theorem strsAre_reverse {vs : List Value} {ss : List Str} (h : StrsAre vs ss) : StrsAre vs.reverse ss.reverse := by
  induction h with
  | nil => exact .nil
  | cons y t _ ih => rw [List.reverse_cons, List.reverse_cons]; exact ih.append' (.cons y t .nil)
def behindS (x : Str) : List Str := (Txt.split (Txt.lower x) (Str.ofString ".")).reverse
theorem behind_call {w : World} (news) (x : Str) (t : Tok) (hx : x.length ≤ 100) : ClL 1 w 167 news [.str x t] (fun vs => StrsAre vs (behindS x)) := by
  walk_at "m.introL"
  refine' code_def (binds := [(Str.ofString "name", .str x t)]) ?k1 ?k2 ?k3 ?k4 ?k5 ?kA ?kF ?kK ?k6 ?k7 ?k8 ?k9 ?kB ?_ ?c2 ?c3 ?c4 ?c5
  walk_at "m.enter"
  k_steps
  (rename List (Str × Tok) => l)
  (rename List.map _ l = _ => e1)
  (rename StrsAre _ (List.map _ l) => e2)
  (rename News g' L' _ (_ :: news) => n1)
  (rename News h₀ L _ _ => n2)
  (rename Fr h₀ L _ m => f2)
  rw [krv_pick] at n2
  exact hret _ (strValues l).reverse 0 _ _ (by rw [e1] at e2; exact strsAre_reverse e2) f2 (news_skip n2) (news_lt (news_tail n1) (Nat.le_succ _))
end
section
local macro_rules | `(tactic| walk_at "zz") => `(tactic| fail)
theorem forget1_6 {prog : Program} {w : World} {A : Around} {Q : Bool → Shared → Prop} {E : Value → Shared → Prop} {s : Shared} (h : wpAny (model prog w) A (truthy (.bool true)) Q E s) : wpAny (model prog w) A (truthy (.bool true)) Q E s := by
  w_top off
  first | (walk1; fail) | exact h
local macro_rules | `(tactic| walk_at "zz") => `(tactic| fail)
theorem forget2_6 {prog : Program} {w : World} {A : Around} {Q : Bool → Shared → Prop} {E : Value → Shared → Prop} {s : Shared} (h : wpAny (model prog w) A (truthy (.bool true)) Q E s) : wpAny (model prog w) A (truthy (.bool true)) Q E s := by
  first | (walk1; fail) | exact h
end
noncomputable section
def leftS (x : Str) : List Str := if ((behindS x).getD (Int.toNat 0) Str.empty == Str.ofString "7") = true then behindS x else behindS x ++ [Str.ofString "~"]
local macro_rules | `(tactic| walk_at "call ref") => `(tactic| (refine' behind_call _ _ _ ?f2 _ _ _ _ _ _ _ _ _ _ _ _ _ _ _ _ _ _ _ _ _ ?k1 ?k2 ?k3 ?k4 ?k5 ?kK ?kd ?ku ?_; (case f2 => (show Str.length _ ≤ _; omega)); (case k1 => k_asm); (case k2 => k_asm); (case k3 => k_asm); (case k4 => k_asm); (case k5 => k_asm); (case kK => first | exact rfl | assumption); (case kd => ktr_room); (case ku => ktr_units); intro x9 ws9 n9 h9 tk9 P9 F9 N9 l9; (try dsimp only at P9); (try k_lt l9)))
theorem isList_mem {h₀ h : Heap} {L l : Addr} {vs : List Value} {n : Nat} {news : List (Addr × Obj)} (N : News h₀ L h news) (hm : (l, lobj vs n) ∈ news) : h.IsList l vs.toArray := ⟨_, N.get hm, rfl, n, rfl⟩
theorem add_K {prog : Program} {w : World} {A : Around} {E : Value → Shared → Prop} {s : Shared} {h₀ : Heap} {L : Addr} {m : Str → Option Value} {news : List (Addr × Obj)} {l b : Addr} {vs ws : List Value} {n k : Nat} {Q : Value → Shared → Prop}
    (F : Fr h₀ L s.heap m) (N : News h₀ L s.heap news) (m1 : (l, lobj vs n) ∈ news) (m2 : (b, lobj ws k) ∈ news) (hsz : vs.length + ws.length ≤ sizeLine)
    (h : ∀ x h', Fr h₀ L h' m → News h₀ L h' ((x, lobj (vs ++ ws) 0) :: news) → (∀ p ∈ news, p.1 < x) → Q (.ref x) { s with heap := h' }) : wpAny (model prog w) A (binaryOp .Add (.ref l) (.ref b)) Q E s :=
  add_lists (hsz := hsz) F N (isList_mem N m1) (isList_mem N m2) fun h' F' N' => h _ h' F' N' (news_lt N (Nat.le_refl _))
local macro_rules | `(tactic| walk_at "binaryOp Add ref ref") => `(tactic| (refine' add_K ?k1 ?k2 ?k3 ?k4 ?k5 ?_; (case k1 => k_asm); (case k2 => k_asm); (case k3 => k_mem); (case k4 => k_mem); (case k5 => (have e' := StrsAre.len_eq (by assumption); simp only [List.length_cons, List.length_nil, sizeLine]; omega)); intro x' h' F' N' l1))
theorem left_call {w : World} (news) (x : Str) (t : Tok) (hx : x.length ≤ 100) (y : Str) (ys : List Str) (hb : behindS x = y :: ys) (hys : (behindS x).length ≤ 100) : ClL 2 w 174 news [.str x t] (fun vs => StrsAre vs (leftS x)) := by
  walk_at "m.introL"
  refine' code_def (binds := [(Str.ofString "name", .str x t)]) ?k1 ?k2 ?k3 ?k4 ?k5 ?kA ?kF ?kK ?k6 ?k7 ?k8 ?k9 ?kB ?_ ?c2 ?c3 ?c4 ?c5
  walk_at "m.enter"
  k_steps
  · (rename StrsAre _ (behindS x) => p9)
    (rename ∀ p ∈ news, p.1 < _ => l9)
    (rename (_ == _) = true => e9)
    exact hret _ _ _ _ _ (by unfold leftS; rw [if_pos e9]; exact p9) (by k_asm) (by k_asm) l9
  · (rename StrsAre _ (behindS x) => p9)
    (rename (_ == _) = false => e9)
    (rename News h₀ L _ _ => n9)
    (rename ∀ p ∈ _ :: _ :: news, p.1 < _ => l9)
    exact hret _ _ _ _ _ (by unfold leftS; rw [if_neg (by rw [e9]; exact Bool.false_ne_true)]; exact p9.append' (.cons _ _ .nil)) (by k_asm) (news_skip (news_skip n9)) (fun p hp => l9 p (.tail _ (.tail _ hp)))
end
section
local macro_rules | `(tactic| walk_at "zz") => `(tactic| fail)
theorem forget1_7 {prog : Program} {w : World} {A : Around} {Q : Bool → Shared → Prop} {E : Value → Shared → Prop} {s : Shared} (h : wpAny (model prog w) A (truthy (.bool true)) Q E s) : wpAny (model prog w) A (truthy (.bool true)) Q E s := by
  w_top off
  first | (walk1; fail) | exact h
local macro_rules | `(tactic| walk_at "zz") => `(tactic| fail)
theorem forget2_7 {prog : Program} {w : World} {A : Around} {Q : Bool → Shared → Prop} {E : Value → Shared → Prop} {s : Shared} (h : wpAny (model prog w) A (truthy (.bool true)) Q E s) : wpAny (model prog w) A (truthy (.bool true)) Q E s := by
  first | (walk1; fail) | exact h
end
noncomputable section
abbrev Nv : Value → Shared → Prop := fun _ _ => False
def TurnPost (h₀ : Heap) (L : Addr) (adr : List Addr) (rest : List (Addr × Obj)) (Jn : (Str → Option Value) → List (Addr × Obj) → Array GenState → Prop) (s : Shared) (Q : Flow → Shared → Prop) (f : Flow) (s₂ : Shared) : Prop :=
  match f with
  | .ret v => Q (.ret v) s₂
  | .brk => Q .next s₂
  | _ => ∃ h' tk g m₂ hs, s₂ = { s with heap := h', toks := tk, gens := g } ∧ Jn m₂ hs g ∧ hs.map (·.1) = adr ∧ Fr h₀ L h' m₂ ∧ News h₀ L h' (hs ++ rest)
section
variable {prog : Program} {w : World} {A : Around} {s : Shared} {env : Env} {h₀ : Heap}
theorem loopG {Q : Flow → Shared → Prop} {x : Str} {px : Pos} {body : List Stmt} {l : Addr} {vs : List Value} {nl : Nat} {m₀ : Str → Option Value} {hs₀ tl : List (Addr × Obj)}
    (J : Nat → (Str → Option Value) → List (Addr × Obj) → Array GenState → Prop)
    (hx : env.kindOf x = some .local) (hp : (env.scope.kind == .class || (env.scope.kind == .module && env.locals != env.globals)) = false) (hh : A.handled = none)
    (F : Fr h₀ env.locals s.heap m₀) (N : News h₀ env.locals s.heap (hs₀ ++ tl)) (hl : (l, lobj vs nl) ∈ tl)
    (hsep : ∀ p ∈ tl, p.1 ∉ hs₀.map (·.1)) (hj : J 0 m₀ hs₀ s.gens)
    (turn : ∀ i v m₁ hs h tk g rest, vs[i]? = some v → J i m₁ hs g → hs.map (·.1) = hs₀.map (·.1) → (∀ p ∈ rest, p.1 ∉ hs₀.map (·.1)) → (∀ p ∈ tl, p ∈ rest) →
      Fr h₀ env.locals h (fun y => if y = x then some v else m₁ y) → News h₀ env.locals h (hs ++ rest) →
      wpAny (model prog w) A (execs body env) (TurnPost h₀ env.locals (hs₀.map (·.1)) rest (J (i + 1)) s Q) Nv { s with heap := h, toks := tk, gens := g })
    (done : ∀ m₁ hs h tk g, J vs.length m₁ hs g → hs.map (·.1) = hs₀.map (·.1) → Fr h₀ env.locals h m₁ → News h₀ env.locals h (hs ++ tl) → Q .next { s with heap := h, toks := tk, gens := g }) :
    wpAny (model prog w) A (pyIter (.ref l)) (fun it s₂ => codeAny (model prog w) A (.forLoop (.Name x px) it body [] env) (fun r s' => match r with | .ok f => Q f s' | .error e => cameBackBy (model prog w) A env Nv e s') s₂) Nv s := by
  have hml : (l, lobj vs nl) ∈ hs₀ ++ tl := List.mem_append_right _ hl
  have hls : s.heap.IsList l vs.toArray := ⟨_, N.get hml, rfl, nl, rfl⟩
  have hlI : l ≠ s.heap.objs.size := Nat.ne_of_lt (Heap.lt_size (N.get hml))
  have hI0 : h₀.get? s.heap.objs.size = none := next_is_new F
  have hIL : s.heap.objs.size ≠ env.locals := Nat.ne_of_gt F.ns.lt
  have hIn : ∀ p ∈ hs₀ ++ tl, p.1 ≠ s.heap.objs.size := fun p hp => Nat.ne_of_lt (Heap.lt_size (N p hp).1)
  refine wpAny_pyIter_list hls ?_
  refine codeAny_forLoop
    (fun k s' => ∃ h' tk g m' hs i, s' = { s with heap := h', toks := tk, gens := g } ∧ h'.IsListIter s.heap.objs.size l i ∧ Fr h₀ env.locals h' m' ∧ News h₀ env.locals h' (hs ++ tl) ∧ hs.map (·.1) = hs₀.map (·.1) ∧ J i m' hs g ∧ i ≤ vs.length ∧ k = vs.length + 1 - i) ?_ (vs.length + 1)
    ⟨_, s.toks, s.gens, m₀, hs₀, 0, rfl, ⟨_, Heap.get?_push_size _ rfl, rfl, rfl⟩, F.push _, (fun p hp => ⟨Heap.get?_push_of_some _ (N p hp).1, (N p hp).2⟩), rfl, hj, Nat.zero_le _, rfl⟩
  rintro k s' ⟨h', tk, g, m', hs, i, rfl, hit, F', N', hadr, hJ, hi, rfl⟩
  have hne : ∀ p ∈ hs ++ tl, p.1 ≠ s.heap.objs.size := fun p hp => by
    rcases List.mem_append.mp hp with hp | hp
    · have : p.1 ∈ hs₀.map (·.1) := by rw [← hadr]; exact List.mem_map_of_mem hp
      obtain ⟨q, hq, e⟩ := List.mem_map.mp this
      rw [← e]; exact hIn q (List.mem_append_left _ hq)
    · exact hIn p (List.mem_append_right _ hp)
  have hl' : h'.IsList l vs.toArray := ⟨_, N'.get (List.mem_append_right _ hl), rfl, nl, rfl⟩
  have up : ∀ h₁ : Heap, Heap.ExtBut s.heap.objs.size h' h₁ → Fr h₀ env.locals h₁ m' ∧ News h₀ env.locals h₁ (hs ++ tl) := fun h₁ hk =>
    ⟨⟨F'.ns.at' fun o e => hk _ o (Ne.symm hIL) e, fun b o e => hk b o (fun q => by rw [q, hI0] at e; cases e) (F'.keep b o e), F'.above⟩, fun p hp => ⟨hk _ _ (hne p hp) (N' p hp).1, (N' p hp).2⟩⟩
  by_cases hlt : i < vs.length
  · refine wpAny_pyNext_list_item hit hl' (x := vs[i]) (by simp [hlt]) fun h₁ hit₁ hs₁ => ?_
    obtain ⟨F₁, N₁⟩ := up h₁ hs₁.extBut
    refine wpAny_assign_Name (wpAny_storeName_local hx F₁.ns (fun h₂ hn₂ hs₂ => ?_) hp)
    have F₂ := F₁.set hn₂ hs₂
    have N₂ := N₁.set hs₂
    obtain ⟨o, ho, hc, hdt⟩ := hit₁
    have ho₂ : h₂.get? s.heap.objs.size = some o := (hs₂.2 _ hIL).trans ho
    have NI : News h₀ env.locals h₂ (hs ++ ((s.heap.objs.size, o) :: tl)) := fun p hp => by
      rcases List.mem_append.mp hp with hp | hp
      · exact N₂ p (List.mem_append_left _ hp)
      · rcases List.mem_cons.mp hp with rfl | hp
        · exact ⟨ho₂, hIL, hI0⟩
        · exact N₂ p (List.mem_append_right _ hp)
    have hsepr : ∀ p ∈ (s.heap.objs.size, o) :: tl, p.1 ∉ hs₀.map (·.1) := fun p hp hm => by
      rcases List.mem_cons.mp hp with rfl | hp
      · obtain ⟨q, hq, e⟩ := List.mem_map.mp hm
        exact hIn q (List.mem_append_left _ hq) e
      · exact hsep p hp hm
    refine wpAny_passesOwn PassesOwn.never (wpAny_mono (turn i vs[i] m' hs h₂ _ g _ (by simp [hlt]) hJ hadr hsepr (fun p hp => List.mem_cons_of_mem _ hp) F₂ NI) (fun f s₃ h₃ => ?_) fun _ _ e => e)
    have go : (∃ h' tk g m₂ hs, s₃ = { s with heap := h', toks := tk, gens := g } ∧ J (i + 1) m₂ hs g ∧ hs.map (·.1) = hs₀.map (·.1) ∧ Fr h₀ env.locals h' m₂ ∧ News h₀ env.locals h' (hs ++ ((s.heap.objs.size, o) :: tl))) →
        ∃ m, m < vs.length + 1 - i ∧ ∃ h' tk g m' hs i, s₃ = { s with heap := h', toks := tk, gens := g } ∧ h'.IsListIter s.heap.objs.size l i ∧ Fr h₀ env.locals h' m' ∧ News h₀ env.locals h' (hs ++ tl) ∧ hs.map (·.1) = hs₀.map (·.1) ∧ J i m' hs g ∧ i ≤ vs.length ∧ m = vs.length + 1 - i := by
      rintro ⟨h₃, tk₃, g₃, m₃, hs₃, e, hJ₃, ha₃, F₃, N₃⟩
      refine ⟨vs.length + 1 - (i + 1), by omega, h₃, tk₃, g₃, m₃, hs₃, i + 1, e, ⟨o, N₃.get (List.mem_append_right _ (.head _)), hc, hdt⟩, F₃, fun p hp => ?_, ha₃, hJ₃, hlt, rfl⟩
      rcases List.mem_append.mp hp with hp | hp
      · exact N₃ p (List.mem_append_left _ hp)
      · exact N₃ p (List.mem_append_right _ (.tail _ hp))
    cases f with
    | ret v => exact h₃
    | brk => exact h₃
    | next => exact go h₃
    | cont => exact go h₃
  · have hin : i = vs.length := by omega
    subst hin
    refine wpAny_pyNext_list_end hh hit hl' (by simp) fun h₁ hk₁ => wpAny_execs_nil ?_
    obtain ⟨F₁, N₁⟩ := up h₁ hk₁
    exact done m' hs h₁ tk g hJ hadr F₁ N₁
end
end
section
local macro_rules | `(tactic| walk_at "zz") => `(tactic| fail)
theorem forget1_8 {prog : Program} {w : World} {A : Around} {Q : Bool → Shared → Prop} {E : Value → Shared → Prop} {s : Shared} (h : wpAny (model prog w) A (truthy (.bool true)) Q E s) : wpAny (model prog w) A (truthy (.bool true)) Q E s := by
  w_top off
  first | (walk1; fail) | exact h
local macro_rules | `(tactic| walk_at "zz") => `(tactic| fail)
theorem forget2_8 {prog : Program} {w : World} {A : Around} {Q : Bool → Shared → Prop} {E : Value → Shared → Prop} {s : Shared} (h : wpAny (model prog w) A (truthy (.bool true)) Q E s) : wpAny (model prog w) A (truthy (.bool true)) Q E s := by
  first | (walk1; fail) | exact h
end
noncomputable section
theorem se_canLayAll0 : ∀ ns : List Str, (∀ x ∈ ns, PyData.strOk x = true) → PyData.canLayAll0 (ns.map PyData.str) = true
  | [], _ => rfl
  | y :: r, h => by simp [PyData.canLayAll0, PyData.canLay0, se_canLayAll0 r (fun x hx => h x (.tail _ hx)), h y (.head _)]
theorem se_depthAll : ∀ ns : List Str, PyData.depthAll (ns.map PyData.str) = 0
  | [] => rfl
  | _ :: r => by simp [PyData.depthAll, PyData.depth, se_depthAll r]
theorem se_shaped (ns : List Str) (h : ∀ x ∈ ns, PyData.strOk x = true) : PySem.SeqAt.shaped (.list (ns.map PyData.str)) = true := by
  simp [PySem.SeqAt.shaped, PyData.canLay0, PyData.depth, se_canLayAll0 ns h, se_depthAll]
theorem se_sameAll : ∀ ns ms : List Str, PySem.Spec.sameAll (ns.map PyData.str) (ms.map PyData.str) = decide (ns = ms)
  | [], [] => by simp [PySem.Spec.sameAll]
  | [], _ :: _ => by simp [PySem.Spec.sameAll]
  | _ :: _, [] => by simp [PySem.Spec.sameAll]
  | a :: r, b :: t => by
    simp only [List.map_cons, PySem.Spec.sameAll, PySem.Spec.same, se_sameAll r t]
    by_cases h : a = b <;> by_cases h' : r = t <;> simp [h, h']
theorem se_same (ns ms : List Str) : PySem.Spec.same (.list (ns.map PyData.str)) (.list (ms.map PyData.str)) = decide (ns = ms) := by
  simp only [PySem.Spec.same]; exact se_sameAll ns ms
section
variable {prog : Program} {w : World} {A : Around} {E : Value → Shared → Prop} {s : Shared} {a b : Addr} {xs ys : List Value} {ns ms : List Str} {Q : Value → Shared → Prop}
theorem eq_strs (ha : s.heap.IsList a xs.toArray) (hb : s.heap.IsList b ys.toArray) (hi : StrsAre xs ns) (hj : StrsAre ys ms) (oi : ∀ x ∈ ns, PyData.strOk x = true) (oj : ∀ x ∈ ms, PyData.strOk x = true) (hu : A.units + 64 < cLine) (h : Q (.bool (decide (ns = ms))) s) :
    wpAny (model prog w) A (compareOp .Eq (.ref a) (.ref b)) Q E s :=
  eq_dataH_same (reads_newData ha hi.carried) (reads_newData hb hj.carried) (se_shaped _ oi) (se_shaped _ oj) hu (PySem.SeqAt.noMix_of_shape (.list .str) rfl _ _ (list_map_has fun _ => rfl) (list_map_has fun _ => rfl)) (by rw [se_same]; exact h)
theorem ne_strs (ha : s.heap.IsList a xs.toArray) (hb : s.heap.IsList b ys.toArray) (hi : StrsAre xs ns) (hj : StrsAre ys ms) (oi : ∀ x ∈ ns, PyData.strOk x = true) (oj : ∀ x ∈ ms, PyData.strOk x = true) (hu : A.units + 64 < cLine) (h : Q (.bool (!decide (ns = ms))) s) :
    wpAny (model prog w) A (compareOp .NotEq (.ref a) (.ref b)) Q E s :=
  ne_dataH_same (reads_newData ha hi.carried) (reads_newData hb hj.carried) (se_shaped _ oi) (se_shaped _ oj) hu (PySem.SeqAt.noMix_of_shape (.list .str) rfl _ _ (list_map_has fun _ => rfl) (list_map_has fun _ => rfl)) (by rw [se_same]; exact h)
end
end
section
local macro_rules | `(tactic| walk_at "zz") => `(tactic| fail)
theorem forget1_9 {prog : Program} {w : World} {A : Around} {Q : Bool → Shared → Prop} {E : Value → Shared → Prop} {s : Shared} (h : wpAny (model prog w) A (truthy (.bool true)) Q E s) : wpAny (model prog w) A (truthy (.bool true)) Q E s := by
  w_top off
  first | (walk1; fail) | exact h
local macro_rules | `(tactic| walk_at "zz") => `(tactic| fail)
theorem forget2_9 {prog : Program} {w : World} {A : Around} {Q : Bool → Shared → Prop} {E : Value → Shared → Prop} {s : Shared} (h : wpAny (model prog w) A (truthy (.bool true)) Q E s) : wpAny (model prog w) A (truthy (.bool true)) Q E s := by
  first | (walk1; fail) | exact h
end
noncomputable section
def chainS (x : Str) (ss : List Str) : List Str := if ((behindS x).getD (Int.toNat 0) Str.empty == Str.ofString "7") = true then [x] else ss.filter fun o => (behindS x).take (behindS o).length == behindS o
local macro_rules | `(tactic| walk_at "call ref") => `(tactic| (refine' behind_call _ _ _ ?f2 _ _ _ _ _ _ _ _ _ _ _ _ _ _ _ _ _ _ _ _ _ ?k1 ?k2 ?k3 ?k4 ?k5 ?kK ?kd ?ku ?_; (case f2 => (show Str.length _ ≤ _; omega)); (case k1 => k_asm); (case k2 => k_asm); (case k3 => k_asm); (case k4 => k_asm); (case k5 => k_asm); (case kK => first | exact rfl | assumption); (case kd => ktr_room); (case ku => ktr_units); intro x9 ws9 n9 h9 tk9 P9 F9 N9 l9; (try dsimp only at P9); (try k_lt l9)))
local macro_rules | `(tactic| walk_at "exec For") => `(tactic| (refine wpAny_For ?_))
local macro_rules | `(tactic| walk_at "pyIter ref") => `(tactic| (fail "here"))
local macro_rules | `(tactic| walk_at "call builtin:len") => `(tactic| (refine len_strsA (isList_mem (by k_asm) (by k_mem)) (by assumption) (by omega) ?_))
theorem allLt_mem {d : Nat} : ∀ {l : List (Addr × Obj)}, AllLt d l → ∀ p ∈ l, p.1 < d
  | [], _, _, hp => nomatch hp
  | q :: _, h, p, hp => (List.mem_cons.mp hp).elim (fun e => e ▸ h.1) fun hp => allLt_mem h.2 p hp
structure Gd (x : Str) : Prop where
  len : x.length ≤ 100
  bl : (behindS x).length ≤ 100
  bp : 1 ≤ (behindS x).length
  ok : ∀ y ∈ behindS x, PyData.strOk y = true
theorem slice_take {vs : List Value} {ss : List Str} (h : StrsAre vs ss) (k : Nat) : StrsAre (slicePick vs.toArray none (some (k : Int)) none).toList (ss.take k) := by
  rw [slicePick_upto']; exact h.take' k
theorem sl_upto {prog : Program} {w : World} {A : Around} {E : Value → Shared → Prop} {s : Shared} {h₀ : Heap} {L l : Addr} {m : Str → Option Value} {news : List (Addr × Obj)} {value slice : PySem.Expr} {vs : List Value} {ss : List Str} {n k : Nat} {t : Tok} {Q : Value → Shared → Prop}
    (F : Fr h₀ L s.heap m) (N : News h₀ L s.heap news) (m1 : (l, lobj vs n) ∈ news) (hi : StrsAre vs ss) (hz : ss.length ≤ 1000)
    (hs : subscripted slice false (.ref l) (.ref s.heap.objs.size) = operate [.ref s.heap.objs.size, .ref l] (getItem (.ref l) (.ref s.heap.objs.size))) (ht : ∀ r, letTemporaryGo value (.ref l) r = pure ())
    (h : ∀ D ws h', Fr h₀ L h' m → News h₀ L h' ((D, lobj ws 0) :: news) → (∀ p ∈ news, p.1 < D) → StrsAre ws (ss.take k) → Q (.ref D) { s with heap := h' }) :
    wpAny (model prog w) A (subscriptTail value slice (.ref l) (.ref s.heap.objs.size)) Q E { s with heap := s.heap.push { cls := .type "slice", data := .fields #[.none, .int (k : Int) t, .none] } } :=
  kmk_slice F N (isList_mem N m1) .none (.int _ _) (fun D h' F' N' l1 => h D (slicePick vs.toArray none (some (k : Int)) none).toList h' F' (by rw [show (lobj (slicePick vs.toArray none (some (k : Int)) none).toList 0) = W.listOf (slicePick vs.toArray none (some (k : Int)) none) 0 from by simp [lobj]]; exact N') l1 (slice_take hi k)) hs ht
    (by rw [List.size_toArray, hi.len_eq]; simp only [sizeLine]; omega)
local macro_rules | `(tactic| walk_at "subscriptTail Name Slice ref ref") => `(tactic| (k_dflt (refine sl_upto (by k_asm) (by k_asm) (by k_mem) (by assumption) (by omega) (by with_unfolding_all rfl) (by intro _; rfl) ?_); intro D9 ws9 h9 F9 N9 l9 P9))
set_option hygiene false in
local macro_rules | `(tactic| walk_at "compareOp Eq ref ref") => `(tactic| (k_dflt (refine eq_strs (isList_mem (by k_asm) (by k_mem)) (isList_mem (by k_asm) (by k_mem)) (by assumption) (by assumption) (fun y hy => hbo y (List.mem_of_mem_take hy)) (by assumption) (by simp only [units_deeper]; omega) ?_)))
theorem app_drop {prog : Program} {w : World} {A : Around} {E : Value → Shared → Prop} {s : Shared} {h₀ : Heap} {L c : Addr} {m : Str → Option Value} {news tl : List (Addr × Obj)} {us : List Value} {k : Nat} {v : Value} {Q : Value → Shared → Prop}
    (F : Fr h₀ L s.heap m) (N : News h₀ L s.heap news) (hsub : ∀ p ∈ (c, lobj us k) :: tl, p ∈ news) (htl : ∀ p ∈ tl, p.1 ≠ c) (hsz : us.length ≤ 1000)
    (h : ∀ h', Fr h₀ L h' m → News h₀ L h' ((c, lobj (us ++ [v]) (k + 1)) :: tl) → Q .none { s with heap := h' }) : wpAny (model prog w) A (call (.builtin "list.append") [.ref c, v]) Q E s := by
  refine append_K F (cb_drop N hsub) (Upd.head htl) (fun h' F' N' => h h' F' ?_) (by show us.toArray.size ≤ _; rw [List.size_toArray]; simp only [sizeLine]; omega)
  have e : lobj (us ++ [v]) (k + 1) = W.listOf (us.toArray.push v) (k + 1) := by simp [lobj]
  rw [e]; exact N'
set_option hygiene false in
local macro_rules | `(tactic| walk_at "call builtin:list.append") => `(tactic| (k_dflt (refine app_drop (us := us) (k := k) (tl := (x9, lobj ws9 n9) :: rest) (by k_asm) (by k_asm) (fun p hp => List.Mem.tail _ (List.Mem.tail _ hp)) (List.forall_mem_cons.mpr ⟨Nat.ne_of_lt l1.1, hs1⟩) (by have := hus.len_eq; have := List.length_filter_le (fun o => (behindS x).take (behindS o).length == behindS o) (ss.take i); rw [List.length_take] at this; omega) ?_); intro h9 F9 N9))
theorem set2 {a b : Str} {u o u' o' : Option Value} {m₀ : Str → Option Value} : (fun y => if y = a then u' else if y = b then o' else (fun y => if y = a then u else if y = b then o else m₀ y) y) = fun y => if y = a then u' else if y = b then o' else m₀ y := by
  funext y
  by_cases h1 : y = a
  · simp [h1]
  · by_cases h2 : y = b <;> simp [h1, h2]
theorem set0 {a b : Str} {m₀ : Str → Option Value} (ha : m₀ a = none) (hb : m₀ b = none) : m₀ = fun y => if y = a then none else if y = b then none else m₀ y := by
  funext y
  by_cases h1 : y = a
  · subst h1; simp [ha]
  · by_cases h2 : y = b
    · subst h2; simp [h1, hb]
    · simp [h1, h2]
theorem chain_call {w : World} (news) (x : Str) (t : Tok) (l : Addr) (vs : List Value) (nl : Nat) (ss : List Str) (hl : (l, lobj vs nl) ∈ news) (hss : StrsAre vs ss) (gx : Gd x) (gs : ∀ o ∈ ss, Gd o) (hsz : ss.length ≤ 100) :
    ClL 2 w 181 news [.str x t, .ref l] (fun ws => StrsAre ws (chainS x ss)) := by
  obtain ⟨hx, hbx, hbp, hbo⟩ := gx
  walk_at "m.introL"
  refine' code_def (binds := [(Str.ofString "name", .str x t), (Str.ofString "order", .ref l)]) ?k1 ?k2 ?k3 ?k4 ?k5 ?kA ?kF ?kK ?k6 ?k7 ?k8 ?k9 ?kB ?_ ?c2 ?c3 ?c4 ?c5
  walk_at "m.enter"
  k_steps
  · (rename (_ == _) = true => e9)
    (rename News h₀ L _ _ => n9)
    (rename _ ∧ AllLt _ news => l1)
    refine hret _ [.str x t] 0 _ _ ?_ (by k_asm) (news_skip n9) (fun p hp => allLt_mem l1.2 p hp)
    unfold chainS
    rw [if_pos e9]
    exact .cons _ _ .nil
  · rename_i tk0 x9 ws9 n9 h9 tk9 P9 l9 h1 tk1 t1 e9 tk2 c h2 l1 h3 F3 N3
    refine loopG (hs₀ := [(c, lobj [] 0), (x9, lobj ws9 n9)]) (tl := news) (fun i m₁ hs g => g = s.gens ∧ (∃ u o, m₁ = fun y => if y = Str.ofString "upper" then u else if y = Str.ofString "one" then o else if y = Str.ofString "chain" then some (Value.ref c) else if y = Str.ofString "labels" then some (Value.ref x9)
      else List.lookup y [(Str.ofString "name", Value.str x t), (Str.ofString "order", Value.ref l)].reverse) ∧ ∃ us k, hs = [(c, lobj us k), (x9, lobj ws9 n9)] ∧ StrsAre us ((ss.take i).filter fun o => (behindS x).take (behindS o).length == behindS o)) rfl rfl rfl F3 N3 hl ?_ ?_ ?_ ?_
    · intro p hp
      have h1 := l9 p hp
      have h2 := allLt_mem l1.2 p hp
      simp only [List.map_cons, List.map_nil, List.mem_cons, List.not_mem_nil, or_false, not_or]
      exact ⟨Nat.ne_of_lt h2, Nat.ne_of_lt h1⟩
    · refine ⟨rfl, ⟨none, none, set0 rfl rfl⟩, [], 0, rfl, .nil⟩
    · rintro i v m₁ hs h tk g rest hv ⟨rfl, ⟨u, o, rfl⟩, us, k, rfl, hus⟩ hadr hsep hsub F N
      obtain ⟨oy, ot, rfl, hoy⟩ := hss.item i v hv
      dsimp only [List.cons_append, List.nil_append] at N
      obtain ⟨hol, hob, hop, hoo⟩ := gs oy (List.mem_of_getElem? hoy)
      clear F3 N3
      have hs1 : ∀ p ∈ rest, p.1 ≠ c := fun p hp => by have := hsep p hp; simp only [List.map_cons, List.map_nil, List.mem_cons, not_or] at this; exact this.1
      have hs2 : ∀ p ∈ rest, p.1 ≠ x9 := fun p hp => by have := hsep p hp; simp only [List.map_cons, List.map_nil, List.mem_cons, not_or] at this; exact this.2.1
      k_steps
      · (rename List.take _ _ = behindS oy => e8)
        refine ⟨_, _, _, _, [(c, lobj (us ++ [Value.str oy ot]) (k + 1)), (x9, lobj ws9 n9)], rfl, ⟨rfl, ⟨_, _, set2⟩, _, _, rfl, ?_⟩, rfl, F9, N9⟩
        · rw [List.take_add_one, hoy, List.filter_append]
          refine hus.append' ?_
          rw [show (some oy).toList = [oy] from rfl, List.filter_cons, if_pos (by rw [e8]; exact BEq.rfl)]
          exact .cons _ _ .nil
      · (rename ¬ (List.take _ _ = behindS oy) => e8)
        (rename News g' L' _ (_ :: _ :: (c, lobj us k) :: _) => N8)
        (rename Fr g' L' _ _ => F8)
        refine ⟨_, _, _, _, [(c, lobj us k), (x9, lobj ws9 n9)], rfl, ⟨rfl, ⟨_, _, set2⟩, _, _, rfl, ?_⟩, rfl, F8, cb_drop N8 (fun p hp => List.Mem.tail _ (List.Mem.tail _ hp))⟩
        · rw [List.take_add_one, hoy, List.filter_append, show (some oy).toList = [oy] from rfl, List.filter_cons, if_neg (by simpa using e8), List.filter_nil, List.append_nil]
          exact hus
    · rintro m₁ hs h tk g ⟨rfl, ⟨u, o, rfl⟩, us, k, rfl, hus⟩ hadr F N
      dsimp only [List.cons_append, List.nil_append] at N
      rw [show vs.length = ss.length from hss.len_eq, List.take_of_length_le (Nat.le_refl _)] at hus
      clear F3 N3
      k_steps
      (rename News h₀ L _ _ => n8)
      refine hret _ us k _ _ ?_ (by k_asm) (news_skip n8) (fun p hp => allLt_mem l1.2 p hp)
      unfold chainS
      rw [if_neg (by rw [e9]; exact Bool.false_ne_true)]
      exact hus
end
section
local macro_rules | `(tactic| walk_at "zz") => `(tactic| fail)
theorem forget1_10 {prog : Program} {w : World} {A : Around} {Q : Bool → Shared → Prop} {E : Value → Shared → Prop} {s : Shared} (h : wpAny (model prog w) A (truthy (.bool true)) Q E s) : wpAny (model prog w) A (truthy (.bool true)) Q E s := by
  w_top off
  first | (walk1; fail) | exact h
local macro_rules | `(tactic| walk_at "zz") => `(tactic| fail)
theorem forget2_10 {prog : Program} {w : World} {A : Around} {Q : Bool → Shared → Prop} {E : Value → Shared → Prop} {s : Shared} (h : wpAny (model prog w) A (truthy (.bool true)) Q E s) : wpAny (model prog w) A (truthy (.bool true)) Q E s := by
  first | (walk1; fail) | exact h
end
noncomputable section
section
variable {prog : Program} {w : World} {A : Around} {E : Value → Shared → Prop} {s : Shared} {h₀ : Heap} {L : Addr} {m : Str → Option Value} {env : Env} {ct elt : Expr} {x : Str} {scope : Scope} {cl : List (Str × Addr)} {S : List (Addr × Obj) → Prop} {Fin : List Value → List (Addr × Obj) → Prop} {news : List (Addr × Obj)}
theorem restU {vs : List Value} {ss : List Str} (g : Str → Str) (hi : StrsAre vs ss)
    (turn : ∀ y t I oI C oC D m₂ ys h tk (E' : Value → Shared → Prop), y ∈ ss → LCg.NsObj oC m₂ → m₂ x = some (.str y t) → Fr h₀ L h m → News h₀ L h ((I, oI) :: (C, oC) :: (D, LCg.lst ys) :: news) → LCg.Off3 I C D news → ((@Ne Nat I C) ∧ (@Ne Nat I D) ∧ (@Ne Nat C D)) →
      wpAny (model prog w) A (eval elt (compEnvC scope cl C env)) (LCg.CompEnd h₀ L m { s with heap := h, toks := tk } I oI C oC D (LCg.lst ys) S (fun v nw => nw = news ∧ ∃ t', v = .str (g y) t')) E' { s with heap := h, toks := tk })
    (fin : ∀ ys, StrsAre ys (ss.map g) → Fin ys news) : LCg.CompRest prog w A h₀ L m env elt x scope cl s S (fun i v => vs.toArray[i]? = some v) Fin vs.toArray.size 0 [] news := by
  have hn : vs.toArray.size = ss.length := by rw [List.size_toArray]; exact hi.len_eq
  rw [hn]
  have key : ∀ (j i : Nat) (ys : List Value), i + j = ss.length → StrsAre ys ((ss.take i).map g) → LCg.CompRest prog w A h₀ L m env elt x scope cl s S (fun i v => vs.toArray[i]? = some v) Fin j i ys news := by
    intro j
    induction j with
    | zero =>
      intro i ys he hy
      rw [List.take_of_length_le (by omega)] at hy
      exact LCg.CompRest.zero (fin ys hy)
    | succ j ih =>
      intro i ys he hy
      refine LCg.CompRest.succ ?_
      intro v I oI C oC D m₂ h tk E' hv hC hx F N off ne
      obtain ⟨y, t, hv', hyi⟩ := hi.item i v (by simpa using hv)
      rw [hv'] at hx
      refine wpAny_mono (turn y t I oI C oC D m₂ ys h tk E' (List.mem_of_getElem? hyi) hC hx F N off ne) (fun z s₂ hq => ?_) fun _ _ e => e
      obtain ⟨h', tk', nw, e, F', N', off', hS, hnw, t', hz⟩ := hq
      rw [hnw] at N' off' hS
      refine ⟨h', tk', news, e, F', N', off', hS, ?_⟩
      rw [hz]
      refine ih (i + 1) _ (by omega) ?_
      rw [List.take_add_one, hyi, List.map_append]
      exact hy.append' (.cons _ _ .nil)
  exact key ss.length 0 [] (by omega) (by simpa using .nil)
theorem restT {vs : List Value} {ss : List Str} (p : Str → Bool) (hi : StrsAre vs ss)
    (turn : ∀ y t I oI C oC D m₂ ys h tk (E' : Value → Shared → Prop), y ∈ ss → LCg.NsObj oC m₂ → m₂ x = some (.str y t) → Fr h₀ L h m → News h₀ L h ((I, oI) :: (C, oC) :: (D, LCg.lst ys) :: news) → LCg.Off3 I C D news → ((@Ne Nat I C) ∧ (@Ne Nat I D) ∧ (@Ne Nat C D)) →
      wpAny (model prog w) A (isTrue ct (compEnvC scope cl C env) (eval ct (compEnvC scope cl C env))) (fun b s' => b = p y ∧ ∃ h' tk', s' = { s with heap := h', toks := tk' } ∧ Fr h₀ L h' m ∧ News h₀ L h' ((I, oI) :: (C, oC) :: (D, LCg.lst ys) :: news)) E' { s with heap := h, toks := tk })
    (turn2 : ∀ y t I oI C oC D m₂ ys h tk (E' : Value → Shared → Prop), y ∈ ss → LCg.NsObj oC m₂ → m₂ x = some (.str y t) → Fr h₀ L h m → News h₀ L h ((I, oI) :: (C, oC) :: (D, LCg.lst ys) :: news) → 
      wpAny (model prog w) A (eval elt (compEnvC scope cl C env)) (fun v s' => (∃ t', v = .str y t') ∧ ∃ h' tk', s' = { s with heap := h', toks := tk' } ∧ Fr h₀ L h' m ∧ News h₀ L h' ((I, oI) :: (C, oC) :: (D, LCg.lst ys) :: news)) E' { s with heap := h, toks := tk })
    (hS : S news) (fin : ∀ ys, StrsAre ys (ss.filter p) → Fin ys news) : LCt.CompRestT prog w A h₀ L m env ct elt x scope cl s S (fun i v => vs.toArray[i]? = some v) Fin vs.toArray.size 0 [] news := by
  have hn : vs.toArray.size = ss.length := by rw [List.size_toArray]; exact hi.len_eq
  rw [hn]
  have key : ∀ (j i : Nat) (ys : List Value), i + j = ss.length → StrsAre ys ((ss.take i).filter p) → LCt.CompRestT prog w A h₀ L m env ct elt x scope cl s S (fun i v => vs.toArray[i]? = some v) Fin j i ys news := by
    intro j
    induction j with
    | zero =>
      intro i ys he hy
      rw [List.take_of_length_le (by omega)] at hy
      exact LCt.CompRestT.zero (fin ys hy)
    | succ j ih =>
      intro i ys he hy
      refine LCt.CompRestT.succ ?_
      intro v I oI C oC D m₂ h tk E' hv hC hx F N off ne
      obtain ⟨y, t, hv', hyi⟩ := hi.item i v (by simpa using hv)
      rw [hv'] at hx
      refine wpAny_mono (turn y t I oI C oC D m₂ ys h tk E' (List.mem_of_getElem? hyi) hC hx F N off ne) (fun b s₂ hq => ?_) fun _ _ e => e
      obtain ⟨hb, h', tk', rfl, F', N'⟩ := hq
      have et : (ss.take (i + 1)).filter p = (ss.take i).filter p ++ if p y = true then [y] else [] := by
        rw [List.take_add_one, hyi, List.filter_append]
        cases hpy : p y <;> simp [hpy]
      cases hpy : p y with
      | true =>
        rw [hb, hpy, if_pos rfl]
        refine wpAny_mono (turn2 y t I oI C oC D m₂ ys h' tk' E' (List.mem_of_getElem? hyi) hC hx F' N') (fun z s₃ hz => ?_) fun _ _ e => e
        obtain ⟨⟨t', rfl⟩, h3, tk3, rfl, F3, N3⟩ := hz
        refine ⟨h3, tk3, news, rfl, F3, N3, off, hS, ih (i + 1) _ (by omega) ?_⟩
        rw [et, hpy, if_pos rfl]
        exact hy.append' (.cons _ _ .nil)
      | false =>
        rw [hb, hpy, if_neg Bool.false_ne_true]
        refine ⟨h', tk', news, rfl, F', N', off, hS, ih (i + 1) _ (by omega) ?_⟩
        rw [et, hpy, if_neg Bool.false_ne_true, List.append_nil]
        exact hy
  exact key ss.length 0 [] (by omega) (by simpa using .nil)
def WPost (J : Nat → Shared → Prop) (n : Nat) (Q : Flow → Shared → Prop) (f : Flow) (s : Shared) : Prop := match f with
  | .ret v => Q (.ret v) s
  | .brk => Q .next s
  | _ => ∃ k, k < n ∧ J k s
theorem whileG {test : Expr} {body : List Stmt} {pos : Pos} {Q : Flow → Shared → Prop} (J : Nat → Shared → Prop) (n : Nat) (h : J n s)
    (turn : ∀ n s, J n s → wpAny (model prog w) A (isTrue test env (eval test env)) (fun b s₂ => if b = true then wpAny (model prog w) A (execs body env) (WPost J n Q) Nv s₂ else Q .next s₂) Nv s) :
    wpAny (model prog w) A (exec (.While test body [] pos) env) Q Nv s := by
  refine wpAny_While (codeAny_whileLoop J (fun n s hJ => ?_) n h)
  refine wpAny_passesOwn PassesOwn.never (wpAny_mono (turn n s hJ) (fun b s₂ hb => ?_) fun _ _ e => e)
  cases b with
  | false => exact wpAny_execs_nil hb
  | true =>
    refine wpAny_passesOwn PassesOwn.never (wpAny_mono hb (fun f s₃ hf => ?_) fun _ _ e => e)
    cases f <;> exact hf
end
def Stop (P : Prop) : Prop := P
theorem stopHere {P : Prop} (h : Stop P) : P := h
end
section
local macro_rules | `(tactic| walk_at "zz") => `(tactic| fail)
theorem forget1_11 {prog : Program} {w : World} {A : Around} {Q : Bool → Shared → Prop} {E : Value → Shared → Prop} {s : Shared} (h : wpAny (model prog w) A (truthy (.bool true)) Q E s) : wpAny (model prog w) A (truthy (.bool true)) Q E s := by
  w_top off
  first | (walk1; fail) | exact h
local macro_rules | `(tactic| walk_at "zz") => `(tactic| fail)
theorem forget2_11 {prog : Program} {w : World} {A : Around} {Q : Bool → Shared → Prop} {E : Value → Shared → Prop} {s : Shared} (h : wpAny (model prog w) A (truthy (.bool true)) Q E s) : wpAny (model prog w) A (truthy (.bool true)) Q E s := by
  first | (walk1; fail) | exact h
end
noncomputable section
def reachR (h : Str) : Str := reachS h ((foundRe h).getD false)
def nextR (h : Str) : Str := Txt.slice (reachR h) (some 1) none
def metS : Nat → Str → List Str → List Str
  | 0, _, _ => []
  | n + 1, h, ss => if (reachR h == h) = true then [] else ss.filter (fun o => Txt.lower o == nextR h) ++ metS n (nextR h) ss
def Hosts : Nat → Str → Bool
  | 0, h => ((foundRe h).isSome && decide (h.length ≤ 100) && decide ((reachR h).length ≤ 100)) && (reachR h == h)
  | n + 1, h => ((foundRe h).isSome && decide (h.length ≤ 100) && decide ((reachR h).length ≤ 100)) && (reachR h == h || Hosts n (nextR h))
theorem hosts_found {n : Nat} {h : Str} (H : Hosts n h = true) : ∃ b, foundRe h = some b ∧ reachR h = reachS h b ∧ h.length ≤ 100 ∧ (reachR h).length ≤ 100 := by
  have : ((foundRe h).isSome = true ∧ h.length ≤ 100) ∧ (reachR h).length ≤ 100 := by cases n <;> (simp only [Hosts, Bool.and_eq_true, decide_eq_true_eq] at H; exact H.1)
  obtain ⟨b, hb⟩ := Option.isSome_iff_exists.mp this.1.1
  exact ⟨b, hb, by unfold reachR; rw [hb]; rfl, this.1.2, this.2⟩
theorem hosts_next {n : Nat} {h : Str} (H : Hosts n h = true) (ne : (reachR h != h) = true) : ∃ k, n = k + 1 ∧ Hosts k (nextR h) = true := by
  have ne' : (reachR h == h) = false := by simpa using ne
  cases n with
  | zero => simp only [Hosts, ne', Bool.and_false] at H; cases H
  | succ k => simp only [Hosts, ne', Bool.false_or, Bool.and_eq_true] at H; exact ⟨k, rfl, H.2⟩
local macro_rules | `(tactic| walk_at "call ref") => `(tactic| (refine' reach_call _ _ _ ?f1 _ ?f2 _ _ _ _ _ _ _ _ _ _ _ _ _ _ _ _ _ _ _ _ _ ?k1 ?k2 ?k3 ?k4 ?k5 ?kK ?kd ?ku ?_; (case f2 => assumption); (case f1 => (show Str.length _ ≤ _; omega)); (case k1 => k_asm); (case k2 => k_asm); (case k3 => k_asm); (case k4 => k_asm); (case k5 => k_asm); (case kK => first | exact rfl | assumption); (case kd => ktr_room); (case ku => ktr_units); intro t9 h9 tk9 F9 N9; (try dsimp only)))
local macro_rules | `(tactic| walk_at "exec While") => `(tactic| (refine stopHere ?_))
local macro_rules | `(tactic| walk_at "eval ListComp") => `(tactic| (refine stopHere ?_))
local macro_rules | `(tactic| walk_at "Stop") => `(tactic| (fail "stop"))
local macro_rules | `(tactic| k_all) => `(tactic| assumption)
theorem ext_drop {prog : Program} {w : World} {A : Around} {E : Value → Shared → Prop} {s : Shared} {h₀ : Heap} {L c b : Addr} {m : Str → Option Value} {news tl : List (Addr × Obj)} {us zs : List Value} {k n2 : Nat} {Q : Value → Shared → Prop}
    (F : Fr h₀ L s.heap m) (N : News h₀ L s.heap news) (hb : (b, lobj zs n2) ∈ news) (hsub : ∀ p ∈ (c, lobj us k) :: tl, p ∈ news) (htl : ∀ p ∈ tl, p.1 ≠ c) (hsz : us.length + zs.length ≤ 1000)
    (h : ∀ h' k', Fr h₀ L h' m → News h₀ L h' ((c, lobj (us ++ zs) k') :: tl) → Q .none { s with heap := h' }) : wpAny (model prog w) A (call (.builtin "list.extend") [.ref c, .ref b]) Q E s := by
  refine extend_in (own := []) F (cb_drop N hsub) (fun _ hp => nomatch hp) htl (N.get hb) (fun h' n' F' N' => h h' n' F' ?_) (by rw [List.size_toArray]; simp only [sizeLine]; omega)
  simpa using N'
set_option hygiene false in
local macro_rules | `(tactic| walk_at "call builtin:list.extend") => `(tactic| (refine stopHere ?_))
theorem met_call {w : World} (news) (x : Str) (t : Tok) (l : Addr) (vs : List Value) (nl : Nat) (ss : List Str) (hl : (l, lobj vs nl) ∈ news) (hss : StrsAre vs ss) (hx : x.length ≤ 100) (hH : Hosts 4 (Txt.lower x) = true) (gs : ∀ o ∈ ss, o.length ≤ 100) (hsz : ss.length ≤ 100) :
    ClL 3 w 186 news [.str x t, .ref l] (fun ws => StrsAre ws (metS 4 (Txt.lower x) ss)) := by
  obtain ⟨b, hb, hr, hlx, hrx⟩ := hosts_found hH
  walk_at "m.introL"
  refine' code_defC (binds := [(Str.ofString "name", .str x t), (Str.ofString "order", .ref l)]) ?k1 ?k2 ?k3 ?k4 ?k5 ?kA ?kF ?kK ?k6 ?k7 ?k8 ?k9 ?kB ?kD ?_ ?c2 ?c3 ?c4
  walk_at "m.enterC"
  rename_i oc0 dc0
  change Fr g' L' h' (fun y => if y = Str.ofString "order" then some (.ref l) else if y = Str.ofString "name" then some (.str x t) else none) at F'
  change oc0.data = .cell none at dc0
  have hn1 : ∀ p ∈ news, p.1 ≠ L' + 1 := fun p hp => Nat.ne_of_lt (Nat.lt_succ_of_lt (l0' p hp))
  k_steps
  rename_i c h1 l1 h2 tk0 a0 h3 o0 d0 t9 h9 tk9 h4 F4 N4
  unfold Stop
  refine whileG (fun n s₁ => n ≤ 4 ∧ ∃ hh tk hst t1 t2 us k oc dn, Hosts n hst = true ∧ s₁ = { s with heap := hh, toks := tk } ∧ Fr g' L' hh (fun y => if y = Str.ofString "above" then some (.str (reachR hst) t2) else if y = Str.ofString "met" then some (.ref c) else if y = Str.ofString "order" then some (.ref l) else if y = Str.ofString "name" then some (.str x t) else none) ∧
    News g' L' hh ((c, lobj us k) :: (L' + 1, oc) :: news) ∧ oc.data = .cell (some (.str hst t1)) ∧ StrsAre us dn ∧ dn ++ metS n hst ss = metS 4 (Txt.lower x) ss ∧ us.length + 100 * n ≤ 400) 4 ?_ ?_
  · exact ⟨Nat.le_refl _, h4, tk, Txt.lower x, _, t9, [], 0, o0, [], hH, rfl, by rw [hr]; exact F4, N4, d0, .nil, rfl, by simp⟩
  · clear F4 N4 d0
    rintro n s₁ ⟨hn, hh, tk, hst, t1, t2, us, k, oc, dn, hH', rfl, F, N, dc, hus, hdn, hul⟩
    obtain ⟨b', hb', hr', hl', hrl⟩ := hosts_found hH'
    have hcl : c ≠ L' + 1 := Nat.ne_of_gt l1.1
    have hnc : ∀ p ∈ news, p.1 ≠ c := fun p hp => Nat.ne_of_lt (allLt_mem l1.2 p hp)
    k_steps
    · rename_i e8 h5 t5 k5 a5 h6 o6 F6 N6 d6
      obtain ⟨n', rfl, hHn⟩ := hosts_next hH' e8
      unfold Stop
      refine LCt.ListComp_T (F₀ := F6) (by with_unfolding_all rfl) (by decide) (by rfl) (by decide) (by rfl) ?_
      walk1
      refine LCt.CompSrcT.ledger rfl F6 N6 (.tail _ (.tail _ hl)) (by rw [List.size_toArray, hss.len_eq]; simp only [sizeLine]; omega) ?_
      intro g6
      refine restT (fun o => Txt.lower o == nextR hst) hss ?_ ?_ (.inr ⟨_, .tail _ (.tail _ hl), rfl, _, rfl⟩) ?_
      · intro y1 ty I oI C oC D m₂ ys h tk8 E' hy1 hC hx1 F N off ne
        clear F6 N6
        have hyl := gs y1 hy1
        k_steps
        all_goals first | exact F | exact N | rfl
      · intro y1 ty I oI C oC D m₂ ys h tk8 E' hy1 hC hx1 F N
        clear F6 N6
        k_steps
        all_goals first | exact F | exact N | rfl
      · intro ys hys
        unfold LCg.FinE
        intro D h7 tk7 F7 N7 off7
        clear F6 N6
        (try dsimp only)
        k_steps
        unfold Stop
        refine ext_drop (zs := ys) (n2 := ys.length) (us := us) (k := k) (tl := (L' + 1, o6) :: news) F7 N7 (.head _) (fun p hp => List.Mem.tail _ hp) (List.forall_mem_cons.mpr ⟨Ne.symm hcl, hnc⟩) (by have e1 := hys.len_eq; have e2 := List.length_filter_le (fun o => Txt.lower o == nextR hst) ss; omega) ?_
        intro h9 k9 F9 N9
        clear F7 N7
        obtain ⟨b2, hb2, hr2, hl2, hrl2⟩ := hosts_found hHn
        (try dsimp only)
        k_steps
        rename_i t9 h9 tk9 h' F' N'
        refine ⟨n', Nat.lt_succ_self _, by omega, h', tk, nextR hst, t5, t9, us ++ ys, k9, o6, _, hHn, rfl, ?_, N', d6, hus.append' hys, ?_, ?_⟩
        · rw [hr2]
          refine (congrArg (Fr g' L' h') (funext fun y => ?_)).mp F'
          by_cases hy : y = Str.ofString "above" <;> simp only [hy, if_true, if_false] <;> rfl
        · rw [← hdn, List.append_assoc]
          have e7 : (reachR hst == hst) = false := by simpa using e8
          simp only [metS, e7, Bool.false_eq_true, if_false]
        · have e1 := hys.len_eq; have e2 := List.length_filter_le (fun o => Txt.lower o == nextR hst) ss
          rw [List.length_append]; omega
    · (rename News h₀ L _ _ => n8)
      (rename (_ != _) = false => e8)
      refine hret _ us k _ _ ?_ (by k_asm) (news_skip n8) (fun p hp => allLt_mem l1.2 p hp)
      have e7 : (reachR hst == hst) = true := by simpa using e8
      have e6 : metS n hst ss = [] := by cases n <;> simp only [metS, e7, if_true]
      rw [e6, List.append_nil] at hdn
      rw [← hdn]; exact hus
end
section
local macro_rules | `(tactic| walk_at "zz") => `(tactic| fail)
theorem forget1_12 {prog : Program} {w : World} {A : Around} {Q : Bool → Shared → Prop} {E : Value → Shared → Prop} {s : Shared} (h : wpAny (model prog w) A (truthy (.bool true)) Q E s) : wpAny (model prog w) A (truthy (.bool true)) Q E s := by
  w_top off
  first | (walk1; fail) | exact h
local macro_rules | `(tactic| walk_at "zz") => `(tactic| fail)
theorem forget2_12 {prog : Program} {w : World} {A : Around} {Q : Bool → Shared → Prop} {E : Value → Shared → Prop} {s : Shared} (h : wpAny (model prog w) A (truthy (.bool true)) Q E s) : wpAny (model prog w) A (truthy (.bool true)) Q E s := by
  first | (walk1; fail) | exact h
end
noncomputable section
namespace Bi
abbrev pobj (d : Addr) (vs : List Value) (n : Nat) : Obj := { cls := .ref 151, dict := some d, data := .seq vs.toArray n, slots := #[] }
theorem if_so {α : Type} {M : Model} {A : Around} {E : Value → Shared → Prop} {s : Shared} {c : Bool} {a b : Sem α} {Q : α → Shared → Prop} (hc : c = true) (h : wpAny M A a Q E s) : wpAny M A (if c = true then a else b) Q E s := by
  subst hc; exact h
theorem if_not {α : Type} {M : Model} {A : Around} {E : Value → Shared → Prop} {s : Shared} {c : Bool} {a b : Sem α} {Q : α → Shared → Prop} (hc : c = false) (h : wpAny M A b Q E s) : wpAny M A (if c = true then a else b) Q E s := by
  subst hc; exact h
theorem slot_md : Slot "method_descriptor" "__get__" "method_descriptor.__get__" :=
  .of (owner := "method_descriptor") (n := "__get__") (by rw [typeLookup_type, builtinLookup_eq_fast]; kernel_rfl) (by decide +kernel) (by decide +kernel) (by decide +kernel)
    (by first | exact .inl (by decide +kernel) | exact .inr (by decide +kernel)) (by rw [isSubtype_type]; kernel_rfl)
theorem slot_wd : Slot "wrapper_descriptor" "__get__" "wrapper_descriptor.__get__" :=
  .of (owner := "wrapper_descriptor") (n := "__get__") (by rw [typeLookup_type, builtinLookup_eq_fast]; kernel_rfl) (by decide +kernel) (by decide +kernel) (by decide +kernel)
    (by first | exact .inl (by decide +kernel) | exact .inr (by decide +kernel)) (by rw [isSubtype_type]; kernel_rfl)
theorem entry_md : entryFor table "method_descriptor.__get__" = some Builtin.«method_descriptor.__get__» := entryFor_of_tree (by kernel_rfl)
theorem entry_wd : entryFor table "wrapper_descriptor.__get__" = some Builtin.«wrapper_descriptor.__get__» := entryFor_of_tree (by kernel_rfl)
theorem args_md (a b c : Value) : argsOk "method_descriptor.__get__" ⟨[a, b, c], []⟩ := by unfold argsOk; kernel_rfl
theorem args_wd (a b c : Value) : argsOk "wrapper_descriptor.__get__" ⟨[a, b, c], []⟩ := by unfold argsOk; kernel_rfl
abbrev bnd (T id : String) (x : Addr) : Obj := { cls := .type T, data := .fields #[.builtin id, .ref x] }
section
variable {prog : Program} {w : World} {M : Model} {A : Around} {E : Value → Shared → Prop} {s : Shared} {h₀ : Heap} {L : Addr} {m : Str → Option Value} {news : List (Addr × Obj)}
theorem run_wd {x C : Addr} {id n : String} {P : Fin → Shared → Prop} (ho : (kfb_private% "ownerAndName") id = ("list", n)) (hi : Looks M s.heap (isInstance (.ref x) (.type "list")) true)
    (h : P (.done (.ret (.ref s.heap.objs.size))) { s with heap := s.heap.push (bnd "method-wrapper" id x) }) : wpAny M A (Builtin.«wrapper_descriptor.__get__» ⟨[.builtin id, .ref x, .ref C], []⟩) P E s := by
  unfold Builtin.«wrapper_descriptor.__get__»
  refine wpAny_bind (wpAny_of_eq (a := (.builtin id, some (.ref x), some (.ref C))) (by rfl) ?_)
  show wpAny M A ((kfb_private% "checkInstance") (.builtin id) (.ref x) >>= fun _ => _) _ _ _
  refine wpAny_bind ?_
  show wpAny M A ((kfb_private% "nameAndClass") (.builtin id) >>= fun _ => _) _ _ _
  refine wpAny_bind (wpAny_of_eq (a := (Str.ofString n, .type "list")) (by show pure (Str.ofString ((kfb_private% "ownerAndName") id).2, Value.type ((kfb_private% "ownerAndName") id).1) = _; rw [ho]) ?_)
  refine wpAny_bind (hi.here ?_)
  refine if_not rfl (wpAny_pure ?_)
  exact wpAny_bind (wpAny_newObj_type (wpAny_pure h))
theorem run_md {x C : Addr} {id n : String} {P : Fin → Shared → Prop} (ho : (kfb_private% "ownerAndName") id = ("list", n)) (ht : Manifest.toldItsClass.contains id = false) (hi : Looks M s.heap (isInstance (.ref x) (.type "list")) true)
    (h : P (.done (.ret (.ref s.heap.objs.size))) { s with heap := s.heap.push (bnd "builtin_function_or_method" id x) }) : wpAny M A (Builtin.«method_descriptor.__get__» ⟨[.builtin id, .ref x, .ref C], []⟩) P E s := by
  unfold Builtin.«method_descriptor.__get__»
  refine wpAny_bind (wpAny_of_eq (a := (.builtin id, some (.ref x), some (.ref C))) (by rfl) ?_)
  simp only [ht, Bool.false_eq_true, if_false]
  show wpAny M A ((kfb_private% "checkInstance") (.builtin id) (.ref x) >>= fun _ => _) _ _ _
  refine wpAny_bind ?_
  show wpAny M A ((kfb_private% "nameAndClass") (.builtin id) >>= fun _ => _) _ _ _
  refine wpAny_bind (wpAny_of_eq (a := (Str.ofString n, .type "list")) (by show pure (Str.ofString ((kfb_private% "ownerAndName") id).2, Value.type ((kfb_private% "ownerAndName") id).1) = _; rw [ho]) ?_)
  refine wpAny_bind (hi.here ?_)
  refine if_not rfl (wpAny_pure ?_)
  exact wpAny_bind (wpAny_newObj_type (wpAny_pure h))
open Builtin in
theorem ga_super {so D x C : Addr} {l₀ l : List Value} {K : W.Frag} {name : Str} {tk : Tok} {id dt gid : String} {G : Builtin} {g : Array GenState} {d : Drawn} {t : Nat} {os : OsState} {h : Heap} {bo : Obj} {Q : Fin → Shared → Prop}
    (hso : h.get? so = some { cls := .type "super", dict := none, data := .fields #[.ref D, .ref x, .ref C], slots := #[] }) (hno : Looks (model prog w) h (opaqueClassAbove (.ref C)) none)
    (hC : Looks (model prog w) h (mroOf (.ref C)) l₀) (hl : (l₀.dropWhile (· != .ref D)).drop 1 = l) (X : K.In h)
    (hf : alongIn K name l = some (some (.builtin id))) (ht : typeOf (.builtin id) = pure (.type dt)) (hsl : Slot dt "__get__" gid) (hen : entryFor table gid = some G) (har : ∀ a b c, argsOk gid ⟨[a, b, c], []⟩)
    (hG : ∀ {A : Around} {P : Fin → Shared → Prop} {E : Value → Shared → Prop}, P (.done (.ret (.ref h.objs.size))) ⟨h.push bo, g, d, t, os⟩ → wpAny (model prog w) A (G ⟨[.builtin id, .ref x, .ref C], []⟩) P E ⟨h, g, d, t, os⟩)
    (hxC : x ≠ C) (hn : (name == ("__class__" : Str)) = false)
    (hq : Q (.done (.ret (.ref h.objs.size))) ⟨h.push bo, g, d, t, os⟩) :
    wpAny (model prog w) A (Builtin.«super.__getattribute__» ⟨[.ref so, .str name tk], []⟩) Q E ⟨h, g, d, t, os⟩ := by
  have hlk := hsl.lookup
  have hne : (Value.ref x == Value.ref C) = false := by simp [hxC]
  have hTf : (⟨h, g, d, t, os⟩ : Shared).TypeIs (.builtin id) dt := ht
  have hdt : ({ cls := .type "super", dict := none, data := .fields #[.ref D, .ref x, .ref C], slots := #[] } : Obj).data = .fields #[.ref D, .ref x, .ref C] := rfl
  have f0 : (#[.ref D, .ref x, .ref C] : Array Value)[0]? = some (.ref D) := rfl
  have f1 : (#[.ref D, .ref x, .ref C] : Array Value)[1]? = some (.ref x) := rfl
  have f2 : (#[.ref D, .ref x, .ref C] : Array Value)[2]? = some (.ref C) := rfl
  unfold Builtin.«super.__getattribute__»
  repeat (first
    | (with_reducible refine wpAny_field hso hdt f0 ?_) | (with_reducible refine wpAny_field hso hdt f1 ?_) | (with_reducible refine wpAny_field hso hdt f2 ?_)
    | (with_reducible refine ks_wpAny_notOpaque hno ?_)
    | (with_reducible refine Looks.at hC ?_; rw [hl])
    | (refine ks_forIn_along X (fun _ _ => rfl) rfl ?_ hf)
    | (with_reducible refine wpAny_typeOf hTf ?_)
    | (with_reducible refine wpAny_call_entry hsl hTf hen (hG ?_) (har _ _ _))
    | (with_reducible refine ⟨_, rfl, ?_⟩)
    | (simp only [hn, hne, Bool.or_false, Bool.false_eq_true, if_false])
    | wp_step
    | dsimp only)
  all_goals exact hq
theorem gm_super {so D x C : Addr} {l₀ l : List Value} {K : W.Frag} {name : Str} {id dt gid : String} {G : Builtin} {g : Array GenState} {d : Drawn} {t : Nat} {os : OsState} {h : Heap} {bo : Obj} {pl : Sem Bool} {Q : Value × List Value → Shared → Prop}
    (hso : h.get? so = some { cls := .type "super", dict := none, data := .fields #[.ref D, .ref x, .ref C], slots := #[] }) (hno : Looks (model prog w) h (opaqueClassAbove (.ref C)) none)
    (hC : Looks (model prog w) h (mroOf (.ref C)) l₀) (hl : (l₀.dropWhile (· != .ref D)).drop 1 = l) (X : K.In h)
    (hf : alongIn K name l = some (some (.builtin id))) (ht : typeOf (.builtin id) = pure (.type dt)) (hsl : Slot dt "__get__" gid) (hen : entryFor table gid = some G) (har : ∀ a b c, argsOk gid ⟨[a, b, c], []⟩)
    (hG : ∀ {A : Around} {P : Fin → Shared → Prop} {E : Value → Shared → Prop}, P (.done (.ret (.ref h.objs.size))) ⟨h.push bo, g, d, t + 1, os⟩ → wpAny (model prog w) A (G ⟨[.builtin id, .ref x, .ref C], []⟩) P E ⟨h, g, d, t + 1, os⟩)
    (hxC : x ≠ C) (hn : (name == ("__class__" : Str)) = false)
    (hq : Q (.ref h.objs.size, []) ⟨h.push bo, g, d, t + 1, os⟩) :
    wpAny (model prog w) A (getMethod (.ref so) name pl) Q E ⟨h, g, d, t, os⟩ := by
  have hlk := F.ks_slot_super_ga.lookup
  have hcan := F.ks_canon_super_ga
  have hT : ∀ t', (⟨h, g, d, t', os⟩ : Shared).TypeIs (.ref so) "super" := fun _ => ⟨_, hso, rfl⟩
  unfold getMethod
  refine wpAny_bind (wpAny_specialOf (hT _) hlk ?_)
  show wpAny _ _ (if (Manifest.canonical "super.__getattribute__" != "object.__getattribute__") = true then _ else _) _ _ _
  rw [if_pos hcan]
  unfold getAttr getAttrBy
  refine wpAny_bind (wpAny_bind (wpAny_mkText (wpAny_holding (wpAny_bind (wpAny_typeOf (hT _) (wpAny_bind (wpAny_of_eq hlk ?_)))))))
  show wpAny _ _ (getAttrByItsOwn (.ref so) (.str name t) (.type "super") (.builtin "super.__getattribute__") true false) _ _ _
  unfold getAttrByItsOwn hookBefore callGetattribute boundAndCalled
  refine wpAny_bind (wpAny_of_eq (show (if onTheHeap (.type "super") then typeLookup (.type "super") "__getattr__" else pure none) = pure none from rfl) ?_)
  refine wpAny_bind (wpAny_attempt (wpAny_holding ?_))
  show wpAny _ _ (bindSpecial (.builtin "super.__getattribute__") (.ref so) >>= _) _ _ _
  refine wpAny_bind (wpAny_of_eq (F.ks_slot_super_ga.bind _) ?_)
  refine wpAny_mono (Q := fun v s' => v = .ref h.objs.size ∧ s' = ⟨h.push bo, g, d, t + 1, os⟩) (E := fun _ _ => False)
    (wpAny_call_entry F.ks_slot_super_ga (hT _) F.ks_entry_super_ga (ga_super hso hno hC hl X hf ht hsl hen har hG hxC hn ⟨_, rfl, rfl, rfl⟩) (F.ks_gaArgs_super _ _)) (fun v s' hv => ?_) fun _ _ z => z.elim
  obtain ⟨rfl, rfl⟩ := hv
  exact wpAny_pure (wpAny_pure hq)
theorem callWith_bnd {pos : Pos} {u x : Addr} {T id : String} {first : List Value} {args : List (Bool × Sem Value)} {Q : Value → Shared → Prop} (hT : T = "builtin_function_or_method" ∨ T = "method-wrapper") (hplain : args.any (·.1) = false)
    (h : wpAny M A (evalArgs (.ref u) true args []) (fun y s₁ => s₁.heap.get? u = some (bnd T id x) ∧ wpAny M A (call (.ref u) (first ++ y.pos) y.kw) Q E s₁) E s) : wpAny M A (callWith pos (.ref u) first args []) Q E s := by
  unfold callWith
  refine wpAny_bind (wpAny_holding (wpAny_mono h (fun x s₁ h₁ => wpAny_bind (wpAny_standAt ?_)) fun _ _ x => x))
  obtain ⟨ho, hcall⟩ := h₁
  simp only [hplain, List.any_nil, Bool.or_false]
  refine wpAny_bind (m := keeperOf (.ref u)) ?_
  unfold keeperOf
  refine wpAny_bind (wpAny_load ho ?_)
  have h1 : (Value.type T != Value.type "method") = true := by rcases hT with rfl | rfl <;> decide
  have h2 : (Value.type T == Value.type "builtin_function_or_method" || Value.type T == Value.type "method-wrapper") = true := by rcases hT with rfl | rfl <;> decide
  simp only [h1, h2, if_true]
  refine wpAny_pure ?_
  exact wpAny_bind (wpAny_mono hcall (fun r s₂ hr => wpAny_bind (wpAny_holding (wpAny_point (wpAny_pure hr)))) fun _ _ x => x)
theorem call_bnd {u x : Addr} {T id : String} {B : Builtin} {args : List Value} {Q : Value → Shared → Prop} (hT : T = "builtin_function_or_method" ∨ T = "method-wrapper") (ho : s.heap.get? u = some (bnd T id x))
    (hck : ∀ {P : Unit → Shared → Prop} {E : Value → Shared → Prop}, P () s → wpAny (model prog w) A.in1 (checkBoundCall id ⟨.ref x :: args, []⟩) P E s) (hqu : ∀ as, (Code.builtin id as).quiet = true) (hen : entryFor table id = some B)
    (h : wpAny (model prog w) (A.under (.builtin id ⟨.ref x :: args, []⟩)) (B ⟨.ref x :: args, []⟩) (fun fin s' => match fin with | .done (.ret v) => Q v s' | _ => False) E s) : wpAny (model prog w) A (call (.ref u) args) Q E s := by
  refine wpAny_call (codeAny_of_tree ?_)
  show wpAny _ A.in1 (callAny (.ref u) ⟨args, []⟩) _ _ s
  simp only [callAny]
  refine wpAny_bind (wpAny_load ho ?_)
  have h1 : (Value.type T != Value.type "method") = true := by rcases hT with rfl | rfl <;> decide
  have h2 : (Value.type T == Value.type "method" || Value.type T == Value.type "builtin_function_or_method" || Value.type T == Value.type "method-wrapper") = true := by rcases hT with rfl | rfl <;> decide
  simp only [h2, if_true]
  refine if_so h1 ?_
  refine wpAny_bind (hck ?_)
  refine wpAny_bind (wpAny_pure (wpAny_pure ?_))
  refine ⟨hqu _, codeAny_builtin hen ?_⟩
  refine wpAny_mono h (fun fin s' z => ?_) fun _ _ z => z
  rcases fin with (_ | _ | _ | _) | _ <;> first | exact z | exact z.elim
end
end Bi
end
section
local macro_rules | `(tactic| walk_at "zz") => `(tactic| fail)
theorem forget1_13 {prog : Program} {w : World} {A : Around} {Q : Bool → Shared → Prop} {E : Value → Shared → Prop} {s : Shared} (h : wpAny (model prog w) A (truthy (.bool true)) Q E s) : wpAny (model prog w) A (truthy (.bool true)) Q E s := by
  w_top off
  first | (walk1; fail) | exact h
local macro_rules | `(tactic| walk_at "zz") => `(tactic| fail)
theorem forget2_13 {prog : Program} {w : World} {A : Around} {Q : Bool → Shared → Prop} {E : Value → Shared → Prop} {s : Shared} (h : wpAny (model prog w) A (truthy (.bool true)) Q E s) : wpAny (model prog w) A (truthy (.bool true)) Q E s := by
  first | (walk1; fail) | exact h
end
noncomputable section
open Bi
theorem inst_pile {h₀ h : Heap} {L p d : Addr} {vs : List Value} {n : Nat} {o : Obj} {news : List (Addr × Obj)} (N : News h₀ L h news) (h1 : (p, pobj d vs n) ∈ news) (h2 : (d, o) ∈ news) : W.InstAt h p (pobj d vs n) 151 (some o) := ⟨N.get h1, rfl, rfl, N.get h2⟩
theorem isl_pile {w : World} {M : Model} {h : Heap} {p : Addr} {ox : Obj} {od : Option Obj} (X : (hd.heap_39 w.params).In h) (I : W.InstAt h p ox 151 od) : Looks M h (isInstance (.ref p) (.type "list")) true := I.type.andThen (looks_mroIn X (by kernel_rfl))
namespace Bi
theorem own_len : (kfb_private% "ownerAndName") "list.__len__" = ("list", "__len__") := by first | decide +kernel | kernel_rfl
theorem own_pop : (kfb_private% "ownerAndName") "list.pop" = ("list", "pop") := by first | decide +kernel | kernel_rfl
theorem own_init : (kfb_private% "ownerAndName") "list.__init__" = ("list", "__init__") := by first | decide +kernel | kernel_rfl
theorem ty_len : typeOf (.builtin "list.__len__") = pure (.type "wrapper_descriptor") := by show builtinType _ = _; rw [builtinType_eq_fast]; kernel_rfl
theorem ty_init : typeOf (.builtin "list.__init__") = pure (.type "wrapper_descriptor") := by show builtinType _ = _; rw [builtinType_eq_fast]; kernel_rfl
theorem ty_pop : typeOf (.builtin "list.pop") = pure (.type "method_descriptor") := by show builtinType _ = _; rw [builtinType_eq_fast]; kernel_rfl
theorem en_len : entryFor table "list.__len__" = some Builtin.«list.__len__» := entryFor_of_tree (by kernel_rfl)
theorem en_init : entryFor table "list.__init__" = some Builtin.«list.__init__» := entryFor_of_tree (by kernel_rfl)
theorem en_pop : entryFor table "list.pop" = some Builtin.«list.pop» := entryFor_of_tree (by kernel_rfl)
theorem told_pop : Manifest.toldItsClass.contains "list.pop" = false := by decide +kernel
end Bi
section
variable {prog : Program} {w : World} {A : Around} {E : Value → Shared → Prop} {s : Shared} {h₀ : Heap} {L : Addr} {m : Str → Option Value} {news : List (Addr × Obj)}
theorem gm_wd {so p : Addr} {ox : Obj} {od : Option Obj} {name : Str} {id n : String} {pl : Sem Bool} {Q : Value × List Value → Shared → Prop} (F : Fr h₀ L s.heap m) (X₀ : (hd.heap_39 w.params).In h₀) (N : News h₀ L s.heap news)
    (hso : (so, ks_superObj 151 p 151) ∈ news) (I : W.InstAt s.heap p ox 151 od) (hn : (name == ("__class__" : Str)) = false) (ht : typeOf (.builtin id) = pure (.type "wrapper_descriptor")) (ho : (kfb_private% "ownerAndName") id = ("list", n))
    (hm : ks_superIn (hd.heap_39 w.params) 151 151 name = some (some (.builtin id)))
    (h : ∀ q h', Fr h₀ L h' m → News h₀ L h' ((q, bnd "method-wrapper" id p) :: news) → (∀ p ∈ news, p.1 < q) → Q (.ref q, []) { s with heap := h', toks := s.toks + 1 }) : wpAny (model prog w) A (getMethod (.ref so) name pl) Q E s := by
  have X := X₀.keeps F.keep
  obtain ⟨hh, g, d, t, os⟩ := s
  cases hc : clsIn (hd.heap_39 w.params) 151 with
  | none => unfold ks_superIn at hm; rw [hc] at hm; cases hm
  | some cd =>
    unfold ks_superIn at hm
    rw [hc] at hm
    refine gm_super (N _ hso).1 (looks_opaque X (by kernel_rfl)) (l₀ := cd.mro) ?_ rfl X hm ht slot_wd entry_wd args_wd (fun z => run_wd (s := ⟨hh, g, d, t + 1, os⟩) ho (isl_pile X I) z) (ks_ne X I hc) hn ?_
    · exact fun A Q E s k q => wpAny_bind ((looks_clsIn X hc) A _ E s k (wpAny_pure q))
    · obtain ⟨F', N', l'⟩ := ks_newsPush (s := ⟨hh, g, d, t, os⟩) (o := bnd "method-wrapper" id p) F N rfl (Heap.get?_push_at rfl rfl) (fun b o e => Heap.get?_push_of_some _ e)
      exact h _ _ F' N' l'
theorem gm_md {so p : Addr} {ox : Obj} {od : Option Obj} {name : Str} {id n : String} {pl : Sem Bool} {Q : Value × List Value → Shared → Prop} (F : Fr h₀ L s.heap m) (X₀ : (hd.heap_39 w.params).In h₀) (N : News h₀ L s.heap news)
    (hso : (so, ks_superObj 151 p 151) ∈ news) (I : W.InstAt s.heap p ox 151 od) (hn : (name == ("__class__" : Str)) = false) (ht : typeOf (.builtin id) = pure (.type "method_descriptor")) (ho : (kfb_private% "ownerAndName") id = ("list", n)) (htl : Manifest.toldItsClass.contains id = false)
    (hm : ks_superIn (hd.heap_39 w.params) 151 151 name = some (some (.builtin id)))
    (h : ∀ q h', Fr h₀ L h' m → News h₀ L h' ((q, bnd "builtin_function_or_method" id p) :: news) → (∀ p ∈ news, p.1 < q) → Q (.ref q, []) { s with heap := h', toks := s.toks + 1 }) : wpAny (model prog w) A (getMethod (.ref so) name pl) Q E s := by
  have X := X₀.keeps F.keep
  obtain ⟨hh, g, d, t, os⟩ := s
  cases hc : clsIn (hd.heap_39 w.params) 151 with
  | none => unfold ks_superIn at hm; rw [hc] at hm; cases hm
  | some cd =>
    unfold ks_superIn at hm
    rw [hc] at hm
    refine gm_super (N _ hso).1 (looks_opaque X (by kernel_rfl)) (l₀ := cd.mro) ?_ rfl X hm ht slot_md entry_md args_md (fun z => run_md (s := ⟨hh, g, d, t + 1, os⟩) ho htl (isl_pile X I) z) (ks_ne X I hc) hn ?_
    · exact fun A Q E s k q => wpAny_bind ((looks_clsIn X hc) A _ E s k (wpAny_pure q))
    · obtain ⟨F', N', l'⟩ := ks_newsPush (s := ⟨hh, g, d, t, os⟩) (o := bnd "builtin_function_or_method" id p) F N rfl (Heap.get?_push_at rfl rfl) (fun b o e => Heap.get?_push_of_some _ e)
      exact h _ _ F' N' l'
theorem callWith_bnd0 {M : Model} {pos : Pos} {u x : Addr} {T id : String} {env : Env} {Q : Value → Shared → Prop} (hT : T = "builtin_function_or_method" ∨ T = "method-wrapper") (hu : s.heap.get? u = some (bnd T id x))
    (h : wpAny M A (call (.ref u) []) Q E s) : wpAny M A (callWith pos (.ref u) [] (backTo pos (starEach [] env)) []) Q E s := by
  refine callWith_bnd (x := x) (id := id) hT (by rfl) ?_
  show wpAny M A (evalArgs (.ref u) true [] []) _ _ _
  exact wpAny_of_eq (a := (⟨[], []⟩ : Args)) (by rfl) (And.intro hu h)
theorem call_len {u p : Addr} {d : Addr} {vs : List Value} {n : Nat} {od : Option Obj} {Q : Value → Shared → Prop} (hu : s.heap.get? u = some (bnd "method-wrapper" "list.__len__" p)) (I : W.InstAt s.heap p (pobj d vs n) 151 od)
    (h : ∀ t k, Q (.int vs.length t) { s with toks := k }) : wpAny (model prog w) A (call (.ref u) []) Q E s := by
  refine call_bnd (.inr rfl) hu ?_ (fun as => Code.quiet_builtin _ (by decide +kernel)) en_len ?_
  · intro P E z
    exact wpAny_of_eq (a := ()) (by first | rfl | kernel_rfl) z
  · unfold Builtin.«list.__len__»
    obtain ⟨hh, g, dd, t, os⟩ := s
    have hp := I.at_
    wp_walk
    show Q (Value.int (↑vs.toArray.size) t) _
    rw [List.size_toArray]; exact h _ _
theorem sub_mod {w : World} {M : Model} {h : Heap} {p : Addr} {ox : Obj} {od : Option Obj} (X : (hd.heap_39 w.params).In h) (I : W.InstAt h p ox 151 od) : Looks M h (isInstance (.ref p) (.type "module")) false := I.type.andThen (looks_mroIn X (by kernel_rfl))
theorem ck_pop {p d : Addr} {vs : List Value} {n : Nat} {od : Option Obj} {P : Unit → Shared → Prop} (X : (hd.heap_39 w.params).In s.heap) (I : W.InstAt s.heap p (pobj d vs n) 151 od) (z : P () s) : wpAny (model prog w) A (checkBoundCall "list.pop" ⟨[.ref p], []⟩) P E s := by
  obtain ⟨hh, g, dd, t, os⟩ := s
  unfold checkBoundCall
  have hs : (match Manifest.signature? "list.pop" with | some sig => Bind.checkArgs "list.pop" { sig with full := "_Accumulator.pop" } ⟨[.ref p], []⟩ | none => pure ()) = pure () := by kernel_rfl
  cases h1 : Manifest.signature? "list.pop" with
  | none => exact wpAny_pure z
  | some sig =>
    simp only [h1] at hs
    have hk : builtinKind "list.pop" = some .method := by decide +kernel
    simp only [hk]
    refine if_not (by decide) ?_
    refine wpAny_bind ((sub_mod X I).here ?_)
    refine if_not (by decide +kernel) ?_
    refine wpAny_bind (ks_wpAny_isType_inst I.at_ (fun c e => by cases e) ?_)
    refine if_not rfl ?_
    refine wpAny_bind (I.type.here ?_)
    have hq : (clsIn (hd.heap_39 w.params) 151).map (·.qualname.toString) = some "_Accumulator" := by kernel_rfl
    obtain ⟨cd, hc, hqn⟩ := Option.map_eq_some_iff.mp hq
    have ht : typeIn (hd.heap_39 w.params) (.ref 151) = some (.type "type") := by kernel_rfl
    refine wpAny_bind ((looks_clsIn X hc).here ?_)
    refine wpAny_bind ((looks_typeIn X ht).here ?_)
    refine if_so (by decide) ?_
    have e : (toString cd.qualname.toString ++ toString "." ++ toString (Bind.lastOf "list.pop")) = "_Accumulator.pop" := by rw [hqn]; decide +kernel
    show wpAny _ _ (Bind.checkArgs "list.pop" { sig with full := (toString cd.qualname.toString ++ toString "." ++ toString (Bind.lastOf "list.pop")) } _) _ _ _
    rw [e]
    exact wpAny_of_eq hs z
theorem updP {h : Heap} {p d : Addr} {vs us : List Value} {n : Nat} {tl : List (Addr × Obj)} {f : Array Value → Array Value} (F : Fr h₀ L h m) (N : News h₀ L h news) (hsub : ∀ q ∈ (p, pobj d vs n) :: tl, q ∈ news) (htl : ∀ q ∈ tl, q.1 ≠ p) (hf : f vs.toArray = us.toArray) :
    ∃ n', Fr h₀ L (h.update p (Obj.mapSeq f)) m ∧ News h₀ L (h.update p (Obj.mapSeq f)) ((p, pobj d us n') :: tl) := by
  have hm := N _ (hsub _ (.head _))
  have ho : ∃ n', Obj.mapSeq f (pobj d vs n) = pobj d us n' := by
    unfold Obj.mapSeq; dsimp only; rw [hf]; exact ⟨_, rfl⟩
  obtain ⟨n', e⟩ := ho
  have hg : (h.update p (Obj.mapSeq f)).get? p = some (pobj d us n') := by
    rw [Heap.get?_update_self _ hm.1 (by rw [e]; rfl), e]
  exact ⟨n', F.change (Heap.SameBut.update ..) hm.2.1 hm.2.2, News.setIn (own := []) (cb_drop N hsub) (fun _ hp => nomatch hp) htl (Heap.SameBut.update ..) hg⟩
theorem call_pop {u p d : Addr} {vs : List Value} {y : Value} {n : Nat} {od : Option Obj} {tl : List (Addr × Obj)} {Q : Value → Shared → Prop} (F : Fr h₀ L s.heap m) (X₀ : (hd.heap_39 w.params).In h₀) (N : News h₀ L s.heap news) (hu : s.heap.get? u = some (bnd "builtin_function_or_method" "list.pop" p))
    (I : W.InstAt s.heap p (pobj d (vs ++ [y]) n) 151 od) (hsub : ∀ q ∈ (p, pobj d (vs ++ [y]) n) :: tl, q ∈ news) (htl : ∀ q ∈ tl, q.1 ≠ p) (hsz : vs.length ≤ 1000)
    (h : ∀ h' n', Fr h₀ L h' m → News h₀ L h' ((p, pobj d vs n') :: tl) → Q y { s with heap := h' }) : wpAny (model prog w) A (call (.ref u) []) Q E s := by
  refine call_bnd (.inl rfl) hu (fun z => ck_pop (X₀.keeps F.keep) I z) (fun as => Code.quiet_builtin _ (by decide +kernel)) en_pop ?_
  unfold Builtin.«list.pop»
  have hl := I.at_
  have hs : (vs ++ [y]).toArray.size = vs.length + 1 := by simp
  have hs1 : (vs ++ [y]).toArray.size ≤ sizeLine := by rw [hs]; simp only [sizeLine]; omega
  have hne : ¬ (vs ++ [y]).toArray.isEmpty = true := by simp
  have hk : seqIndex? (-1) (vs ++ [y]).toArray.size = some vs.length := by rw [hs, seqIndex_neg (by omega) (by omega)]; congr 1; omega
  have hy : (vs ++ [y]).toArray[vs.length]? = some y := by simp
  obtain ⟨n', F', N'⟩ := updP (f := fun xs => xs.eraseIdxIfInBounds vs.length) (us := vs) F N hsub htl (by simp; rw [kl_eraseL, List.append_nil])
  have hh := h _ n' F' N'
  obtain ⟨hp, g, dd, tk, os⟩ := s
  wp_walk using wpAny_loadPart' hl
  simp only [hk, hy, Option.bind_some, Option.map_some]
  have hz' : ((vs ++ [y]).toArray.eraseIdxIfInBounds vs.length).size ≤ sizeLine + 1 := Nat.le_trans (PySem.MeetsSeq.size_erased _ _) (Nat.le_succ_of_le hs1)
  wp_walk using (wpAny_updateSeq hl rfl (hz := hs1) (_hz' := hz')), wpAny_loadPart' hl
  exact hh
theorem gm_any {name : Str} {f : Value} {tf : String} {p d : Addr} {vs : List Value} {n : Nat} {es : List DictEntry} {nd : Nat} {pl : Sem Bool} {Q : Value × List Value → Shared → Prop} (X : (hd.heap_39 w.params).In s.heap) (I : W.InstAt s.heap p (pobj d vs n) 151 (some (dictOf es nd)))
    (hf : findIn (hd.heap_39 w.params) (.ref 151) name = some (some f)) (ht : Looks (model prog w) s.heap (typeOf f) (.type tf)) (htf : tf = "function" ∨ tf = "method_descriptor") (hl : getL name es = some none)
    (h : Q (f, [.ref p]) s) : wpAny (model prog w) A (getMethod (.ref p) name pl) Q E s := by
  have hcan : (Manifest.canonical "list.__getattribute__" != "object.__getattribute__") = false := by decide +kernel
  unfold getMethod specialOf
  refine wpAny_bind (wpAny_bind (I.type.here ((looks_findIn X (show findIn (hd.heap_39 w.params) (.ref 151) "__getattribute__" = some (some (.builtin "list.__getattribute__")) by kernel_rfl)).here ?_)))
  dsimp only
  refine if_not hcan ?_
  refine wpAny_bind (wpAny_bind (I.type.here ((looks_findIn X (show findIn (hd.heap_39 w.params) (.ref 151) "__getattr__" = some none by kernel_rfl)).here ?_)))
  refine wpAny_bind (wpAny_bind (I.type.here ((looks_findIn X hf).here (wpAny_bind (ht.here ?_)))))
  rw [if_neg (by rcases htf with rfl | rfl <;> decide +kernel)]
  refine wpAny_bind (wpAny_loadPart I.at_ ?_)
  refine wpAny_bind (wpAny_bind (wpAny_loadPart I.dict ?_))
  rw [nsLook_of (show lookIn name (dictOf es nd) = some none by rw [lookIn_dict, hl])]
  refine wpAny_pure ?_
  exact wpAny_bind (wpAny_rule (wpAny_pure h))
theorem call_append {p d : Addr} {vs : List Value} {v : Value} {n : Nat} {od : Option Obj} {tl : List (Addr × Obj)} {Q : Value → Shared → Prop} (F : Fr h₀ L s.heap m) (X₀ : (hd.heap_39 w.params).In h₀) (N : News h₀ L s.heap news)
    (I : W.InstAt s.heap p (pobj d vs n) 151 od) (hsub : ∀ q ∈ (p, pobj d vs n) :: tl, q ∈ news) (htl : ∀ q ∈ tl, q.1 ≠ p) (hsz : vs.length ≤ 1000)
    (h : ∀ h' n', Fr h₀ L h' m → News h₀ L h' ((p, pobj d (vs ++ [v]) n') :: tl) → Q .none { s with heap := h' }) : wpAny (model prog w) A (call (.builtin "list.append") [.ref p, v]) Q E s := by
  have hl := I.at_
  have hs1 : vs.toArray.size ≤ sizeLine := by rw [List.size_toArray]; simp only [sizeLine]; omega
  have hz' : (vs.toArray.push v).size ≤ sizeLine + 1 := by rw [Array.size_push]; omega
  refine wpAny_call (codeAny_call_builtin PySem.F.slot_list_append.plain PySem.F.entry_list_append (kfo_check (n := "append") (owner := "list") (by decide +kernel) (by decide +kernel) (isl_pile (X₀.keeps F.keep) I) (PySem.F.args_list_append_2 _ _) ?_))
  obtain ⟨n', F', N'⟩ := updP (f := fun xs => xs.push v) (us := vs ++ [v]) F N hsub htl (by simp)
  have hh := h _ n' F' N'
  obtain ⟨hp, g, dd, tk, os⟩ := s
  unfold Builtin.«list.append»
  wp_walk using (wpAny_updateSeq hl rfl (hz := hs1) (_hz' := hz'))
  exact hh
end
local macro_rules | `(tactic| k_inst) => `(tactic| (refine inst_pile (by k_asm) (by walk_at "m.mem") (by walk_at "m.mem")))
local macro_rules | `(tactic| walk_at "m.mem") => `(tactic| (first | assumption | (refine List.Mem.tail _ ?_; assumption) | (refine List.Mem.tail _ (List.Mem.tail _ ?_); assumption) | (refine List.Mem.tail _ (List.Mem.tail _ (List.Mem.tail _ ?_)); assumption)))
local macro_rules | `(tactic| walk_at "getMethod ref") => `(tactic| (first | (refine gm_wd (by k_asm) (by k_asm) (by k_asm) (.head _) (by k_inst) (by decide) ty_len own_len (by kernel_rfl) ?_; intro q' h' F' N' l1)))
local macro_rules | `(tactic| walk_at "callWith") => `(tactic| (first | (refine callWith_bnd0 (.inr rfl) (News.get (by k_asm) (.head _)) ?_)))
local macro_rules | `(tactic| walk_at "call ref") => `(tactic| (first | (refine call_len (News.get (by k_asm) (.head _)) (by k_inst) ?_; intro t9 k9)))
theorem partc_call {w : World} (news) (p d : Addr) (vs : List Value) (n : Nat) (es : List DictEntry) (nd : Nat) (hp : (p, pobj d vs n) ∈ news) (hd' : (d, dictOf es nd) ∈ news) : Cl 1 w 148 news [.ref p] (fun t => .int vs.length t) := by
  walk_at "m.intro"
  refine' ks_code_super (binds := [(Str.ofString "self", .ref p)]) ?k1 ?k2 ?k3 ?k4 ?k5 ?kA ?kF ?kK ?k6 ?k7 ?k8 ?k9 ?kB ?_ ?c5 ?c2 ?c3 ?c4
  walk_at "m.enterS"
  k_steps
  all_goals exact cb_retI hret rfl (by k_asm) (news_tail (news_tail (by k_asm)))
end
section
local macro_rules | `(tactic| walk_at "zz") => `(tactic| fail)
theorem forget1_14 {prog : Program} {w : World} {A : Around} {Q : Bool → Shared → Prop} {E : Value → Shared → Prop} {s : Shared} (h : wpAny (model prog w) A (truthy (.bool true)) Q E s) : wpAny (model prog w) A (truthy (.bool true)) Q E s := by
  w_top off
  first | (walk1; fail) | exact h
local macro_rules | `(tactic| walk_at "zz") => `(tactic| fail)
theorem forget2_14 {prog : Program} {w : World} {A : Around} {Q : Bool → Shared → Prop} {E : Value → Shared → Prop} {s : Shared} (h : wpAny (model prog w) A (truthy (.bool true)) Q E s) : wpAny (model prog w) A (truthy (.bool true)) Q E s := by
  first | (walk1; fail) | exact h
end
noncomputable section
open Bi
abbrev ClG (k : Nat) (w : World) (f : Addr) (news : List (Addr × Obj)) (vs : List Value) (P : Value → List (Addr × Obj) → Prop) : Prop :=
  ∀ (mean : ExcName → Option Value) (mg mb : Str → Option Value) (loose : List Str) (dp un : Nat) (gd : Option (List Code)) (cn : Str) (cs : Scope) (a : Addr) (ccd : Value) (cl : List (Str × Addr)) (outer : List Env) (A₀ : Around) (base h₀ : Heap) (L : Addr) (m : Str → Option Value) (s : Shared) (Q E : Value → Shared → Prop),
    Below A₀ base outer h₀ → Fr h₀ L s.heap m → (hd.heap_39 w.params).In h₀ → News h₀ L s.heap news → Top topProg loose mean mg mb h₀ → cs.kind = .function → dp + k < recursionLimit → un + 8 * k + 500 < cLine →
    (∀ (r : Value) (news' : List (Addr × Obj)) (h' : Heap) (tk' : Nat), P r news' → Fr h₀ L h' m → News h₀ L h' news' → Q r { s with heap := h', toks := tk' }) →
      wpAny (model PySem.Challenge.rw_qu0014_01.row.prog w) (ktrTop dp un gd cn cs L a ccd cl outer) (call (.ref f) vs) Q E s
set_option hygiene false in
local macro_rules | `(tactic| walk_at "m.introG") => `(tactic| (dsimp only [ClG]; k_fill; intro mean mg mb loose dp un gd cn cs a ccd cl outer A₀ base h₀ L m s Q E hB hF hX hN hT hk hdp hun hret; refine wpAny_call ?_))
local macro_rules | `(tactic| walk_at "m.mem") => `(tactic| (first | assumption | (refine List.Mem.tail _ ?_; assumption) | (refine List.Mem.tail _ (List.Mem.tail _ ?_); assumption) | (refine List.Mem.tail _ (List.Mem.tail _ (List.Mem.tail _ ?_)); assumption)))
local macro_rules | `(tactic| k_inst) => `(tactic| (refine inst_pile (by k_asm) (by walk_at "m.mem") (by walk_at "m.mem")))
local macro_rules | `(tactic| walk_at "getMethod ref") => `(tactic| (first
  | (refine gm_any (f := .ref 148) (Frag.In.keeps (by k_asm) (Fr.keep (by k_asm))) (by k_inst) (by kernel_rfl) (looks_typeIn (Frag.In.keeps (by k_asm) (Fr.keep (by k_asm))) (by kernel_rfl)) (.inl rfl) (by assumption) ?_; (try dsimp only))
  | (refine gm_md (by k_asm) (by k_asm) (by k_asm) (.head _) (by k_inst) (by decide) ty_pop own_pop told_pop (by kernel_rfl) ?_; intro q' h' F' N' l1)))
local macro_rules | `(tactic| walk_at "call ref") => `(tactic| (refine' partc_call _ _ _ _ _ _ _ ?f1 ?f2 _ _ _ _ _ _ _ _ _ _ _ _ _ _ _ _ _ _ _ _ _ ?k1 ?k2 ?k3 ?k4 ?k5 ?kK ?kd ?ku ?_; (case f1 => assumption); (case f2 => assumption); (case k1 => k_asm); (case k2 => k_asm); (case k3 => k_asm); (case k4 => k_asm); (case k5 => k_asm); (case kK => first | exact rfl | assumption); (case kd => ktr_room); (case ku => ktr_units); intro t9 h9 tk9 F9 N9; (try dsimp only)))
abbrev tobj (a b : Value) : Obj := { cls := .type "tuple", data := .seq #[a, b] 0 }
theorem popE_call {w : World} (news) (p d : Addr) (n : Nat) (es : List DictEntry) (nd : Nat) (hp : (p, pobj d [] n) ∈ news) (hd' : (d, dictOf es nd) ∈ news) (he : getL "part_count" es = some none) :
    ClG 2 w 111 news [.ref p] (fun r news' => ∃ x t1 t2, r = .ref x ∧ news' = (x, tobj (.str (Str.ofString "") t1) (.str (Str.ofString "") t2)) :: news ∧ ∀ q ∈ news, q.1 < x) := by
  walk_at "m.introG"
  refine' ks_code_super (binds := [(Str.ofString "self", .ref p)]) ?k1 ?k2 ?k3 ?k4 ?k5 ?kA ?kF ?kK ?k6 ?k7 ?k8 ?k9 ?kB ?_ ?c5 ?c2 ?c3 ?c4
  walk_at "m.enterS"
  k_steps
  rename_i l2 _ _ _ _
  exact hret _ _ _ _ ⟨_, _, _, rfl, rfl, l2⟩ (by k_asm) (by k_asm)
set_option hygiene false in
local macro_rules | `(tactic| walk_at "callWith") => `(tactic| (refine callWith_bnd0 (.inl rfl) (News.get (by k_asm) (.head _)) ?_))
set_option hygiene false in
local macro_rules | `(tactic| walk_at "call ref") => `(tactic| (refine call_pop (tl := tl) (by k_asm) (by k_asm) (by k_asm) (News.get (by k_asm) (.head _)) (by k_inst) (fun q hq => List.Mem.tail _ (List.Mem.tail _ (hsub q hq))) htl hsz ?_; intro h8 n8 F8 N8))
local macro_rules | `(tactic| walk_at "wpAt") => `(tactic| (dsimp only; ks_step "execs cons"; refine ks_wpAt_execs_cons ?_))
local macro_rules | `(tactic| walk_at "wpAt") => `(tactic| (ks_step "eval Call"; refine stopHere ?_))
local macro_rules | `(tactic| walk_at "Stop") => `(tactic| (fail "stop"))
theorem popN_call {w : World} (news tl) (p d : Addr) (vs : List Value) (y : Value) (n : Nat) (es : List DictEntry) (nd : Nat) (hsub : ∀ q ∈ (p, pobj d (vs ++ [y]) n) :: tl, q ∈ news) (htl : ∀ q ∈ tl, q.1 ≠ p) (hsz : vs.length ≤ 1000) (hp : (p, pobj d (vs ++ [y]) n) ∈ news) (hd' : (d, dictOf es nd) ∈ news) (he : getL "part_count" es = some none) :
    ClG 2 w 111 news [.ref p] (fun r news' => ∃ n', r = y ∧ news' = (p, pobj d vs n') :: tl) := by
  walk_at "m.introG"
  refine' ks_code_super (binds := [(Str.ofString "self", .ref p)]) ?k1 ?k2 ?k3 ?k4 ?k5 ?kA ?kF ?kK ?k6 ?k7 ?k8 ?k9 ?kB ?_ ?c5 ?c2 ?c3 ?c4
  walk_at "m.enterS"
  k_steps
  · (rename (_ : Int) = 0 => e9)
    simp only [List.length_append, List.length_cons, List.length_nil] at e9
    omega
  unfold Stop
  refine ks_wpAt_MethodCall ?_
  k_steps
  exact hret _ _ _ _ ⟨_, rfl, rfl⟩ (by k_asm) (by k_asm)
local macro_rules | `(tactic| walk_at "getMethod ref") => `(tactic| (
   (refine gm_any (f := .builtin "list.append") (Frag.In.keeps (by k_asm) (Fr.keep (by k_asm))) (by k_inst) (by kernel_rfl) (Looks.of_pure PySem.F.type_list_append) (.inr rfl) (by assumption) ?_; (try dsimp only))))
set_option hygiene false in
local macro_rules | `(tactic| walk_at "call builtin:list.append") => `(tactic| (k_dflt (refine call_append (vs := vs) (d := d) (n := n) (tl := (_, tobj u v) :: tl) (by k_asm) (by k_asm) (by k_asm) (by k_inst) (List.forall_mem_cons.mpr ⟨.tail _ (hsub _ (.head _)), List.forall_mem_cons.mpr ⟨.head _, fun q hq => .tail _ (hsub q (.tail _ hq))⟩⟩) (List.forall_mem_cons.mpr ⟨Nat.ne_of_gt ((by assumption : ∀ q ∈ news, q.1 < _) _ hp), htl⟩) hsz ?_); intro h8 n8 F8 N8))
theorem push_call {w : World} (news tl) (p d : Addr) (vs : List Value) (u v : Value) (n : Nat) (es : List DictEntry) (nd : Nat) (hsub : ∀ q ∈ (p, pobj d vs n) :: tl, q ∈ news) (htl : ∀ q ∈ tl, q.1 ≠ p) (hsz : vs.length ≤ 1000) (hp : (p, pobj d vs n) ∈ news) (hd' : (d, dictOf es nd) ∈ news) (he : getL "append" es = some none) :
    ClG 1 w 95 news [.ref p, u, v] (fun r news' => ∃ x n', r = .none ∧ news' = (p, pobj d (vs ++ [.ref x]) n') :: (x, tobj u v) :: tl ∧ ∀ q ∈ news, q.1 < x) := by
  walk_at "m.introG"
  refine' code_def (binds := [(Str.ofString "self", .ref p), (Str.ofString "fws", u), (Str.ofString "string", v)]) ?k1 ?k2 ?k3 ?k4 ?k5 ?kA ?kF ?kK ?k6 ?k7 ?k8 ?k9 ?kB ?_ ?c2 ?c3 ?c4 ?c5
  walk_at "m.enter"
  k_steps
  exact hret _ _ _ _ ⟨_, _, rfl, rfl, (by assumption)⟩ (by k_asm) (by k_asm)
end
section
local macro_rules | `(tactic| walk_at "zz") => `(tactic| fail)
theorem forget1_15 {prog : Program} {w : World} {A : Around} {Q : Bool → Shared → Prop} {E : Value → Shared → Prop} {s : Shared} (h : wpAny (model prog w) A (truthy (.bool true)) Q E s) : wpAny (model prog w) A (truthy (.bool true)) Q E s := by
  w_top off
  first | (walk1; fail) | exact h
local macro_rules | `(tactic| walk_at "zz") => `(tactic| fail)
theorem forget2_15 {prog : Program} {w : World} {A : Around} {Q : Bool → Shared → Prop} {E : Value → Shared → Prop} {s : Shared} (h : wpAny (model prog w) A (truthy (.bool true)) Q E s) : wpAny (model prog w) A (truthy (.bool true)) Q E s := by
  first | (walk1; fail) | exact h
end
noncomputable section
open Bi
def SeqAt (h : Heap) (l : Addr) (items : Array Value) : Prop := ∃ o, h.get? l = some o ∧ ∃ n, o.data = .seq items n
theorem SeqAt.at {h h' : Heap} {l : Addr} {items : Array Value} (x : SeqAt h l items) (k : ∀ o, h.get? l = some o → h'.get? l = some o) : SeqAt h' l items := let ⟨o, a, b⟩ := x; ⟨o, k o a, b⟩
section
variable {prog : Program} {w : World} {A : Around} {E : Value → Shared → Prop} {s : Shared}
theorem next_item {it l : Addr} {i : Nat} {items} {x : Value} {Q : Option Value → Shared → Prop} (hit : s.heap.IsListIter it l i)
    (hl : SeqAt s.heap l items) (hx : items[i]? = some x)
    (hQ : ∀ h', h'.IsListIter it l (i + 1) → Heap.SameBut it s.heap h' → Q (some x) { s with heap := h' }) :
    wpAny (model prog w) A (pyNext (.ref it)) Q E s := by
  obtain ⟨o, ho, hc, hd⟩ := id hit
  obtain ⟨ol, hol, nl, hdl⟩ := hl
  unfold pyNext
  refine wpAny_bind (wpAny_attempt (wpAny_callSpecial?_slot (name := Str.ofString "__next__") hit.typeIs slot_listiter_next
    (wpAny_call_entry slot_listiter_next hit.typeIs entry_listiter_next ?_ (args_listiter_next _))))
  show wpAny _ _ (field (.ref it) 0 >>= _) _ _ s
  refine wpAny_bind (wpAny_field ho hd (x := .ref l) rfl ?_)
  show wpAny _ _ (if (Value.ref l == Value.none) = true then _ else _) _ _ s
  rw [if_neg (show ¬ ((Value.ref l == Value.none) = true) from Bool.false_ne_true)]
  show wpAny _ _ (field (.ref it) 1 >>= _) _ _ s
  refine wpAny_bind (wpAny_field ho hd (x := .int i 0) rfl ?_)
  show wpAny _ _ (seqItems? (.ref l) >>= _) _ _ s
  refine wpAny_bind (wpAny_seqItems hol hdl ?_)
  simp only [Int.toNat_natCast, hx]
  refine wpAny_bind (wpAny_setField ho hd (by simp) (wpAny_pure ⟨x, rfl, wpAny_pure (hQ _ ?_ (Heap.SameBut.update ..))⟩))
  exact ⟨_, Heap.get?_update_self _ ho (Obj.isFreed_of_fields (Obj.data_mapFields hd _)), (Obj.cls_mapFields ..).trans hc, by
    rw [Obj.data_mapFields hd]; simp [rawInt]⟩
theorem next_end {it l : Addr} {i : Nat} {items} {Q : Option Value → Shared → Prop} (hh : A.handled = none)
    (hit : s.heap.IsListIter it l i) (hl : SeqAt s.heap l items) (hx : items[i]? = none)
    (hQ : ∀ h', Heap.ExtBut it s.heap h' → Q none { s with heap := h' }) : wpAny (model prog w) A (pyNext (.ref it)) Q E s := by
  obtain ⟨o, ho, hc, hd⟩ := id hit
  obtain ⟨ol, hol, nl, hdl⟩ := hl
  unfold pyNext
  refine wpAny_bind (wpAny_attempt (wpAny_callSpecial?_slot (name := Str.ofString "__next__") hit.typeIs slot_listiter_next
    (wpAny_call_entry slot_listiter_next hit.typeIs entry_listiter_next ?_ (args_listiter_next _))))
  show wpAny _ _ (field (.ref it) 0 >>= _) _ _ s
  refine wpAny_bind (wpAny_field ho hd (x := .ref l) rfl ?_)
  show wpAny _ _ (if (Value.ref l == Value.none) = true then _ else _) _ _ s
  rw [if_neg (show ¬ ((Value.ref l == Value.none) = true) from Bool.false_ne_true)]
  show wpAny _ _ (field (.ref it) 1 >>= _) _ _ s
  refine wpAny_bind (wpAny_field ho hd (x := .int i 0) rfl ?_)
  show wpAny _ _ (seqItems? (.ref l) >>= _) _ _ s
  refine wpAny_bind (wpAny_seqItems hol hdl ?_)
  simp only [Int.toNat_natCast, hx]
  refine wpAny_bind (wpAny_rule (wpAny_bind (wpAny_setField ho hd (by simp) ?_)))
  show wpAny _ _ (newExc (.type "StopIteration") [] >>= _) _ _ _
  refine wpAny_bind ?_
  simp only [newExc, newTuple]
  refine wpAny_bind (wpAny_newObj_type ?_ (by size_fits))
  refine wpAny_bind (m := firstArgMember _ _) (wpAny_of_eq (a := Value.none) (by first | rfl | (simp only [firstArgMember]; rfl)) ?_)
  refine wpAny_newObj_type ?_ (by size_fits)
  simp only [raiseNew]
  refine wpAny_bind (wpAny_handled ?_)
  rw [show A.in1.handled = none from hh]
  refine wpAny_bind (wpAny_pure (wpAny_throw ?_))
  refine wpAny_bind (wpAny_isInstance (T := "StopIteration") (b := true) ⟨_, Heap.get?_push_size _ rfl, rfl⟩ isSubtype_stop ?_)
  exact wpAny_pure (hQ _ (((Heap.SameBut.update ..).extBut.push _).push _))
theorem iter_pile {p : Addr} {ox : Obj} {od : Option Obj} {Q : Value → Shared → Prop} (X : (hd.heap_39 w.params).In s.heap) (I : W.InstAt s.heap p ox 151 od)
    (hQ : Q (.ref s.heap.objs.size) { s with heap := s.heap.push { cls := .type "list_iterator", data := .fields #[.ref p, .int 0 0] } }) :
    wpAny (model prog w) A (pyIter (.ref p)) Q E s := by
  have hf : findIn (hd.heap_39 w.params) (.ref 151) "__iter__" = some (some (.builtin "list.__iter__")) := by kernel_rfl
  unfold pyIter
  refine wpAny_bind (wpAny_bind (I.type.here ((looks_findIn X hf).here ?_)))
  show wpAny _ _ (callSpecialIfBoundUnlessNone? (.ref p) "__iter__" _ >>= _) Q E s
  refine wpAny_bind ?_
  simp only [callSpecialIfBoundUnlessNone?, bindSpecialIfBound?]
  refine wpAny_holding (wpAny_bind (wpAny_bind (wpAny_bind (I.type.here ((looks_findIn X hf).here ?_)))))
  simp only [slot_list_iter.bind]
  refine wpAny_bind (wpAny_askSetting (wpAny_ite ?_))
  have fin : ∀ {refuse : Sem Value} {Q' : Option Value → Shared → Prop}, Q' (some (.ref s.heap.objs.size)) { s with heap := s.heap.push { cls := .type "list_iterator", data := .fields #[.ref p, .int 0 0] } } → wpAny (model prog w) A (if (Value.builtin "list.__iter__" == Value.none) = true then (refuse >>= fun v => pure (some v)) else (call (.builtin "list.__iter__") [.ref p] >>= fun v => pure (some v))) Q' E s := by
    intro refuse Q' hq
    simp only [builtin_beq_none, Bool.false_eq_true, if_false]
    refine wpAny_bind (wpAny_call (codeAny_call_builtin slot_list_iter.plain entry_list_iter (check_slot (n := "__iter__") (owner := "list") (by decide +kernel) (by decide +kernel) (isl_pile X I) (args_list_iter _) ?_)))
    show wpAny _ _ (do ret (← newFields "list_iterator" [.ref p, rawInt 0])) _ _ s
    exact wpAny_bind (wpAny_newObj_type (wpAny_pure (wpAny_pure hq)))
  have hfin : wpAny (model prog w) A (specialOf (.ref s.heap.objs.size) "__next__") (fun r s' => wpAny (model prog w) A (match r with | none => (do rule "iter.non-iterator"; raiseError "TypeError" s!"iter() returned non-iterator of type '{← typeNameOf (.ref s.heap.objs.size)}'") | some _ => pure (.ref s.heap.objs.size)) Q E s') E { s with heap := s.heap.push { cls := .type "list_iterator", data := .fields #[.ref p, .int 0 0] } } :=
    wpAny_specialOf (T := "list_iterator") ⟨_, Heap.get?_push_size _ rfl, rfl⟩ slot_listiter_next.lookup (wpAny_pure hQ)
  split
  · exact wpAny_bind (wpAny_pure (wpAny_pure (fin (wpAny_bind hfin))))
  · exact wpAny_tryCatch (wpAny_bind (wpAny_pure (wpAny_pure (fin (wpAny_bind hfin)))))
end
theorem walksP {prog : Program} {w : World} {A : Around} (hh : A.handled = none) (I ax : Addr) (hne : ax ≠ I) (items : Array Value) (Ts : Nat → Addr) (vals : Nat → Array Value)
    (hit : ∀ j, j < items.size → items[j]? = some (.ref (Ts j))) (hTI : ∀ j, j < items.size → Ts j ≠ I) :
    WalksU prog w A I (I :: ax :: (List.range items.size).map Ts) [I] items.size (fun j v => v = vals j)
      (fun j h => h.IsListIter I ax j ∧ SeqAt h ax items ∧ ∀ k, k < items.size → h.IsTuple (Ts k) (vals k))
      (fun j T h => (j < items.size ∧ T = Ts j) ∧ h.IsListIter I ax (j + 1) ∧ SeqAt h ax items ∧ ∀ k, k < items.size → h.IsTuple (Ts k) (vals k)) where
  sub := fun b hb => by simp at hb; simp [hb]
  frame := fun _ _ _ st hk => ⟨st.1.at fun o e => hk I (by simp) o e, st.2.1.at fun o e => hk ax (by simp) o e,
    fun k hk' => (st.2.2 k hk').at fun o e => hk (Ts k) (List.mem_cons_of_mem _ (List.mem_cons_of_mem _ (List.mem_map.mpr ⟨k, List.mem_range.mpr hk', rfl⟩))) o e⟩
  item := fun i s Q E hi st hQ => by
    refine next_item st.1 st.2.1 (x := .ref (Ts i)) (hit i hi) fun h' hit' hs' => ?_
    have tup : ∀ k, k < items.size → h'.IsTuple (Ts k) (vals k) := fun k hk' => (st.2.2 k hk').extBut hs'.extBut (hTI k hk')
    exact hQ (Ts i) (vals i) h' s.toks rfl (tup i hi) ⟨⟨hi, rfl⟩, hit', st.2.1.at fun o e => hs'.extBut _ o hne e, tup⟩ fun b o hb e => hs'.extBut b o (fun h => hb (by simp [h])) e
  go := fun _ _ _ _ _ s Q _ hm hQ => wpAny_letOwnedTupleGo_listiter hm.2.1 (hQ s.heap hm.2 fun _ _ _ e => e)
  apart := fun j T _ hm hmem => by
    rcases List.mem_cons.mp hmem with e | e
    · exact hTI j hm.1.1 (hm.1.2 ▸ e)
    · cases e
  done := fun s Q E st hQ => next_end hh st.1 st.2.1 (by simp) fun h' he' => hQ h' s.toks fun b o hb e => he' b o (fun h => hb (by simp [h])) e
  self := fun _ _ _ _ st hQ => wpAny_pyIter_listiter st.1 hQ
end
section
local macro_rules | `(tactic| walk_at "zz") => `(tactic| fail)
theorem forget1_16 {prog : Program} {w : World} {A : Around} {Q : Bool → Shared → Prop} {E : Value → Shared → Prop} {s : Shared} (h : wpAny (model prog w) A (truthy (.bool true)) Q E s) : wpAny (model prog w) A (truthy (.bool true)) Q E s := by
  w_top off
  first | (walk1; fail) | exact h
local macro_rules | `(tactic| walk_at "zz") => `(tactic| fail)
theorem forget2_16 {prog : Program} {w : World} {A : Around} {Q : Bool → Shared → Prop} {E : Value → Shared → Prop} {s : Shared} (h : wpAny (model prog w) A (truthy (.bool true)) Q E s) : wpAny (model prog w) A (truthy (.bool true)) Q E s := by
  first | (walk1; fail) | exact h
end
noncomputable section
open Bi
def codeSays (K : Frag) (c P : Addr) : Bool := match K.lookup c with
  | some ⟨cl, _, .fields vs, _⟩ => cl == .type "code" && vs[11]? == some (.ref P) && vs.getD 11 .none == .ref P && (match vs.getD 18 .none, vs.getD 7 .none, vs.getD 9 .none, vs.getD 10 .none with | .str _ _, .int _ _, .bool _, .int _ _ => true | _, _, _, _ => false)
  | _ => false
theorem code_of {K : Frag} {c P : Addr} {h : Heap} {ps : Array Value} (e : codeSays K c P = true) (X : K.In h) (hP : h.get? P = some (tabO ps)) (ht : TriplesOk ps.toList) (hne : c ≠ P) : h.IsCode c P ps ∧ h.TableAt c P ps := by
  unfold codeSays at e
  split at e
  · rename_i cl dd vs sl ho
    have ho' := X _ _ ho
    simp only [Bool.and_eq_true, beq_iff_eq] at e
    obtain ⟨⟨⟨e1, e2⟩, e3⟩, e4⟩ := e
    split at e4
    · rename_i q1 q2 q3 q4
      exact ⟨⟨_, vs, _, _, _, _, _, _, _, _, ho', rfl, e3, q1, q2, q3, q4, hP, rfl, ht, hne⟩, ⟨_, vs, ho', e1, rfl, e2⟩, hP⟩
    · cases e4
  · cases e
abbrev tabF (pos : Pos) (ps : Array Value) : Prop := ps = #[] ∨ ∃ c' : Addr, ps = #[rawInt pos.line, rawInt pos.col, .ref c']
theorem triples_tabF {pos : Pos} {ps : Array Value} (h : tabF pos ps) : TriplesOk ps.toList := by
  rcases h with rfl | ⟨c', rfl⟩
  · trivial
  · show TriplesOk [_, _, _]; simp only [rawInt, TriplesOk]
section
variable {prog : Program} {w : World} {A : Around} {E : Value → Shared → Prop} {s : Shared} {h₀ : Heap} {L : Addr} {m : Str → Option Value}
theorem gcode {env : Env} {c P : Addr} {ps : Array Value} {pos : Pos} {q : Str} {scope : Scope} {K : Frag} {Q : Value → Shared → Prop} (X : K.In s.heap) (hc : env.code = .ref c) (hs : codeSays K c P = true) (hne : c ≠ P) (hP : s.heap.get? P = some (tabO ps)) (hf : tabF pos ps)
    (hQ : ∀ c' h' tk ps', tabF pos ps' → Heap.ExtBut P s.heap h' → h'.get? P = some (tabO ps') → s.heap.objs.size ≤ h'.objs.size → Q (.ref c') { s with heap := h', toks := tk }) :
    wpAny (model prog w) A (genexprCode env pos q scope) Q E s := by
  obtain ⟨C, T⟩ := code_of hs X hP (triples_tabF hf) hne
  rcases hf with rfl | ⟨c', rfl⟩
  · exact wpAny_genexprCodeX hc C T rfl fun c' h' tk hx h1 h2 _ _ T' _ => hQ c' h' tk _ (.inr ⟨c', by simp⟩) hx T'.2 (Nat.le_trans h1 (Nat.le_of_lt h2))
  · obtain ⟨o, vs, file, tf, flags, tg, inF, text, tt, op, ho, hd, h11, h2, h7, h9, h10, hop, hpd, htr, hne⟩ := id C
    unfold genexprCode codeAt
    rw [hc, if_neg (show ¬ ((Value.ref c == Value.none) = true) from Bool.false_ne_true)]
    refine wpAny_bind (wpAny_fieldsOf ho hd ?_)
    rw [h11]
    refine wpAny_bind (wpAny_fieldsOf hop hpd ?_)
    have e : codeAmong pos (#[rawInt pos.line, rawInt pos.col, .ref c'] : Array Value).toList = some (.ref c') := by simp [codeAmong, rawInt]
    rw [e]
    exact wpAny_pure (hQ c' s.heap s.toks _ (.inr ⟨c', rfl⟩) (fun b o _ e => e) hP (Nat.le_refl _))
theorem gen_rule {env : Env} {elt iter : Expr} {xa xb : Str} {pa pb pt : Pos} {kt : Nat} {scope : Scope} {cl : List (Str × Addr)} {pos : Pos} {loose : List Str} {mean : ExcName → Option Value} {mg mb : Str → Option Value}
    {c P p d : Addr} {ps : Array Value} {tvs : List (Addr × Value × Value)} {n : Nat} {o : Obj} {news tl : List (Addr × Obj)} {Kb : Addr} {Fv : Nat → Value → Prop} {Q : Value → Shared → Prop}
    (F : Fr h₀ L s.heap m) (X₀ : (hd.heap_39 w.params).In h₀) (N : News h₀ L s.heap news) (T : Top topProg loose mean mg mb h₀) (hgl : env.globals = mainGlobals) (G : AllBare s.gens) (hcode : env.code = .ref c) (hcs : codeSays (hd.heap_39 w.params) c P = true) (hcP : c ≠ P) (hPs : P ≠ cStatics)
    (hsub : ∀ q ∈ (P, tabO ps) :: tl, q ∈ news) (htl : ∀ q ∈ tl, q.1 ≠ P) (hf : tabF pos ps) (hp : (p, pobj d (tvs.map fun t => .ref t.1) n) ∈ tl) (hdo : (d, o) ∈ tl) (ht : ∀ t ∈ tvs, (t.1, tobj t.2.1 t.2.2) ∈ tl) (hLK : L ≤ Kb) (hK : Kb < s.heap.objs.size)
    (hh : A.handled = none) (hco : scope.isCoroutine = false) (hclos : closureFor scope env = pure cl) (hcell : ∀ y ∈ scope.names, y.2 ≠ .cell) (h0 : scope.names.lookup (".0" : Str) = some NameKind.local)
    (hxa : scope.names.lookup xa = some .local) (hxb : scope.names.lookup xb = some .local) (hab : xa ≠ xb) (hkind : scope.kind = .function) (hroom : A.depth < recursionLimit)
    (hiter : ∀ Q' : Value → Shared → Prop, Q' (.ref p) s → wpAny (model prog w) A (eval iter env) Q' E s) (hs : ∀ x, genFold iter env x = pure x)
    (helt : ∀ (c' C : Addr) (A' : Around) (E' : Value → Shared → Prop) (i : Nat) (t : Addr × Value × Value) (u : Shared) (m₂ : Str → Option Value), A'.handled = none → A'.depth ≤ A.depth + 1 → A'.units ≤ A.units + 8 → tvs[i]? = some t → Fr h₀ C u.heap m₂ → m₂ xa = some t.2.1 → m₂ xb = some t.2.2 →
      wpAny (model prog w) A' (eval elt (genEnv scope cl C (.ref c') builtinsNs env)) (fun y s₃ => Fv i y ∧ Keeps u s₃) E' u)
    (hQ : ∀ (a : Addr) (s₅ : Shared) (ps' : Array Value), tabF pos ps' → Fr h₀ L s₅.heap m → News h₀ L s₅.heap ((P, tabO ps') :: tl) → AllBare s₅.gens → s₅.os = s.os → s₅.drawn = s.drawn → (∀ q ∈ (P, tabO ps') :: tl, s₅.heap.get? q.1 = some q.2) → Gen prog w A Kb a tvs.length Fv s₅ → Q (.ref a) s₅) :
    wpAny (model prog w) A (eval (.GeneratorExp elt [⟨.Tuple [.Name xa pa, .Name xb pb] kt pt, iter, [], 0⟩] scope pos) env) Q E s := by
  have X := X₀.keeps F.keep
  have N' := cb_drop N hsub
  have Nt := news_tail N'
  obtain ⟨bm, ob, M⟩ := bmod_of_top T
  have hlim : s.heap.NoLimit := T.nolimit.keeps F.keep
  refine wpAny_GeneratorExp_walksQTD hh hco hclos hcell h0 hxa hxb hab hkind hroom (hiter _ (iter_pile X (inst_pile Nt hp hdo) ?_)) hs
  have up : ∀ b o, s.heap.get? b = some o → (s.heap.push { cls := .type "list_iterator", data := .fields #[.ref p, .int 0 0] }).get? b = some o := fun b o e => Heap.get?_push_of_some _ e
  have hPa := N' _ (.head _)
  refine ⟨hlim.keeps up, gcode (K := hd.heap_39 w.params) (X.keeps up) hcode hcs hcP (up _ _ hPa.1) hf fun c' h₃ tk₃ ps' hf' hx₃ hP₃ hsz => ?_⟩
  have hsz' : s.heap.objs.size < h₃.objs.size := Nat.lt_of_lt_of_le (Nat.lt_succ_self _) (by rw [Heap.size_push] at hsz; exact hsz)
  have hk₃ : ∀ b o, b ≠ P → s.heap.get? b = some o → h₃.get? b = some o := fun b o hb e => hx₃ b o hb (up b o e)
  have hn0 : ∀ b o, h₀.get? b = some o → b ≠ P := fun b o e hb => by rw [hb, hPa.2.2] at e; cases e
  have hLP : L ≠ P := fun e => hPa.2.1 e.symm
  have F₃ : Fr h₀ L h₃ m := ⟨(F.ns.keeps up).extBut hx₃ hLP, fun b o e => hk₃ b o (hn0 b o e) (F.keep b o e), F.above⟩
  have M₃ : BMod h₃ env.globals mg bm ob := by rw [hgl]; exact M.keeps F₃.keep
  have N₃ : News h₀ L h₃ ((P, tabO ps') :: tl) := fun q hq => by
    rcases List.mem_cons.mp hq with rfl | hq
    · exact ⟨hP₃, hPa.2⟩
    · have := Nt q hq; exact ⟨hk₃ _ _ (htl q hq) this.1, this.2⟩
  refine wpAny_builtinsFor M₃.ns M₃.name M₃.ne M₃.obj M₃.cls M₃.dict M₃.data ?_
  let Ts : Nat → Addr := fun j => (tvs[j]?.map fun t => t.1).getD 0
  let vals : Nat → Array Value := fun j => (tvs[j]?.map fun t => (#[t.2.1, t.2.2] : Array Value)).getD #[.none, .none]
  have hsi : (tvs.map fun t => Value.ref t.1).toArray.size = tvs.length := by simp
  have at' : ∀ j, j < tvs.length → ∃ t, tvs[j]? = some t ∧ t ∈ tvs := fun j hj => ⟨tvs[j], by simp [hj], List.getElem_mem hj⟩
  have hTm : ∀ j, j < (tvs.map fun t => Value.ref t.1).toArray.size → (Ts j, ({ cls := .type "tuple", data := .seq (vals j) 0 } : Obj)) ∈ tl := fun j hj => by
    obtain ⟨t, e, hm⟩ := at' j (hsi ▸ hj)
    simp only [Ts, vals, e, Option.map_some, Option.getD_some]; exact ht t hm
  have hlt : ∀ q ∈ tl, q.1 < s.heap.objs.size := fun q hq => Heap.lt_size (Nt q hq).1
  have hit : ∀ j, j < (tvs.map fun t => Value.ref t.1).toArray.size → (tvs.map fun t => Value.ref t.1).toArray[j]? = some (.ref (Ts j)) := fun j hj => by
    obtain ⟨t, e, _⟩ := at' j (hsi ▸ hj)
    simp [Ts, e]
  have W := fun (A' : Around) (hA : A'.handled = none) => (walksP (prog := prog) (w := w) hA s.heap.objs.size p (Nat.ne_of_lt (hlt _ hp)) (tvs.map fun t => Value.ref t.1).toArray Ts vals hit fun j hj => Nat.ne_of_lt (hlt _ (hTm j hj))).bound
  have hIP : s.heap.objs.size ≠ P := Nat.ne_of_gt (Heap.lt_size hPa.1)
  refine ⟨s.heap.objs.size, _, _, _, _, _, _, fun _ => true, Fv, rfl, W, (fun i v hv => by
      rcases hv with ⟨hi, rfl⟩
      obtain ⟨t, et, _⟩ := at' i (hsi ▸ hi)
      exact ⟨t.2.1, t.2.2, by simp [vals, et]⟩),
    ⟨⟨_, hx₃ _ _ hIP (Heap.get?_push_size _ rfl), rfl, rfl⟩, ⟨_, hk₃ _ _ (htl _ hp) (Nt _ hp).1, _, rfl⟩, fun k hk => ⟨_, hk₃ _ _ (htl _ (hTm k hk)) (Nt _ (hTm k hk)).1, rfl, _, rfl⟩⟩, ?_, ?_, ?_, ?_, ?_⟩
  · intro b hb
    show b < h₃.objs.size
    rcases List.mem_cons.mp hb with rfl | hb
    · exact hsz'
    · rcases List.mem_cons.mp hb with rfl | hb
      · exact Nat.lt_trans (hlt _ hp) hsz'
      · obtain ⟨k, hk, rfl⟩ := List.mem_map.mp hb
        exact Nat.lt_trans (hlt _ (hTm k (List.mem_range.mp hk))) hsz'
  · exact T.nolimit.keeps F₃.keep
  · intro hm
    have e := List.mem_singleton.mp hm
    have := hlim
    obtain ⟨_, hn, _⟩ := this
    exact Nat.ne_of_lt hn.lt e
  · intro href hhref
    have inB : ∀ (t : Shared) m₂, t.heap.Ns h₃.objs.size m₂ → (∀ b ∈ List.range h₃.objs.size, b ∉ [s.heap.objs.size] → ∀ o, href.get? b = some o → t.heap.get? b = some o) → Fr h₀ h₃.objs.size t.heap m₂ := fun t m₂ hn hkp =>
      ⟨hn, fun b o e => hkp b (List.mem_range.mpr (Heap.lt_size (F₃.keep b o e))) (fun hm => Nat.ne_of_lt (Heap.lt_size (F.keep b o e)) (List.mem_singleton.mp hm)) o (hhref b o (F₃.keep b o e)), Nat.le_of_lt (Nat.lt_of_le_of_lt F.above F₃.ns.lt)⟩
    refine ⟨fun A' E' i va vb t m₂ hA hD hU hP hn hma hmb hkp => wpAny_pure ⟨rfl, ⟨t.heap, t.toks, rfl, fun _ _ e => e⟩⟩, fun A' E' i va vb t m₂ hA hD hU hP _ hn hma hmb hkp => ?_⟩
    obtain ⟨hi, hv⟩ := hP
    obtain ⟨q, et, _⟩ := at' i (hsi ▸ hi)
    simp only [vals, et, Option.map_some, Option.getD_some] at hv
    obtain ⟨e1, e2⟩ : va = q.2.1 ∧ vb = q.2.2 := by simpa using congrArg Array.toList hv
    subst e1 e2
    exact helt c' _ A' E' i q t m₂ hA hD hU et (inB t m₂ hn hkp) hma hmb
  · intro a h₅ tk gs hgb hag hsz₅ hk₅ W' hat
    have hpl : ∀ k, passing (fun _ => true) k 0 = List.range k := fun k => by unfold passing; simp
    rw [hpl, List.length_range] at W'
    have N₅ : News h₀ L h₅ ((P, tabO ps') :: tl) := fun q hq => ⟨hk₅ _ _ (N₃ q hq).1, (N₃ q hq).2⟩
    refine hQ a _ ps' hf' (F₃.keeps hk₅) N₅ (G.push hgb) rfl rfl (fun q hq => (N₅ q hq).1) ?_
    rw [← hsi]
    refine ⟨_, _, _, _, W'.imp ?_, hat, (fun i s' st => st.1.typeIs), List.mem_cons_self, ?_, ?_⟩
    · rintro i v ⟨j, e, hv⟩
      have : i = j := by
        have := List.getElem?_eq_some_iff.mp e
        obtain ⟨h1, h2⟩ := this
        simpa using h2
      rw [this]; exact hv
    · intro b hb
      show b < h₅.objs.size
      rw [hsz₅]
      rcases List.mem_cons.mp hb with rfl | hb
      · exact Nat.lt_succ_self _
      · rcases List.mem_cons.mp hb with rfl | hb
        · exact Nat.lt_succ_of_lt hag
        · exact Nat.lt_succ_of_lt (Nat.lt_trans (List.mem_range.mp hb) hag)
    · intro b hb
      rcases List.mem_cons.mp hb with rfl | hb
      · exact Nat.lt_trans hK hsz'
      · rw [List.mem_singleton.mp hb]; exact hK
end
end
section
local macro_rules | `(tactic| walk_at "zz") => `(tactic| fail)
theorem forget1_17 {prog : Program} {w : World} {A : Around} {Q : Bool → Shared → Prop} {E : Value → Shared → Prop} {s : Shared} (h : wpAny (model prog w) A (truthy (.bool true)) Q E s) : wpAny (model prog w) A (truthy (.bool true)) Q E s := by
  w_top off
  first | (walk1; fail) | exact h
local macro_rules | `(tactic| walk_at "zz") => `(tactic| fail)
theorem forget2_17 {prog : Program} {w : World} {A : Around} {Q : Bool → Shared → Prop} {E : Value → Shared → Prop} {s : Shared} (h : wpAny (model prog w) A (truthy (.bool true)) Q E s) : wpAny (model prog w) A (truthy (.bool true)) Q E s := by
  first | (walk1; fail) | exact h
end
noncomputable section
open Bi
section
variable {w : World} {A : Around} {E : Value → Shared → Prop} {u : Shared} {h₀ : Heap} {C : Addr} {m₂ : Str → Option Value}
noncomputable def fnBody (w : World) (a : Addr) : List Stmt := match (hd.heap_39 w.params).lookup a with
  | some ⟨_, _, .func ⟨_, _, _, .stmts b, _, _, _, _, _, _, _, _, _, _, _⟩, _⟩ => b
  | _ => []
def genPart : List Stmt → Expr × Scope
  | [.Return (some (.Call _ (.GeneratorExp e _ sc _ :: _) _ _)) _] => (e, sc)
  | _ => (default, default)
noncomputable def scLen (w : World) : Scope := (genPart (fnBody w 118)).2
noncomputable def elLen (w : World) : Expr := (genPart (fnBody w 118)).1
noncomputable def scStr (w : World) : Scope := (genPart (fnBody w 125)).2
noncomputable def elStr (w : World) : Expr := (genPart (fnBody w 125)).1
theorem nmG {M : Model} {K : Frag} {p : Program} {loose : List Str} {mean : ExcName → Option Value} {mg mb : Str → Option Value} {scope : Scope} {cl : List (Str × Addr)} {code : Value} {env : Env} {x : Str} {pos : Pos} {v : Value} {Q : Value → Shared → Prop} (F : Fr h₀ C u.heap m₂) (X : K.In h₀) (T : Top p loose mean mg mb h₀) (e : nsIn K mainGlobals x = some (some v)) (h : Q v u) (hg : env.globals = mainGlobals)
    (hk : scope.kind = .function := by rfl) (hx : (genEnv scope cl C code builtinsNs env).kindOf x = some .globalImplicit := by rfl) (hd : (x == ("__debug__" : Str)) = false := by decide) :
    wpAny M A (eval (.Name x pos) (genEnv scope cl C code builtinsNs env)) Q E u :=
  Calls.Name_function_global hk hx (Calls.loadGlobal_global (env := genEnv scope cl C code builtinsNs env) (show u.heap.Ns env.globals mg from hg ▸ (T.keeps F.keep).g) (mg_of X T.g e) h) hd
theorem nmB {M : Model} {K : Frag} {p : Program} {loose : List Str} {mean : ExcName → Option Value} {mg mb : Str → Option Value} {scope : Scope} {cl : List (Str × Addr)} {code : Value} {env : Env} {x : Str} {pos : Pos} {v : Value} {Q : Value → Shared → Prop} (F : Fr h₀ C u.heap m₂) (X : K.In h₀) (T : Top p loose mean mg mb h₀) (e : nsIn K mainGlobals x = some none) (hv : bootBuiltins x = some v) (hn : x ≠ "__name__") (h : Q v u) (hg : env.globals = mainGlobals)
    (hk : scope.kind = .function := by rfl) (hx : (genEnv scope cl C code builtinsNs env).kindOf x = some .globalImplicit := by rfl) (hd : (x == ("__debug__" : Str)) = false := by decide) :
    wpAny M A (eval (.Name x pos) (genEnv scope cl C code builtinsNs env)) Q E u :=
  Calls.Name_function_global hk hx (Calls.loadGlobal_builtin (env := genEnv scope cl C code builtinsNs env) (show u.heap.Ns env.globals mg from hg ▸ (T.keeps F.keep).g) (mg_none_of X T.g e) (T.keeps F.keep).b ((T.builtins x hn).trans hv) h) hd
theorem blen : bootBuiltins "len" = some (.builtin "len") := by first | boot_by_name | rfl | kernel_rfl
theorem elt_len {loose : List Str} {mean : ExcName → Option Value} {mg mb : Str → Option Value} {env : Env} {c' : Addr} {x y : Str} {tx ty : Tok} (hgl : env.globals = mainGlobals) (hh : A.handled = none) (X₀ : (hd.heap_39 w.params).In h₀) (T : Top topProg loose mean mg mb h₀) (F : Fr h₀ C u.heap m₂)
    (hx : m₂ "fws" = some (.str x tx)) (hy : m₂ "part" = some (.str y ty)) (lx : x.length ≤ 1000) (ly : y.length ≤ 1000) :
    wpAny (model PySem.Challenge.rw_qu0014_01.row.prog w) A (eval (elLen w) (genEnv (scLen w) [] C (.ref c') builtinsNs env)) (fun r s₃ => (∃ t, r = .int (x.length + y.length) t) ∧ Keeps u s₃) E u := by
  conv in (elLen _) => whnf
  conv in (occs := *) (scLen _) => all_goals whnf
  refine wpAny_BinOp ?_
  refine Call_ ?_
  refine nmB (K := hd.heap_39 w.params) F X₀ T (by kernel_rfl) blen (by decide) ?_ hgl
  walk1
  walk1
  refine ldVarG F hx ?_
  walk1
  walk1
  refine Call_ ?_
  refine nmB (K := hd.heap_39 w.params) (u := { u with toks := u.toks + 1 + 1 }) F X₀ T (by kernel_rfl) blen (by decide) ?_ hgl
  walk1
  walk1
  refine ldVarG (s := { u with toks := u.toks + 1 + 1 }) F hy ?_
  walk1
  walk1
  walk1
  exact ⟨⟨_, rfl⟩, ⟨u.heap, _, rfl, fun _ _ e => e⟩⟩
theorem gEmpty (w : World) : ∃ t, nsIn (hd.heap_39 w.params) mainGlobals "EMPTYSTRING" = some (some (.str (Str.ofString "") t)) := by
  have e : (match nsIn (hd.heap_39 w.params) mainGlobals "EMPTYSTRING" with | some (some (.str x _)) => x == Str.ofString "" | _ => false) = true := by kernel_rfl
  split at e
  · rename_i x t q; exact ⟨t, by rw [q, beq_iff_eq.mp e]⟩
  · cases e
theorem elt_str {loose : List Str} {mean : ExcName → Option Value} {mg mb : Str → Option Value} {env : Env} {c' : Addr} {x y : Str} {tx ty : Tok} (hgl : env.globals = mainGlobals) (X₀ : (hd.heap_39 w.params).In h₀) (T : Top topProg loose mean mg mb h₀) (F : Fr h₀ C u.heap m₂)
    (hx : m₂ "fws" = some (.str x tx)) (hy : m₂ "part" = some (.str y ty)) (lx : x.length ≤ 1000) (ly : y.length ≤ 1000) :
    wpAny (model PySem.Challenge.rw_qu0014_01.row.prog w) A (eval (elStr w) (genEnv (scStr w) [] C (.ref c') builtinsNs env)) (fun r s₃ => (∃ t, r = .str (Txt.join (Str.ofString "") [x, y]) t) ∧ Keeps u s₃) E u := by
  conv in (elStr _) => whnf
  conv in (occs := *) (scStr _) => all_goals whnf
  obtain ⟨te, he⟩ := gEmpty w
  refine MethodCall_ ?_
  refine nmG (K := hd.heap_39 w.params) F X₀ T he ?_ hgl
  walk1
  walk1
  walk1
  refine Tuple_ ?_
  walk1
  refine ldVarG F hx ?_
  walk1
  refine ldVarG F hy ?_
  walk1
  refine wpAny_newTuple ?_ (by simp [sizeLine])
  walk1
  refine join_tuple (ys := [x, y]) ⟨_, Heap.get?_push_size _ rfl, rfl, _, rfl⟩ (.cons _ _ (.cons _ _ .nil)) ?_ ?_
  · show x.length + (y.length + 0) + 2 * _ ≤ _
    have : (Str.ofString "").length = 0 := by decide
    rw [this]; omega
  · intro t' k
    exact ⟨⟨_, rfl⟩, ⟨_, _, rfl, fun b o e => Heap.get?_push_of_some _ e⟩⟩
end
section
variable {prog : Program} {w : World} {A : Around} {E : Value → Shared → Prop} {s : Shared} {h₀ : Heap} {L Kb a : Addr} {m : Str → Option Value} {news : List (Addr × Obj)} {n : Nat} {Fv : Nat → Value → Prop} {Q : Value → Shared → Prop}
theorem moved_fr {wr : List Addr} {g : Nat} {s' : Shared} (F : Fr h₀ L s.heap m) (N : News h₀ L s.heap news) (hLK : L ≤ Kb) (hKn : ∀ q ∈ news, q.1 ≤ Kb) (hwr : ∀ b ∈ wr, Kb < b) (hm : Moved wr (GenOnlyQ g) s s') : Fr h₀ L s'.heap m ∧ News h₀ L s'.heap news :=
  ⟨F.moved hm fun b hb => Nat.lt_of_le_of_lt hLK (hwr b hb), fun q hq => ⟨hm.heap _ _ (fun hmem => Nat.lt_irrefl _ (Nat.lt_of_lt_of_le (hwr _ hmem) (hKn q hq))) (N q hq).1, (N q hq).2⟩⟩
theorem join_pile {sep : Str} {t : Tok} (F : Fr h₀ L s.heap m) (N : News h₀ L s.heap news) (G : AllBare s.gens) (X : Gen prog w A Kb a n Fv s) (hLK : L ≤ Kb) (hKn : ∀ q ∈ news, q.1 ≤ Kb) (tx : Nat → Str) (htx : ∀ j v, Fv j v → ∃ u, v = .str (tx j) u)
    (hok : JoinOk sep ((List.range n).map tx) = true) (hsz : n ≤ 1000)
    (hQ : ∀ s' t', Fr h₀ L s'.heap m → News h₀ L s'.heap news → AllBare s'.gens → s'.os = s.os → s'.drawn = s.drawn → Q (.str (Txt.join sep ((List.range n).map tx)) t') s') :
    wpAny (model prog w) A (call (.builtin "str.join") [.str sep t, .ref a]) Q E s := by
  obtain ⟨fp, wr, g, St, W, hst, hT, ha, hfp, hwr⟩ := X
  have W := W.in4_2
  refine SC.joinGen W hT hst hfp ha (fun j v hv => let ⟨u, e⟩ := htx j v hv; ⟨_, u, e⟩) (fun s' lt hm hacc => ?_) (by simp only [sizeLine]; omega)
  have hl : lt.map (·.1) = (List.range n).map tx := by
    apply List.ext_getElem?
    intro j
    have hsz : lt.length = n := by simpa [strValues] using hacc.1
    by_cases hj : j < n
    · have hj' : j < lt.length := hsz ▸ hj
      obtain ⟨u, e⟩ := htx j _ (hacc.2 j _ (by simp [strValues, hj']; rfl))
      simp only [Value.str.injEq] at e
      simp [hj, hj', e.1]
    · simp [hj, hsz, Nat.le_of_not_lt hj]
  rw [hl]
  obtain ⟨F', N'⟩ := moved_fr F N hLK hKn hwr hm
  have g1 := G.movedS hm
  exact ⟨hok, fun t' k => hQ { s' with toks := k } t' F' N' g1 hm.os hm.drawn⟩
theorem WalksS.shift {I : Addr} {fp wr : List Addr} {G : Array GenState → Array GenState → Prop} {P : Nat → Value → Prop} {St : Nat → Shared → Prop} (W : WalksS prog w A I fp wr G n P St) :
    WalksS prog w A I fp wr G (n + 1) (fun i v => ∃ j, i = j + 1 ∧ P j v) (fun i s => ∃ j, i = j + 1 ∧ St j s) where
  sub := W.sub
  grefl := W.grefl
  gtrans := W.gtrans
  frame := fun i s h' tk ⟨j, e, st⟩ ht hk => ⟨j, e, W.frame j s h' tk st ht hk⟩
  item := fun i s Q E hi ⟨j, e, st⟩ hQ => W.item j s Q E (by omega) st fun v s' hP hst hm => hQ v s' ⟨j, e, hP⟩ ⟨j + 1, by omega, hst⟩ hm
  done := fun s Q E ⟨j, e, st⟩ hQ => by
    have : j = n := by omega
    subst this
    exact W.done s Q E st hQ
  self := fun i s Q E ⟨j, e, st⟩ hQ => W.self j s Q E st hQ
theorem preSum_shift (val : Nat → Int) (x : Int) : ∀ n, preSum (fun i => match i with | 0 => x | j + 1 => val j) (n + 1) = x + preSum val n
  | 0 => by simp [preSum]
  | n + 1 => by rw [preSum, preSum_shift val x n, preSum]; simp only []; omega
theorem sum_pile {x : Int} {t : Tok} (F : Fr h₀ L s.heap m) (N : News h₀ L s.heap news) (G : AllBare s.gens) (X : Gen prog w A Kb a n Fv s) (hLK : L ≤ Kb) (hKn : ∀ q ∈ news, q.1 ≤ Kb) (val : Nat → Int) (hval : ∀ j v, Fv j v → ∃ u, v = .int (val j) u)
    (hx : 0 ≤ x ∧ x < 1000) (hQ : ∀ s' t', Fr h₀ L s'.heap m → News h₀ L s'.heap news → AllBare s'.gens → s'.os = s.os → s'.drawn = s.drawn → Q (.int (x + preSum val n) t') s') :
    wpAny (model prog w) A (call (.builtin "sum") [.ref a, .int x t]) Q E s := by
  obtain ⟨fp, wr, g, St, W, hst, hT, ha, hfp, hwr⟩ := X
  have W := W.in4_1
  refine call_function_tree PySem.F.kind_sum PySem.F.plain_sum PySem.F.entry_sum (by unfold argsOk; kernel_rfl) ?_
  unfold Builtin.«sum»
  simp only [List.length_cons, List.length_nil]
  rw [if_neg (by decide)]
  refine wpAny_bind (wpAny_of_eq (show Builtin.Builtins.bindParams "sum" ["start"] 0 ⟨[.int x t], []⟩ = pure [some (.int x t)] from rfl) ?_)
  refine wpAny_bind (W.self 0 s _ _ hst ?_)
  dsimp only
  refine if_so (c := _) (by show (decide (-(2 ^ 63) ≤ x) && decide (x < 2 ^ 63)) = true; simp only [Bool.and_eq_true, decide_eq_true_eq]; omega) ?_
  refine wpAny_bind (wpAny_rule (wpAny_bind (wpAny_mkInt (wpAny_bind (wpAny_pure ?_)))))
  simp only [List.forIn_cons, List.forIn_nil]
  refine wpAny_bind (wpAny_bind (wpAny_bind (wpAny_isInstance (T := "int") (b := false) (typeIs_int _ _ _) PySem.sub_int_str ?_)))
  simp only [Bool.false_eq_true, if_false]
  refine wpAny_pure (wpAny_bind (wpAny_bind (wpAny_isInstance (T := "int") (b := false) (typeIs_int _ _ _) PySem.sub_int_bytes ?_)))
  simp only [Bool.false_eq_true, if_false]
  refine wpAny_pure (wpAny_bind (wpAny_bind (wpAny_isInstance (T := "int") (b := false) (typeIs_int _ _ _) PySem.sub_int_bytearray ?_)))
  simp only [Bool.false_eq_true, if_false]
  refine wpAny_pure (wpAny_pure ?_)
  refine wpAny_bind (wpAny_newObj_type ?_)
  have hSf : s.heap.objs.size ∉ fp := fun hm => Nat.lt_irrefl _ (hfp _ hm)
  refine wpAny_pure ⟨plainId_quiet PySem.F.plain_sum_loop _, codeAny_sum_loopAnyS (WalksS.shift W) (fun i => match i with | 0 => x | j + 1 => val j) (fun i v ⟨j, e, hP⟩ => by subst e; exact hval j v hP) s.heap.objs.size hSf n 1 _ s.toks 0 0 (.inl rfl) (by omega) (by omega)
    ⟨0, rfl, W.frame 0 s _ _ hst (by first | exact Nat.le_refl _ | exact Nat.le_succ _ | omega) fun b _ o e => Heap.get?_push_of_some _ e⟩ ?_ fun s' t' hm => ?_⟩
  · have e : preSum (fun i => match i with | 0 => x | j + 1 => val j) 1 = x := by simp [preSum]
    rw [e]; exact Heap.get?_push_size _ rfl
  · have hm' := hm.drop_new (by first | exact Nat.le_refl _ | exact Nat.le_succ _ | omega)
    obtain ⟨F', N'⟩ := moved_fr F N hLK hKn hwr hm'
    rw [preSum_shift]
    exact hQ s' t' F' N' (G.movedS hm') hm'.os hm'.drawn
end
end
section
local macro_rules | `(tactic| walk_at "zz") => `(tactic| fail)
theorem forget1_18 {prog : Program} {w : World} {A : Around} {Q : Bool → Shared → Prop} {E : Value → Shared → Prop} {s : Shared} (h : wpAny (model prog w) A (truthy (.bool true)) Q E s) : wpAny (model prog w) A (truthy (.bool true)) Q E s := by
  w_top off
  first | (walk1; fail) | exact h
local macro_rules | `(tactic| walk_at "zz") => `(tactic| fail)
theorem forget2_18 {prog : Program} {w : World} {A : Around} {Q : Bool → Shared → Prop} {E : Value → Shared → Prop} {s : Shared} (h : wpAny (model prog w) A (truthy (.bool true)) Q E s) : wpAny (model prog w) A (truthy (.bool true)) Q E s := by
  first | (walk1; fail) | exact h
end
noncomputable section
open Bi
section
variable {prog : Program} {w : World} {A : Around} {E : Value → Shared → Prop} {s : Shared}
theorem ga_pile {p d : Addr} {vs : List Value} {n : Nat} {o : Obj} {name : Str} {v : Value} {expr : Bool} {Q : Value → Shared → Prop} (X : (hd.heap_39 w.params).In s.heap) (I : W.InstAt s.heap p (pobj d vs n) 151 (some o))
    (hf : findObj (hd.heap_39 w.params) 151 (some o) name = some (.value v)) (hh : handedIn v = true) (h : Q v { s with toks := s.toks + 1 }) : wpAny (model prog w) A (getAttr (.ref p) name expr) Q E s := by
  have h1 : findIn (hd.heap_39 w.params) (.ref 151) "__getattribute__" = some (some (.builtin "list.__getattribute__")) := by kernel_rfl
  have h2 : findIn (hd.heap_39 w.params) (.ref 151) "__getattr__" = some none := by kernel_rfl
  obtain ⟨hp, g, dd, t, os⟩ := s
  unfold getAttr getAttrBy
  refine wpAny_bind (wpAny_mkText (wpAny_holding (wpAny_bind (I.type.at (wpAny_bind ((looks_findIn X h1).at ?_))))))
  have hc : (onTheHeap (Value.ref 151) && Value.builtin "list.__getattribute__" == Value.builtin "object.__getattribute__") = false := by decide +kernel
  dsimp only
  rw [hc]
  simp only [Bool.false_eq_true, if_false]
  unfold getAttrByItsOwn
  refine wpAny_bind (m := hookBefore (.ref 151)) (looks_hook X (r := none) (by rw [if_pos (by decide)]; exact h2) |>.at ?_)
  refine wpAny_bind (wpAny_attempt (wpAny_holding ?_))
  have hoh : onTheHeap (Value.builtin "list.__getattribute__") = false := rfl
  unfold callGetattribute
  rw [hoh, Bool.and_false]
  simp only [Bool.false_eq_true, if_false]
  unfold boundAndCalled
  refine wpAny_bind (wpAny_of_eq (PySem.F.slot_list_getattribute.bind _) ?_)
  refine wpAny_call (codeAny_call_builtin (id := "list.__getattribute__") PySem.F.slot_list_getattribute.plain PySem.F.entry_list_ga ?_)
  refine check_slot (i := "list.__getattribute__") (n := "__getattribute__") (owner := "list") (by decide +kernel) (by decide +kernel) (isl_pile X I) (PySem.F.args_list_getattribute_2 _ _) ?_
  unfold Builtin.«object.__getattribute__»
  refine wpAny_bind (wpAny_of_eq (a := (Value.ref p, [Value.str name t])) (by rfl) ?_)
  refine wpAny_bind (wpAny_of_eq (a := name) (by rfl) ?_)
  refine wpAny_bind (I.type.at (wpAny_bind ((looks_find X I hf).at ?_)))
  refine wpAny_pure ?_
  show wpAny _ _ (handedOut v) _ _ _
  rw [handedOut_of hh]; exact wpAny_pure h
theorem find_init {es : List DictEntry} {v : Value} {nd : Nat} (hl : getL "_initial_size" es = some (some v)) : findObj (hd.heap_39 w.params) 151 (some (dictOf es nd)) "_initial_size" = some (.value v) :=
  findObj_own (attr := none) (by kernel_rfl) (by kernel_rfl) (by rfl) (by rw [lookIn_dict]; exact hl)
end
structure PileD (es : List DictEntry) (i : Int) : Prop where
  size : ∃ t, getL "_initial_size" es = some (some (.int i t))
  small : 0 ≤ i ∧ i < 1000
  m1 : getL "part_count" es = some none
  m2 : getL "append" es = some none
  m3 : getL "pop" es = some none
  m4 : getL "push" es = some none
  m5 : getL "pop_from" es = some none
end
section
local macro_rules | `(tactic| walk_at "zz") => `(tactic| fail)
theorem forget1_19 {prog : Program} {w : World} {A : Around} {Q : Bool → Shared → Prop} {E : Value → Shared → Prop} {s : Shared} (h : wpAny (model prog w) A (truthy (.bool true)) Q E s) : wpAny (model prog w) A (truthy (.bool true)) Q E s := by
  w_top off
  first | (walk1; fail) | exact h
local macro_rules | `(tactic| walk_at "zz") => `(tactic| fail)
theorem forget2_19 {prog : Program} {w : World} {A : Around} {Q : Bool → Shared → Prop} {E : Value → Shared → Prop} {s : Shared} (h : wpAny (model prog w) A (truthy (.bool true)) Q E s) : wpAny (model prog w) A (truthy (.bool true)) Q E s := by
  first | (walk1; fail) | exact h
end
noncomputable section
open Bi
abbrev ClS (k : Nat) (w : World) (f : Addr) (news : List (Addr × Obj)) (vs : List Value) (P : Value → List (Addr × Obj) → Prop) : Prop :=
  ∀ (mean : ExcName → Option Value) (mg mb : Str → Option Value) (loose : List Str) (dp un : Nat) (gd : Option (List Code)) (cn : Str) (cs : Scope) (a : Addr) (ccd : Value) (cl : List (Str × Addr)) (outer : List Env) (A₀ : Around) (base h₀ : Heap) (L : Addr) (m : Str → Option Value) (s : Shared) (Q E : Value → Shared → Prop),
    Below A₀ base outer h₀ → Fr h₀ L s.heap m → (hd.heap_39 w.params).In h₀ → News h₀ L s.heap news → Top topProg loose mean mg mb h₀ → cs.kind = .function → dp + k < recursionLimit → un + 8 * k + 500 < cLine → AllBare s.gens →
    (∀ (r : Value) (news' : List (Addr × Obj)) (s' : Shared), P r news' → Fr h₀ L s'.heap m → News h₀ L s'.heap news' → AllBare s'.gens → s'.os = s.os → s'.drawn = s.drawn → Q r s') →
      wpAny (model PySem.Challenge.rw_qu0014_01.row.prog w) (ktrTop dp un gd cn cs L a ccd cl outer) (call (.ref f) vs) Q E s
set_option hygiene false in
local macro_rules | `(tactic| walk_at "m.introS") => `(tactic| (dsimp only [ClS]; k_fill; intro mean mg mb loose dp un gd cn cs a ccd cl outer A₀ base h₀ L m s Q E hB hF hX hN hT hk hdp hun hAB hret; refine wpAny_call ?_))
def Pairs (tvs : List (Addr × Value × Value)) (ns : List Str) : Prop := tvs.length = ns.length ∧ ∀ (i : Nat) (t : Addr × Value × Value), tvs[i]? = some t → ∃ tx ty, t.2.1 = .str (Str.ofString ".") tx ∧ t.2.2 = .str (ns.getD i (Str.ofString "")) ty
local macro_rules | `(tactic| walk_at "eval GeneratorExp") => `(tactic| (refine stopHere ?_))
local macro_rules | `(tactic| walk_at "Stop") => `(tactic| (fail "stop"))
abbrev posStr : Pos := { line := 65, col := 32, endLine := 65, endCol := 85 }
def strP (ns : List Str) : Str := Txt.join (Str.ofString "") ((List.range ns.length).map fun j => Txt.join (Str.ofString "") [Str.ofString ".", ns.getD j (Str.ofString "")])
theorem getD_mem {ns : List Str} {i : Nat} (h : i < ns.length) : ns.getD i (Str.ofString "") ∈ ns := by rw [List.getD_eq_getElem?_getD, List.getElem?_eq_getElem h]; exact List.getElem_mem h
theorem join2_le {y : Str} (h : y.length ≤ 100) : (Txt.join (Str.ofString "") [Str.ofString ".", y]).length ≤ 101 := by
  unfold Txt.join
  rw [StrLaws.glued_eq_join]
  have := StrLaws.join_length_le (Str.ofString "") [Str.ofString ".", y]
  simp only [List.map_cons, List.map_nil, List.sum_cons, List.sum_nil, List.length_cons, List.length_nil, show (Str.ofString "").length = 0 by decide, show (Str.ofString ".").length = 1 by decide] at this
  omega
theorem str_call {w : World} (news tl) (p d : Addr) (ps : Array Value) (tvs : List (Addr × Value × Value)) (ns : List Str) (n : Nat) (o : Obj) (hsub : ∀ q ∈ (120, tabO ps) :: tl, q ∈ news) (htl : ∀ q ∈ tl, q.1 ≠ 120) (hf : tabF posStr ps)
    (hp : (p, pobj d (tvs.map fun t => .ref t.1) n) ∈ tl) (hdo : (d, o) ∈ tl) (ht : ∀ t ∈ tvs, (t.1, tobj t.2.1 t.2.2) ∈ tl) (hpr : Pairs tvs ns) (hns : ∀ x ∈ ns, x.length ≤ 100) (hl : ns.length ≤ 100) :
    ClS 3 w 125 news [.ref p] (fun r news' => ∃ t ps', r = .str (strP ns) t ∧ tabF posStr ps' ∧ news' = (120, tabO ps') :: tl) := by
  walk_at "m.introS"
  refine' code_def (binds := [(Str.ofString "self", .ref p)]) ?k1 ?k2 ?k3 ?k4 ?k5 ?kA ?kF ?kK ?k6 ?k7 ?k8 ?k9 ?kB ?_ ?c2 ?c3 ?c4 ?c5
  walk_at "m.enter"
  k_steps
  unfold Stop
  have hsz : 0 < h'.objs.size := Nat.lt_of_le_of_lt (Nat.zero_le _) F'.ns.lt
  refine gen_rule (c := 124) (P := 120) (p := p) (d := d) (tvs := tvs) (Kb := h'.objs.size - 1) (cl := []) (ps := ps) (tl := tl) (news := news) (o := o) (n := n) (Fv := fun i y => ∃ t, y = .str (Txt.join (Str.ofString "") [Str.ofString ".", ns.getD i (Str.ofString "")]) t)
    F' X' N' T' rfl hAB rfl (by kernel_rfl) (by decide) (by decide) hsub htl hf hp hdo ht (Nat.le_sub_one_of_lt F'.ns.lt) (Nat.sub_lt hsz Nat.one_pos) rfl rfl rfl (by decide) (by rfl) (by rfl) (by rfl) (by decide) rfl (by ktr_room) ?_ (by intro x; rfl) ?_ ?_
  · intro Q' hq
    walk1
    exact hq
  · intro c' C A' E' i t u m₂ hA hD hU hi hFr hx hy
    obtain ⟨tx, ty, e1, e2⟩ := hpr.2 i t hi
    refine elt_str rfl X' T' hFr (by rw [hx, e1]) (by rw [hy, e2]) (by decide) ?_
    have : i < ns.length := by rw [← hpr.1]; exact (List.getElem?_eq_some_iff.mp hi).1
    exact Nat.le_trans (hns _ (by rw [List.getD_eq_getElem?_getD, List.getElem?_eq_getElem this]; exact List.getElem_mem this)) (by decide)
  · intro a5 s5 ps' hf5 F5 N5 G5 hos hdr hk5 X5
    walk1
    have hKn : ∀ q ∈ (120, tabO ps') :: tl, q.1 ≤ h'.objs.size - 1 := fun q hq => by
      have : ∀ q' ∈ (120, tabO ps) :: tl, q'.1 ≤ h'.objs.size - 1 := fun q' hq' => Nat.le_sub_one_of_lt (Heap.lt_size (N' q' (hsub q' hq')).1)
      rcases List.mem_cons.mp hq with rfl | hq
      · exact this (120, tabO ps) (.head _)
      · exact this q (.tail _ hq)
    refine join_pile F5 N5 G5 X5 (Nat.le_sub_one_of_lt F'.ns.lt) hKn _ (fun j v hv => hv) ?_ (by rw [hpr.1]; omega) ?_
    · have h1 : ∀ y ∈ (List.range tvs.length).map (fun j => Txt.join (Str.ofString "") [Str.ofString ".", ns.getD j (Str.ofString "")]), y.length ≤ 101 := fun y hy => by
        obtain ⟨j, hj, rfl⟩ := List.mem_map.mp hy
        exact join2_le (hns _ (getD_mem (by rw [← hpr.1]; exact List.mem_range.mp hj)))
      unfold JoinOk
      rw [StrLaws.joinFits h1 (by rw [List.length_map, List.length_range, hpr.1, show (Str.ofString "").length = 0 by decide]; omega)]
      rfl
    · intro s6 t6 F6 N6 G6 ho6 hd6
      k_steps
      refine hret _ _ s6 ⟨t6, ps', ?_, hf5, rfl⟩ (by k_asm) (by k_asm) G6 (ho6.trans hos) (hd6.trans hdr)
      rw [hpr.1]; rfl
abbrev posLen : Pos := { line := 62, col := 19, endLine := 62, endCol := 63 }
def lenP (ns : List Str) : Int := preSum (fun j => 1 + (ns.getD j (Str.ofString "")).length) ns.length
theorem gen_toks {prog : Program} {w : World} {A : Around} {K a : Addr} {n : Nat} {F : Nat → Value → Prop} {s : Shared} (X : Gen prog w A K a n F s) (k : Nat) (hk : s.toks ≤ k) : Gen prog w A K a n F { s with toks := k } := by
  obtain ⟨fp, wr, g, St, W, hst, hT, ha, hfp, hwr⟩ := X
  exact ⟨fp, wr, g, St, W, W.frame 0 s s.heap k hst hk (fun _ _ _ e => e), hT, ha, hfp, hwr⟩
local macro_rules | `(tactic| walk_at "getAttr ref") => `(tactic| (refine stopHere ?_))
theorem len_call {w : World} (news tl) (p d : Addr) (ps : Array Value) (tvs : List (Addr × Value × Value)) (ns : List Str) (n : Nat) (es : List DictEntry) (nd : Nat) (i : Int) (hsub : ∀ q ∈ (113, tabO ps) :: tl, q ∈ news) (htl : ∀ q ∈ tl, q.1 ≠ 113) (hf : tabF posLen ps)
    (hp : (p, pobj d (tvs.map fun t => .ref t.1) n) ∈ tl) (hdo : (d, dictOf es nd) ∈ tl) (hpd : PileD es i) (ht : ∀ t ∈ tvs, (t.1, tobj t.2.1 t.2.2) ∈ tl) (hpr : Pairs tvs ns) (hns : ∀ x ∈ ns, x.length ≤ 100) (hl : ns.length ≤ 100) :
    ClS 3 w 118 news [.ref p] (fun r news' => ∃ t ps', r = .int (i + lenP ns) t ∧ tabF posLen ps' ∧ news' = (113, tabO ps') :: tl) := by
  obtain ⟨t1, hsz1⟩ := hpd.size
  walk_at "m.introS"
  refine' code_def (binds := [(Str.ofString "self", .ref p)]) ?k1 ?k2 ?k3 ?k4 ?k5 ?kA ?kF ?kK ?k6 ?k7 ?k8 ?k9 ?kB ?_ ?c2 ?c3 ?c4 ?c5
  walk_at "m.enter"
  k_steps
  unfold Stop
  have hsz : 0 < h'.objs.size := Nat.lt_of_le_of_lt (Nat.zero_le _) F'.ns.lt
  refine gen_rule (c := 117) (P := 113) (p := p) (d := d) (tvs := tvs) (Kb := h'.objs.size - 1) (cl := []) (ps := ps) (tl := tl) (news := news) (o := dictOf es nd) (n := n) (Fv := fun i y => ∃ t, y = .int (1 + (ns.getD i (Str.ofString "")).length) t)
    F' X' N' T' rfl hAB rfl (by kernel_rfl) (by decide) (by decide) hsub htl hf hp hdo ht (Nat.le_sub_one_of_lt F'.ns.lt) (Nat.sub_lt hsz Nat.one_pos) rfl rfl rfl (by decide) (by rfl) (by rfl) (by rfl) (by decide) rfl (by ktr_room) ?_ (by intro x; rfl) ?_ ?_
  · intro Q' hq
    walk1
    exact hq
  · intro c' C A' E' i t u m₂ hA hD hU hi hFr hx hy
    obtain ⟨tx, ty, e1, e2⟩ := hpr.2 i t hi
    refine wpAny_mono (elt_len rfl hA X' T' hFr (by rw [hx, e1]) (by rw [hy, e2]) (by decide) ?_) (fun r s₃ h => ?_) fun _ _ e => e
    · have : i < ns.length := by rw [← hpr.1]; exact (List.getElem?_eq_some_iff.mp hi).1
      exact Nat.le_trans (hns _ (getD_mem this)) (by decide)
    · exact ⟨h.1, h.2⟩
  · intro a5 s5 ps' hf5 F5 N5 G5 hos hdr hk5 X5
    k_steps
    unfold Stop
    refine ga_pile (X'.keeps F5.keep) (inst_pile N5 (.tail _ hp) (.tail _ hdo)) (find_init hsz1) rfl ?_
    walk1
    have hKn : ∀ q ∈ (113, tabO ps') :: tl, q.1 ≤ h'.objs.size - 1 := fun q hq => by
      have : ∀ q' ∈ (113, tabO ps) :: tl, q'.1 ≤ h'.objs.size - 1 := fun q' hq' => Nat.le_sub_one_of_lt (Heap.lt_size (N' q' (hsub q' hq')).1)
      rcases List.mem_cons.mp hq with rfl | hq
      · exact this (113, tabO ps) (.head _)
      · exact this q (.tail _ hq)
    refine sum_pile (s := { s5 with toks := s5.toks + 1 }) F5 N5 G5 (gen_toks X5 _ (Nat.le_succ _)) (Nat.le_sub_one_of_lt F'.ns.lt) hKn _ (fun j v hv => hv) hpd.small ?_
    intro s6 t6 F6 N6 G6 ho6 hd6
    k_steps
    refine hret _ _ s6 ⟨t6, ps', ?_, hf5, rfl⟩ (by k_asm) (by k_asm) G6 (ho6.trans hos) (hd6.trans hdr)
    rw [hpr.1]; rfl
end
section
local macro_rules | `(tactic| walk_at "zz") => `(tactic| fail)
theorem forget1_20 {prog : Program} {w : World} {A : Around} {Q : Bool → Shared → Prop} {E : Value → Shared → Prop} {s : Shared} (h : wpAny (model prog w) A (truthy (.bool true)) Q E s) : wpAny (model prog w) A (truthy (.bool true)) Q E s := by
  w_top off
  first | (walk1; fail) | exact h
local macro_rules | `(tactic| walk_at "zz") => `(tactic| fail)
theorem forget2_20 {prog : Program} {w : World} {A : Around} {Q : Bool → Shared → Prop} {E : Value → Shared → Prop} {s : Shared} (h : wpAny (model prog w) A (truthy (.bool true)) Q E s) : wpAny (model prog w) A (truthy (.bool true)) Q E s := by
  first | (walk1; fail) | exact h
end
noncomputable section
open Bi
section
variable {prog : Program} {w : World} {A : Around} {E : Value → Shared → Prop} {s : Shared}
theorem seqkey_pile {p : Addr} {ox : Obj} {od : Option Obj} {k : Value} {name : Str} {Q : Value → Shared → Prop} (X : (hd.heap_39 w.params).In s.heap) (I : W.InstAt s.heap p ox 151 od) (h : Q k s) : wpAny (model prog w) A (sequenceKey (.ref p) k name) Q E s := by
  have hm : mroIn (hd.heap_39 w.params) 151 (.type "collections.deque") = some false := by kernel_rfl
  unfold sequenceKey seqItemTypes
  refine wpAny_bind (I.type.here ?_)
  dsimp only
  simp only [List.anyM, bind_assoc]
  refine wpAny_bind ((looks_mroIn X hm).here ?_)
  exact wpAny_bind (wpAny_pure (if_so rfl (wpAny_pure h)))
theorem gi_pile {p d sl : Addr} {vs : List Value} {n : Nat} {od : Option Obj} {vl vu : Value} {lo hi : Option Int} {Q : Value → Shared → Prop} (X : (hd.heap_39 w.params).In s.heap) (I : W.InstAt s.heap p (pobj d vs n) 151 od)
    (hs : s.heap.IsSliceOf sl vl vu .none) (pl : IsPart vl lo) (pu : IsPart vu hi) (hsz : vs.length ≤ 1000)
    (h : Q (.ref s.heap.objs.size) { s with heap := s.heap.push { cls := .type "list", data := .seq (slicePick vs.toArray lo hi none) } }) : wpAny (model prog w) A (getItem (.ref p) (.ref sl)) Q E s := by
  have hf : findIn (hd.heap_39 w.params) (.ref 151) "__getitem__" = some (some (.builtin "list.__getitem__")) := by kernel_rfl
  obtain ⟨os, hos, hcs, hds⟩ := id hs
  have hTs : s.TypeIs (.ref sl) "slice" := ⟨os, hos, hcs⟩
  have hsz' : vs.toArray.size ≤ sizeLine := by rw [List.size_toArray]; simp only [sizeLine]; omega
  unfold getItem
  try with_reducible refine wpAny_holding ?_
  refine wpAny_bind (seqkey_pile X I ?_)
  refine wpAny_bind (kfo_special (id := "list.__getitem__") X I hf slot_list_getitem.bind ?_)
  refine wpAny_call (codeAny_call_builtin (id := "list.__getitem__") slot_list_getitem.plain entry_list_getitem ?_)
  refine kfo_check (i := "list.__getitem__") (n := "__getitem__") (owner := "list") (by decide +kernel) (by decide +kernel) (isl_pile X I) (args_list_getitem _ _) ?_
  show wpAny _ _ (Builtin.List.listSubscript? (.ref sl) >>= _) _ _ s
  refine wpAny_bind ?_
  unfold Builtin.List.listSubscript?
  refine wpAny_bind (wpAny_specialOf hTs slice_no_index ?_)
  simp only [Option.isNone_none, if_true]
  refine wpAny_pure ?_
  show wpAny _ _ (typeOf (.ref sl) >>= _) _ _ s
  refine wpAny_bind (wpAny_typeOf hTs ?_)
  rw [if_neg (by decide)]
  rw [listSliceParts_eq]
  refine wpAny_bind (wpAny_bind (wpAny_field hos hds (x := .none) rfl (wpAny_bind (wpAny_listPart .none ?_))))
  rw [if_neg (show ¬ ((rawPart none == rawInt 0) = true) from Bool.false_ne_true)]
  refine wpAny_bind (wpAny_field hos hds (x := vl) rfl (wpAny_bind (wpAny_listPart pl ?_)))
  refine wpAny_bind (wpAny_field hos hds (x := vu) rfl (wpAny_bind (wpAny_listPart pu (wpAny_pure ?_))))
  refine wpAny_bind (m := Builtin.List.listItems (.ref p)) ?_
  unfold Builtin.List.listItems
  refine wpAny_bind (wpAny_seqItems I.at_ rfl (wpAny_pure ?_))
  refine wpAny_bind (wpAny_of_eq (sliceIndices_raw lo hi none vs.toArray.size (by simp)) ?_)
  exact wpAny_bind (wpAny_newObj_type (wpAny_pure (wpAny_pure h)) (Nat.le_trans (slicePick_size_le vs.toArray lo hi none) hsz'))
theorem si_pile {h₀ : Heap} {L : Addr} {m : Str → Option Value} {news tl : List (Addr × Obj)} {p d sl e : Addr} {vs : List Value} {n ne : Nat} {od : Option Obj} {t0 : Tok} {Q : Unit → Shared → Prop} (F : Fr h₀ L s.heap m) (X₀ : (hd.heap_39 w.params).In h₀) (N : News h₀ L s.heap news) (I : W.InstAt s.heap p (pobj d vs n) 151 od)
    (hs : s.heap.IsSliceOf sl (.int 0 t0) .none .none) (he : s.heap.get? e = some (lobj [] ne)) (hep : e ≠ p) (hsub : ∀ q ∈ (p, pobj d vs n) :: tl, q ∈ news) (htl : ∀ q ∈ tl, q.1 ≠ p) (hsz : vs.length ≤ 1000)
    (h : ∀ h' n', Fr h₀ L h' m → News h₀ L h' ((p, pobj d [] n') :: tl) → Q () { s with heap := h' }) : wpAny (model prog w) A (setItem (.ref p) (.ref sl) (.ref e)) Q E s := by
  have X := X₀.keeps F.keep
  have hf : findIn (hd.heap_39 w.params) (.ref 151) "__setitem__" = some (some (.builtin "list.__setitem__")) := by kernel_rfl
  obtain ⟨os, hos, hcs, hds⟩ := id hs
  have hTs : s.TypeIs (.ref sl) "slice" := ⟨os, hos, hcs⟩
  have hsz' : vs.toArray.size ≤ sizeLine := by rw [List.size_toArray]; simp only [sizeLine]; omega
  unfold setItem
  refine wpAny_holding ?_
  refine wpAny_bind (seqkey_pile X I ?_)
  refine wpAny_bind (kfo_special (id := "list.__setitem__") X I hf PySem.F.slot_list_setitem.bind ?_)
  refine wpAny_call (codeAny_call_builtin (id := "list.__setitem__") PySem.F.slot_list_setitem.plain PySem.F.entry_list_setitem ?_)
  refine check_slot (i := "list.__setitem__") (n := "__setitem__") (owner := "list") (by decide +kernel) (by decide +kernel) (isl_pile X I) (by unfold argsOk; kernel_rfl) ?_
  unfold Builtin.«list.__setitem__»
  refine wpAny_bind (wpAny_of_eq (a := (Value.ref p, [Value.ref sl, Value.ref e])) (by rfl) ?_)
  dsimp only
  refine wpAny_bind ?_
  unfold Builtin.List.listSubscript?
  refine wpAny_bind (wpAny_specialOf hTs slice_no_index ?_)
  simp only [Option.isNone_none, if_true]
  refine wpAny_pure ?_
  dsimp only
  refine wpAny_bind (wpAny_typeOf hTs ?_)
  rw [if_neg (by decide)]
  rw [listSliceParts_eq]
  refine wpAny_bind (wpAny_bind (wpAny_field hos hds (x := .none) rfl (wpAny_bind (wpAny_listPart .none ?_))))
  rw [if_neg (show ¬ ((rawPart none == rawInt 0) = true) from Bool.false_ne_true)]
  refine wpAny_bind (wpAny_field hos hds (x := .int 0 t0) rfl (wpAny_bind (wpAny_listPart (.int 0 t0) ?_)))
  refine wpAny_bind (wpAny_field hos hds (x := .none) rfl (wpAny_bind (wpAny_listPart .none (wpAny_pure ?_))))
  dsimp only
  have hsr : Builtin.List.listSameRef (Value.ref p) (Value.ref e) = false := by show (p == e) = false; simp; exact fun z => hep z.symm
  refine if_not hsr ?_
  refine wpAny_bind ?_
  unfold Builtin.List.listAllItems
  refine wpAny_bind (wpAny_typeOf (T := "list") ⟨_, he, rfl⟩ ?_)
  refine if_so (by decide) ?_
  unfold Builtin.List.listItems
  refine wpAny_bind (wpAny_seqItems he rfl (wpAny_pure ?_))
  refine wpAny_bind (wpAny_bind (wpAny_seqItems I.at_ rfl (wpAny_pure ?_)))
  refine wpAny_bind (wpAny_of_eq (sliceIndices_raw (some 0) none none vs.toArray.size (by simp)) ?_)
  have hb : sliceBounds (some 0) none none vs.toArray.size = (0, (vs.length : Int), 1) := by simp [sliceBounds]; omega
  rw [hb]
  dsimp only
  refine if_so (by decide) ?_
  refine wpAny_bind (wpAny_rule ?_)
  refine if_not ?_ ?_
  · unfold Builtin.List.listTooLong; simp only [decide_eq_false_iff_not, List.size_toArray]; simp; omega
  have e9 : ∀ xs : Array Value, xs = vs.toArray → xs.extract 0 (Int.toNat 0) ++ #[] ++ xs.extract (max 0 (vs.length : Int)).toNat = ([] : List Value).toArray := by
    intro xs hxs; subst hxs; simp
  obtain ⟨n', F', N'⟩ := updP (f := fun xs => xs.extract 0 (Int.toNat 0) ++ #[] ++ xs.extract (max 0 (vs.length : Int)).toNat) (us := []) F N hsub htl (e9 _ rfl)
  have hh := h _ n' F' N'
  show wpAny _ _ (updateSeq p _ >>= _) _ _ _
  have hl := I.at_
  have hz' : ((fun xs : Array Value => xs.extract 0 (Int.toNat 0) ++ #[] ++ xs.extract (max 0 (vs.length : Int)).toNat) vs.toArray).size ≤ sizeLine + 1 := by show (vs.toArray.extract 0 (Int.toNat 0) ++ #[] ++ vs.toArray.extract (max 0 (vs.length : Int)).toNat).size ≤ _; rw [e9 _ rfl]; simp [sizeLine]
  refine wpAny_bind (wpAny_updateSeq hl rfl (hz := hsz') (_hz' := hz') ?_)
  refine wpAny_bind (wpAny_letGo ?_)
  exact wpAny_pure (wpAny_pure hh)
end
end
section
local macro_rules | `(tactic| walk_at "zz") => `(tactic| fail)
theorem forget1_21 {prog : Program} {w : World} {A : Around} {Q : Bool → Shared → Prop} {E : Value → Shared → Prop} {s : Shared} (h : wpAny (model prog w) A (truthy (.bool true)) Q E s) : wpAny (model prog w) A (truthy (.bool true)) Q E s := by
  w_top off
  first | (walk1; fail) | exact h
local macro_rules | `(tactic| walk_at "zz") => `(tactic| fail)
theorem forget2_21 {prog : Program} {w : World} {A : Around} {Q : Bool → Shared → Prop} {E : Value → Shared → Prop} {s : Shared} (h : wpAny (model prog w) A (truthy (.bool true)) Q E s) : wpAny (model prog w) A (truthy (.bool true)) Q E s := by
  first | (walk1; fail) | exact h
end
noncomputable section
open Bi
set_option hygiene false in
local macro_rules | `(tactic| walk_at "m.introG") => `(tactic| (dsimp only [ClG]; k_fill; intro mean mg mb loose dp un gd cn cs a ccd cl outer A₀ base h₀ L m s Q E hB hF hX hN hT hk hdp hun hret; refine wpAny_call ?_))
set_option hygiene false in
local macro_rules | `(tactic| walk_at "m.enterD") => `(tactic| ((case kA => exact rfl); (case kF => exact rfl); (case kK => assumption); (case k1 => k_asm); (case k2 => k_asm); (case k3 => k_asm); (case k4 => k_asm); (case k5 => k_asm); (case k6 => k_is); (case k7 => k_is); (case k8 => ktr_room); (case k9 => exact binds_K (hX.keeps hF.keep) rfl (by k_is) rfl rfl rfl); (case c5 => decide); (case kB => exact locs rfl); (case c2 => exact rfl); (case c3 => exact rfl); (case c4 => exact rfl); k_whole; intro g' L' h' FG' F' N' B' X' T'; (try dsimp only); (try k_lift B'); refine wpAny_noRaise ?_; (try k_fold)))
local macro_rules | `(tactic| walk_at "Stop") => `(tactic| (fail "stop"))
local macro_rules | `(tactic| walk_at "subscriptTail Name Slice ref ref") => `(tactic| (refine stopHere ?_))
local macro_rules | `(tactic| walk_at "setItem ref") => `(tactic| (refine stopHere ?_))
theorem st_pile {prog : Program} {w : World} {A : Around} {E : Value → Shared → Prop} {s : Shared} {value slice : PySem.Expr} {p : Addr} {ox : Obj} {od : Option Obj} {i : Value} {ops : List Value} {Q : Value → Shared → Prop} (X : (hd.heap_39 w.params).In s.heap) (I : W.InstAt s.heap p ox 151 od) (h : wpAny (model prog w) A (getItem (.ref p) i) Q E s)
    (hs : subscripted slice false (.ref p) i = operate ops (getItem (.ref p) i)) (ht : ∀ r, letTemporaryGo value (.ref p) r = pure ()) : wpAny (model prog w) A (subscriptTail value slice (.ref p) i) Q E s := by
  have hf : findIn (hd.heap_39 w.params) (.ref 151) "__getitem__" = some (some (.builtin "list.__getitem__")) := by kernel_rfl
  unfold subscriptTail
  refine wpAny_bind ?_
  unfold getitemInPython
  refine wpAny_bind (wpAny_bind (I.type.here ((looks_findIn X hf).here ?_)))
  have fin : wpAny (model prog w) A (subscripted slice false (.ref p) i) (fun r s₃ => wpAny (model prog w) A (letTemporaryGo value (.ref p) r >>= fun _ => pure r) Q E s₃) E s := by
    rw [hs]
    exact wpAny_operating (wpAny_mono h (fun r s₃ h₃ => wpAny_bind (wpAny_of_eq (ht r) (wpAny_pure h₃))) fun _ _ x => x)
  first
    | exact wpAny_pure (wpAny_bind fin)
    | exact wpAny_bind (wpAny_pure (wpAny_bind fin))
    | exact wpAny_bind fin
theorem from_call {w : World} (news tl) (p d : Addr) (vs : List Value) (n : Nat) (o : Obj) (hsub : ∀ q ∈ (p, pobj d vs n) :: tl, q ∈ news) (htl : ∀ q ∈ tl, q.1 ≠ p) (hsz : vs.length ≤ 1000) (hdo : (d, o) ∈ news) :
    ClG 1 w 103 news [.ref p] (fun r news' => ∃ x n' n2, r = .ref x ∧ news' = (p, pobj d [] n') :: (x, lobj vs n2) :: tl ∧ ∀ q ∈ news, q.1 < x) := by
  walk_at "m.introG"
  refine' code_def (binds := [(Str.ofString "self", .ref p), (Str.ofString "i", .int 0 388)]) ?k1 ?k2 ?k3 ?k4 ?k5 ?kA ?kF ?kK ?k6 ?k7 ?k8 ?k9 ?kB ?_ ?c2 ?c3 ?c4 ?c5
  walk_at "m.enterD"
  k_steps
  unfold Stop
  have up : ∀ b o, h'.get? b = some o → (h'.push { cls := .type "slice", data := .fields #[.int 0 388, .none, .none] }).get? b = some o := fun b o e => Heap.get?_push_of_some _ e
  have hp : (p, pobj d vs n) ∈ news := hsub _ (.head _)
  have N1 : News g' L' (h'.push { cls := .type "slice", data := .fields #[.int 0 388, .none, .none] }) news := N'.grown up
  have F1 := F'.push { cls := .type "slice", data := .fields #[.int 0 388, .none, .none] }
  refine st_pile (X'.keeps F1.keep) (inst_pile N1 hp hdo) (gi_pile (X'.keeps F1.keep) (inst_pile N1 hp hdo) (Heap.IsSliceOf.new ..) (.int 0 388) .none hsz ?_) (by with_unfolding_all rfl) (by intro _; with_unfolding_all rfl)
  have hsp : slicePick vs.toArray (some 0) none none = vs.toArray := by
    rw [kmk_pick_nat vs.toArray (a := 0) (b := vs.length) (by simp [sliceBounds]; omega)]; simp
  rw [hsp]
  have N2 := News.push F1 N1 (lobj vs 0)
  have F2 := F1.push (lobj vs 0)
  have l2 : ∀ q ∈ news, q.1 < (h'.push { cls := .type "slice", data := .fields #[.int 0 388, .none, .none] }).objs.size := fun q hq => Heap.lt_size (N1 q hq).1
  revert N2 F2 l2
  show News g' L' (Heap.push _ (lobj vs 0)) _ → Fr g' L' (Heap.push _ (lobj vs 0)) _ → _ → wpAny _ _ (storeName _ _ (Value.ref (Heap.push _ _).objs.size)) _ _ { s with heap := Heap.push _ (lobj vs 0), toks := _ }
  generalize (h'.push { cls := .type "slice", data := .fields #[.int 0 388, .none, .none] } : Heap).objs.size = x2
  generalize (h'.push { cls := .type "slice", data := .fields #[.int 0 388, .none, .none] } : Heap).push (lobj vs 0) = h2
  intro N2 F2 l2
  clear F1 N1 up
  k_steps
  rename_i _ x4 h4 F4 N4 l4
  unfold Stop
  dsimp only
  have up4 : ∀ b o, h4.get? b = some o → (h4.push { cls := .type "slice", data := .fields #[.int 0 388, .none, .none] }).get? b = some o := fun b o e => Heap.get?_push_of_some _ e
  have N5 := N4.grown up4
  have F5 := F4.push { cls := .type "slice", data := .fields #[.int 0 388, .none, .none] }
  have hp5 : p ≠ x4 := Nat.ne_of_lt (allLt_mem l4.2 _ hp)
  refine si_pile (tl := (x2, lobj vs 0) :: tl) F5 X' N5 (inst_pile N5 (.tail _ (.tail _ hp)) (.tail _ (.tail _ hdo))) (Heap.IsSliceOf.new ..) (N5.get (.head _)) (Ne.symm hp5)
    (List.forall_mem_cons.mpr ⟨.tail _ (.tail _ hp), List.forall_mem_cons.mpr ⟨.tail _ (.head _), fun q hq => .tail _ (.tail _ (hsub q (.tail _ hq)))⟩⟩)
    (List.forall_mem_cons.mpr ⟨Nat.ne_of_gt (l2 _ hp), htl⟩) hsz ?_
  intro h6 n6 F6 N6
  clear F5 N5 F4 N4 up4
  dsimp only
  k_steps
  exact hret _ _ _ _ ⟨_, _, _, rfl, rfl, l2⟩ (by k_asm) (by k_asm)
end
section
local macro_rules | `(tactic| walk_at "zz") => `(tactic| fail)
theorem forget1_22 {prog : Program} {w : World} {A : Around} {Q : Bool → Shared → Prop} {E : Value → Shared → Prop} {s : Shared} (h : wpAny (model prog w) A (truthy (.bool true)) Q E s) : wpAny (model prog w) A (truthy (.bool true)) Q E s := by
  w_top off
  first | (walk1; fail) | exact h
local macro_rules | `(tactic| walk_at "zz") => `(tactic| fail)
theorem forget2_22 {prog : Program} {w : World} {A : Around} {Q : Bool → Shared → Prop} {E : Value → Shared → Prop} {s : Shared} (h : wpAny (model prog w) A (truthy (.bool true)) Q E s) : wpAny (model prog w) A (truthy (.bool true)) Q E s := by
  first | (walk1; fail) | exact h
end
noncomputable section
def ltS : List Str → List Str → Bool
  | [], [] => false
  | [], _ :: _ => true
  | _ :: _, [] => false
  | x :: r, y :: t => if x = y then ltS r t else decide (x.cps.toList < y.cps.toList)
theorem ltS_end (ss ts : List Str) (i : Nat) (h : i ≤ ss.length) (h2 : i ≤ ts.length) (he : i = ss.length ∨ i = ts.length) : ltS (ss.drop i) (ts.drop i) = decide (ss.length < ts.length) := by
  by_cases h3 : i = ss.length
  · subst h3
    by_cases h4 : ss.length = ts.length
    · rw [List.drop_of_length_le (Nat.le_refl _), List.drop_of_length_le (by omega), h4]; simp [ltS]
    · have h5 : ss.length < ts.length := by omega
      rw [List.drop_of_length_le (Nat.le_refl _), List.drop_eq_getElem_cons h5]; simp [ltS, h5]
  · have h4 : i = ts.length := by omega
    have h5 : i < ss.length := by omega
    rw [List.drop_of_length_le (l := ts) (by omega), List.drop_eq_getElem_cons h5]
    simp [ltS]; omega
theorem ltS_step (ss ts : List Str) (i : Nat) {x y : Str} (hx : ss[i]? = some x) (hy : ts[i]? = some y) : ltS (ss.drop i) (ts.drop i) = if x = y then ltS (ss.drop (i + 1)) (ts.drop (i + 1)) else decide (x.cps.toList < y.cps.toList) := by
  obtain ⟨h1, e1⟩ := List.getElem?_eq_some_iff.mp hx
  obtain ⟨h2, e2⟩ := List.getElem?_eq_some_iff.mp hy
  rw [List.drop_eq_getElem_cons h1, List.drop_eq_getElem_cons h2, e1, e2]
  rfl
section
variable {prog : Program} {w : World} {A : Around} {E : Value → Shared → Prop} {s : Shared} {a b : Addr} {xs ys : List Value} {ns ms : List Str}
theorem rc_lt_str {x y : Str} {t u : Tok} {Q : Value → Shared → Prop} (h : Q (.bool (decide (x.cps.toList < y.cps.toList))) s) : wpAny (model prog w) A (richCompare .Lt (.str x t) (.str y u)) Q E s :=
  wpAny_richCompare_same (PySem.typeIs_str s x t) (PySem.typeIs_str s y u) PySem.F.slot_str_lt (PyProof.Rows.call_str_lt ⟨by simp, h⟩)
theorem lt_loop (l b : Addr) (xs ys : List Value) (n n2 : Nat) {ns ms : List Str} (hx : StrsAre xs ns) (hy : StrsAre ys ms) (k : Nat) :
    ∀ i : Nat, ns.length - i = k → i ≤ ns.length → i ≤ ms.length → Meets (Builtin.«list.__eq__.loop» ⟨[.ref l, .ref b, rawInt i, rawInt 0], []⟩)
      (fun _ R s => s.heap.get? l = some (lobj xs n) ∧ s.heap.get? b = some (lobj ys n2) ∧ R (.ok (.ret (.bool (ltS (ns.drop i) (ms.drop i))))) s) := by
  have lx := hx.len_eq
  have ly := hy.len_eq
  have fin : ∀ i : Nat, i ≤ ns.length → i ≤ ms.length → (i = ns.length ∨ i = ms.length) → Meets (Builtin.«list.__eq__.loop» ⟨[.ref l, .ref b, rawInt i, rawInt 0], []⟩)
      (fun _ R s => s.heap.get? l = some (lobj xs n) ∧ s.heap.get? b = some (lobj ys n2) ∧ R (.ok (.ret (.bool (ltS (ns.drop i) (ms.drop i))))) s) := by
    intro i hi hi2 he prog w A R s h
    obtain ⟨hp, g, d, tk, os⟩ := s; obtain ⟨hl, hb, h⟩ := h
    rw [ltS_end _ _ _ hi hi2 he] at h
    wp_walk using AutoSeq1.wpAny_loadPart' hl, AutoSeq1.wpAny_loadPart' hb
    have hR : R (.ok (.ret (.bool (decide (xs.toArray.size < ys.toArray.size))))) ⟨hp, g, d, tk, os⟩ := by simpa [lx, ly] using h
    rcases he with he | he
    · have hi1 : xs.toArray[((i : Nat) : Int).toNat]? = none := by simp; omega
      rw [hi1]
      wp_walk using AutoSeq1.wpAny_loadPart' hl, AutoSeq1.wpAny_loadPart' hb
      exact hR
    · have hi1 : ys.toArray[((i : Nat) : Int).toNat]? = none := by simp; omega
      rw [hi1]
      cases hx1 : xs.toArray[((i : Nat) : Int).toNat]? <;> (wp_walk using AutoSeq1.wpAny_loadPart' hl, AutoSeq1.wpAny_loadPart' hb; exact hR)
  induction k with
  | zero => intro i hk hi hi2; exact fin i hi hi2 (.inl (by omega))
  | succ k ih =>
    intro i hk hi hi2
    by_cases h2 : i = ms.length
    · exact fin i hi hi2 (.inr h2)
    intro prog w A R s h
    obtain ⟨hp, g, d, tk, os⟩ := s; obtain ⟨hl, hb, h⟩ := h
    have h1 : i < ns.length := by omega
    have h2' : i < ms.length := by omega
    obtain ⟨x, t, e1, e2⟩ := hx.item i xs[i] (by simp)
    obtain ⟨y, u, e3, e4⟩ := hy.item i ys[i] (by simp)
    have hi1 : xs.toArray[((i : Nat) : Int).toNat]? = some (.str x t) := by rw [← e1]; simp
    have hi2 : ys.toArray[((i : Nat) : Int).toNat]? = some (.str y u) := by rw [← e3]; simp
    have hc : ((i : Int) + 1) = ((i + 1 : Nat) : Int) := by push_cast; rfl
    rw [ltS_step _ _ _ e2 e4] at h
    wp_walk using AutoSeq1.wpAny_loadPart' hl, AutoSeq1.wpAny_loadPart' hb
    rw [hi1, hi2]
    refine wpAny_bind (wpAny_eqBool_str ?_)
    by_cases hxy : x = y
    · rw [if_pos hxy] at h
      rw [decide_eq_true hxy]
      wp_walk
      rw [hc]
      exact ⟨plainId_quiet MeetsSeq3.plain_eq_loop _, codeAny_builtin MeetsSeq3.entry_eq_loop (by
        rw [Around.under_plainId MeetsSeq3.plain_eq_loop _]
        exact ih (i + 1) (by omega) (by omega) (by omega) prog w A R _ ⟨hl, hb, h⟩)⟩
    · rw [if_neg hxy] at h
      rw [decide_eq_false hxy]
      wp_walk using AutoSeq1.wpAny_loadPart' hl, AutoSeq1.wpAny_loadPart' hb
      rw [hi1, hi2]
      refine wpAny_bind (rc_lt_str ?_)
      wp_walk
      exact h
theorem list_lt (l b : Addr) (xs ys : List Value) (n n2 : Nat) {ns ms : List Str} (hx : StrsAre xs ns) (hy : StrsAre ys ms) :
    Meets (Builtin.«list.__lt__» ⟨[.ref l, .ref b], []⟩) (fun _ R s => s.heap.get? l = some (lobj xs n) ∧ s.heap.get? b = some (lobj ys n2) ∧ R (.ok (.ret (.bool (ltS ns ms)))) s) := by
  intro prog w A R s h
  obtain ⟨hp, g, d, tk, os⟩ := s; obtain ⟨hl, hb, h⟩ := h
  have f3 := AutoSeq1.sub_list_list
  wp_walk using AutoSeq1.wpAny_loadPart' hl, AutoSeq1.wpAny_loadPart' hb
  exact ⟨plainId_quiet MeetsSeq3.plain_eq_loop _, codeAny_builtin MeetsSeq3.entry_eq_loop (by
    rw [Around.under_plainId MeetsSeq3.plain_eq_loop _]
    exact lt_loop l b xs ys n n2 hx hy _ 0 rfl (Nat.zero_le _) (Nat.zero_le _) prog w A R _ ⟨hl, hb, by simpa using h⟩)⟩
theorem keyLt_lists {n n2 : Nat} {Q : Bool → Shared → Prop} (hu : A.units < cLine) (hl : s.heap.get? a = some (lobj xs n)) (hb : s.heap.get? b = some (lobj ys n2)) (hx : StrsAre xs ns) (hy : StrsAre ys ms) (h : Q (ltS ns ms) s) :
    wpAny (model prog w) A (keyLt' oneType' (.ref a) (.ref b)) Q E s := by
  rw [keyLt'_oneType, oneLt'_eq]
  simp only [if_true]
  refine wpAny_bind (wpAny_cRoomFor hu ?_)
  refine wpAny_bind (wpAny_callSpecialIfBound?_slot (T := "list") ⟨_, hl, rfl⟩ PySem.F.slot_list_lt ?_)
  exact call_meets PySem.F.slot_list_lt ⟨_, hl, rfl⟩ PySem.F.entry_list_lt (PySem.F.args_list_lt_2 _ _) (list_lt a b xs ys n n2 hx hy) ⟨hl, hb, wpAny_truthy_bool h⟩
end
end
section
local macro_rules | `(tactic| walk_at "zz") => `(tactic| fail)
theorem forget1_23 {prog : Program} {w : World} {A : Around} {Q : Bool → Shared → Prop} {E : Value → Shared → Prop} {s : Shared} (h : wpAny (model prog w) A (truthy (.bool true)) Q E s) : wpAny (model prog w) A (truthy (.bool true)) Q E s := by
  w_top off
  first | (walk1; fail) | exact h
local macro_rules | `(tactic| walk_at "zz") => `(tactic| fail)
theorem forget2_23 {prog : Program} {w : World} {A : Around} {Q : Bool → Shared → Prop} {E : Value → Shared → Prop} {s : Shared} (h : wpAny (model prog w) A (truthy (.bool true)) Q E s) : wpAny (model prog w) A (truthy (.bool true)) Q E s := by
  first | (walk1; fail) | exact h
end
noncomputable section
section
variable (n : Nat) (lt : Nat → Nat → Bool)
def WpP {α : Type} : KasT α → (α → Prop) → Prop
  | .ret a, Q => Q a
  | .ask i j k, Q => i < n ∧ j < n ∧ WpP (k (lt i j)) Q
structure LtOk : Prop where
  tr : ∀ a b c, a < n → b < n → c < n → lt a b = true → lt b c = true → lt a c = true
  asym : ∀ a b, a < n → b < n → lt a b = true → lt b a = false
  tot : ∀ a b, a < n → b < n → a ≠ b → lt a b = false → lt b a = true
def gd (p : Array Nat) (i : Nat) : Nat := p.getD i 0
def PR (p : Array Nat) : Prop := p.Perm (List.range n).toArray
def Up (p : Array Nat) (m : Nat) : Prop := ∀ i j, i < j → j < m → lt (gd p i) (gd p j) = true
def Dn (p : Array Nat) (m : Nat) : Prop := ∀ i j, i < j → j < m → lt (gd p j) (gd p i) = true
end
section
variable {n : Nat} {lt : Nat → Nat → Bool}
theorem wpP_bind {α β : Type} {f : α → KasT β} {Q : β → Prop} : ∀ (t : KasT α), WpP n lt t (fun a => WpP n lt (f a) Q) → WpP n lt (t.bind f) Q
  | .ret _, h => h
  | .ask _ _ k, h => ⟨h.1, h.2.1, wpP_bind (k _) h.2.2⟩
theorem wpP_mono {α : Type} {Q Q' : α → Prop} : ∀ (t : KasT α), WpP n lt t Q → (∀ a, Q a → Q' a) → WpP n lt t Q'
  | .ret a, h, hq => hq a h
  | .ask _ _ k, h, hq => ⟨h.1, h.2.1, wpP_mono (k _) h.2.2 hq⟩
theorem wpP_kas {α : Type} {cmp : Nat → Nat → (Bool → Shared → Prop) → Shared → Prop} {Q : α → Prop} {Q' : α → Shared → Prop} {s : Shared} (hc : ∀ i j C, i < n → j < n → C (lt i j) s → cmp i j C s) : ∀ (t : KasT α), WpP n lt t Q → (∀ a, Q a → Q' a s) → t.kasWp cmp Q' s
  | .ret a, h, hq => hq a h
  | .ask i j k, h, hq => hc i j _ h.1 h.2.1 (wpP_kas hc (k _) h.2.2 hq)
theorem gd_some {p : Array Nat} {i : Nat} (h : i < p.size) : p[i]? = some (gd p i) := by simp [gd, Array.getD, h]
theorem gd_of {p q : Array Nat} {i j : Nat} (h : p[i]? = q[j]?) : gd p i = gd q j := by simp only [gd, Array.getD_eq_getD_getElem?, h]
theorem PR.size {p : Array Nat} (h : PR n p) : p.size = n := by have := h.size_eq; simpa using this
theorem PR.bd {p : Array Nat} (h : PR n p) {i : Nat} (hi : i < n) : gd p i < n := by
  have h1 := gd_some (p := p) (i := i) (by rw [h.size]; exact hi)
  have h2 : gd p i ∈ p := Array.mem_of_getElem? h1
  have h3 := (h.mem_iff).mp h2
  simpa using h3
theorem PR.inj {p : Array Nat} (h : PR n p) {i j : Nat} (hi : i < n) (hj : j < n) (e : gd p i = gd p j) : i = j := by
  have nd : p.toList.Nodup := ((Array.perm_iff_toList_perm.mp h).nodup_iff).mpr (by simpa using List.nodup_range)
  have h1 := gd_some (p := p) (i := i) (by rw [h.size]; exact hi)
  have h2 := gd_some (p := p) (i := j) (by rw [h.size]; exact hj)
  rw [e] at h1
  rw [← Array.getElem?_toList] at h1 h2
  exact (List.getElem?_inj (by rw [Array.length_toList, h.size]; exact hi) nd).mp (h1.trans h2.symm)
theorem PR.rev {p : Array Nat} (h : PR n p) (i j : Nat) : PR n (kas_rev p i j) := (mirror_perm p i j _).trans h
theorem PR.bub {p : Array Nat} (h : PR n p) (i j : Nat) : PR n (bubble p i j) := (bubble_perm p i j).trans h
theorem Up.snoc (O : LtOk n lt) {p : Array Nat} {m : Nat} (h : PR n p) (hu : Up lt p m) (hm : m < n) (h1 : 1 ≤ m) (hl : lt (gd p (m - 1)) (gd p m) = true) : Up lt p (m + 1) := by
  intro i j hij hj
  by_cases e : j = m
  · subst e
    by_cases e2 : i = j - 1
    · subst e2; exact hl
    · exact O.tr _ _ _ (h.bd (by omega)) (h.bd (by omega)) (h.bd hm) (hu i (j - 1) (by omega) (by omega)) hl
  · exact hu i j hij (by omega)
theorem Dn.snoc (O : LtOk n lt) {p : Array Nat} {m : Nat} (h : PR n p) (hu : Dn lt p m) (hm : m < n) (h1 : 1 ≤ m) (hl : lt (gd p m) (gd p (m - 1)) = true) : Dn lt p (m + 1) := by
  intro i j hij hj
  by_cases e : j = m
  · subst e
    by_cases e2 : i = j - 1
    · subst e2; exact hl
    · exact O.tr _ _ _ (h.bd hm) (h.bd (by omega)) (h.bd (by omega)) hl (hu i (j - 1) (by omega) (by omega))
  · exact hu i j hij (by omega)
theorem asc_ok (O : LtOk n lt) {p : Array Nat} (h : PR n p) : ∀ (f m : Nat), 1 ≤ m → m + f ≤ n → Up lt p m → WpP n lt (kas_asc p f m) fun r => m ≤ r ∧ r ≤ m + f ∧ Up lt p r ∧ (r < m + f → lt (gd p r) (gd p (r - 1)) = true)
  | 0, m, h1, hf, hu => ⟨Nat.le_refl _, Nat.le_refl _, hu, fun z => absurd z (by omega)⟩
  | f + 1, m, h1, hf, hu => by
    refine ⟨h.bd (by omega), h.bd (by omega), ?_⟩
    show WpP n lt (if lt (gd p m) (gd p (m - 1)) = true then _ else _) _
    cases hc : lt (gd p m) (gd p (m - 1)) with
    | true => rw [if_pos rfl]; exact ⟨Nat.le_refl _, by omega, hu, fun _ => hc⟩
    | false =>
      rw [if_neg Bool.false_ne_true]
      have hl := O.tot _ _ (h.bd (i := m) (by omega)) (h.bd (i := m - 1) (by omega)) (fun e => by have := h.inj (by omega) (by omega) e; omega) hc
      exact wpP_mono _ (asc_ok O h f (m + 1) (by omega) (by omega) (hu.snoc O h (by omega) h1 hl)) fun r hr => ⟨by omega, by omega, hr.2.2.1, fun z => hr.2.2.2 (by omega)⟩
theorem desc_ok (O : LtOk n lt) {p : Array Nat} (h : PR n p) : ∀ (f m : Nat), 1 ≤ m → m + f ≤ n → Dn lt p m → WpP n lt (kas_desc f p m 0) fun r => r.1 = p ∧ r.2.2 = 0 ∧ m ≤ r.2.1 ∧ r.2.1 ≤ m + f ∧ Dn lt p r.2.1
  | 0, m, h1, hf, hu => ⟨rfl, rfl, Nat.le_refl _, Nat.le_refl _, hu⟩
  | f + 1, m, h1, hf, hu => by
    refine ⟨h.bd (by omega), h.bd (by omega), ?_⟩
    show WpP n lt (if lt (gd p m) (gd p (m - 1)) = true then _ else _) _
    cases hc : lt (gd p m) (gd p (m - 1)) with
    | true =>
      rw [if_pos rfl, if_neg (by omega)]
      exact wpP_mono _ (desc_ok O h f (m + 1) (by omega) (by omega) (hu.snoc O h (by omega) h1 hc)) fun r hr => ⟨hr.1, hr.2.1, by omega, by omega, hr.2.2.2.2⟩
    | false =>
      rw [if_neg Bool.false_ne_true]
      have hl := O.tot _ _ (h.bd (i := m) (by omega)) (h.bd (i := m - 1) (by omega)) (fun e => by have := h.inj (by omega) (by omega) e; omega) hc
      refine ⟨h.bd (by omega), h.bd (by omega), ?_⟩
      show WpP n lt (if lt (gd p (m - 1)) (gd p m) = true then _ else _) _
      rw [if_pos hl]
      exact ⟨rfl, rfl, Nat.le_refl _, Nat.le_add_right _ _, hu⟩
theorem gd_rev {p : Array Nat} {m : Nat} (hm : m ≤ p.size) (i : Nat) : gd (kas_rev p 0 m) i = if i < m then gd p (m - 1 - i) else gd p i := by
  have e := getElem?_mirror_all (xs := p) (i := 0) hm i
  simp only [Nat.zero_le, true_and, Nat.zero_add] at e
  by_cases hi : i < m
  · rw [if_pos hi] at e ⊢; exact gd_of e
  · rw [if_neg hi] at e ⊢; exact gd_of e
theorem Dn.rev {p : Array Nat} {m : Nat} (hm : m ≤ p.size) (hd : Dn lt p m) : Up lt (kas_rev p 0 m) m := by
  intro i j hij hj
  rw [gd_rev hm, gd_rev hm, if_pos (by omega), if_pos hj]
  exact hd _ _ (by omega) (by omega)
theorem count_ok (O : LtOk n lt) {p : Array Nat} (h : PR n p) (hn : 2 ≤ n) : WpP n lt (kas_count n p) fun r => PR n r.2 ∧ r.1 ≤ n ∧ Up lt r.2 r.1 := by
  unfold kas_count
  refine wpP_bind _ (wpP_mono _ (asc_ok O h (n - 1) 1 (Nat.le_refl _) (by omega) (fun i j hij hj => absurd hj (by omega))) fun m ⟨h1, h2, hu, hd⟩ => ?_)
  by_cases e : m = n
  · rw [if_pos (by simpa using e)]; exact ⟨h, by omega, hu⟩
  rw [if_neg (by simpa using e)]
  by_cases e1 : m > 1
  · rw [if_pos e1]
    refine ⟨h.bd (by omega), h.bd (by omega), ?_⟩
    show WpP n lt (if lt (gd p 0) (gd p (m - 1)) = true then _ else _) _
    rw [if_pos (hu 0 (m - 1) (by omega) (by omega))]
    exact ⟨h, by omega, hu⟩
  rw [if_neg e1]
  have em : m = 1 := by omega
  subst em
  unfold kas_descPart
  have hdn : Dn lt p 2 := fun i j hij hj => by
    have : i = 0 := by omega
    have : j = 1 := by omega
    subst i j; exact hd (by omega)
  refine wpP_bind _ (wpP_mono _ (desc_ok O h (n - 2) 2 (by omega) (by omega) hdn) fun r ⟨a1, a2, a3, a4, a5⟩ => ?_)
  obtain ⟨p', k, q⟩ := r
  dsimp only at a1 a2 a3 a4 a5 ⊢
  subst a1 a2
  rw [if_neg (by omega)]
  unfold kas_tail3
  refine wpP_bind _ (wpP_mono _ (asc_ok O (h.rev 0 k) (n - k) k (by omega) (by omega) (a5.rev (by rw [h.size]; omega))) fun m ⟨b1, b2, b3, b4⟩ => ?_)
  exact ⟨h.rev 0 k, by omega, b3⟩
theorem place_ok (O : LtOk n lt) {p : Array Nat} (h : PR n p) {k : Nat} (hk : k < n) : ∀ (f l r : Nat), l ≤ r → r ≤ k → r - l ≤ f → (∀ i, i < l → lt (gd p i) (gd p k) = true) → (∀ i, r ≤ i → i < k → lt (gd p k) (gd p i) = true) → (Up lt p k) →
    WpP n lt (kas_place p k f l r) fun x => x ≤ k ∧ (∀ i, i < x → lt (gd p i) (gd p k) = true) ∧ (∀ i, x ≤ i → i < k → lt (gd p k) (gd p i) = true)
  | 0, l, r, hl, hr, hf, h1, h2, hu => ⟨by omega, h1, fun i hi hik => h2 i (by omega) hik⟩
  | f + 1, l, r, hl, hr, hf, h1, h2, hu => by
    unfold kas_place
    by_cases hge : l ≥ r
    · rw [if_pos hge]; exact ⟨by omega, h1, fun i hi hik => h2 i (by omega) hik⟩
    rw [if_neg hge]
    refine ⟨h.bd hk, h.bd (by omega), ?_⟩
    show WpP n lt (if lt (gd p k) (gd p ((l + r) / 2)) = true then _ else _) _
    cases hc : lt (gd p k) (gd p ((l + r) / 2)) with
    | true =>
      rw [if_pos rfl]
      refine place_ok O h hk f l ((l + r) / 2) (by omega) (by omega) (by omega) h1 (fun i hi hik => ?_) hu
      by_cases e : i = (l + r) / 2
      · subst e; exact hc
      · exact O.tr _ _ _ (h.bd hk) (h.bd (by omega)) (h.bd (by omega)) hc (hu _ _ (by omega) hik)
    | false =>
      rw [if_neg Bool.false_ne_true]
      have hl' := O.tot _ _ (h.bd hk) (h.bd (i := (l + r) / 2) (by omega)) (fun e => by have := h.inj (by omega) (by omega) e; omega) hc
      refine place_ok O h hk f ((l + r) / 2 + 1) r (by omega) (by omega) (by omega) (fun i hi => ?_) h2 hu
      by_cases e : i = (l + r) / 2
      · subst e; exact hl'
      · exact O.tr _ _ _ (h.bd (by omega)) (h.bd (by omega)) (h.bd hk) (hu _ _ (by omega) (by omega)) hl'
theorem gd_bub {p : Array Nat} {k l : Nat} (hk : k < p.size) (hl : l ≤ k) (i : Nat) : gd (bubble p k (k - l)) i = if i = l then gd p k else if l < i ∧ i ≤ k then gd p (i - 1) else gd p i := by
  have e := getElem?_bubble hk (k - l) (by omega) i
  rw [show k - (k - l) = l by omega] at e
  by_cases h1 : i = l
  · rw [if_pos h1] at e ⊢; exact gd_of e
  · rw [if_neg h1] at e ⊢
    by_cases h2 : l < i ∧ i ≤ k
    · rw [if_pos h2] at e ⊢; exact gd_of e
    · rw [if_neg h2] at e ⊢; exact gd_of e
theorem bin_ok (O : LtOk n lt) : ∀ (f : Nat) (p : Array Nat) (k : Nat), PR n p → k + f ≤ n → Up lt p k → WpP n lt (kas_bin f p k) fun r => PR n r ∧ Up lt r (k + f)
  | 0, p, k, h, hf, hu => ⟨h, hu⟩
  | f + 1, p, k, h, hf, hu => by
    unfold kas_bin
    refine wpP_bind _ (wpP_mono _ (place_ok O h (by omega) k 0 k (by omega) (by omega) (by omega) (fun i hi => absurd hi (by omega)) (fun i h1 h2 => absurd h2 (by omega)) hu) fun l ⟨hl, h1, h2⟩ => ?_)
    have e : k + (f + 1) = (k + 1) + f := by omega
    rw [e]
    refine bin_ok O f _ (k + 1) (h.bub _ _) (by omega) ?_
    intro i j hij hj
    rw [gd_bub (by rw [h.size]; omega) hl, gd_bub (by rw [h.size]; omega) hl]
    by_cases a : i = l
    · rw [if_pos a, if_neg (by omega), if_pos (by omega)]; exact h2 _ (by omega) (by omega)
    rw [if_neg a]
    by_cases b : j = l
    · rw [if_pos b, if_neg (by omega)]; exact h1 _ (by omega)
    rw [if_neg b]
    by_cases c : l < i
    · rw [if_pos (by omega), if_pos (by omega)]; exact hu _ _ (by omega) (by omega)
    · rw [if_neg (by omega)]
      by_cases d : l < j
      · rw [if_pos (by omega)]; exact hu _ _ (by omega) (by omega)
      · rw [if_neg (by omega)]; exact hu _ _ (by omega) (by omega)
theorem sort_ok (O : LtOk n lt) (hn : 2 ≤ n) : WpP n lt (kas_sort n) fun r => PR n r ∧ Up lt r n := by
  unfold kas_sort
  have h0 : PR n (List.toArray (List.range n)) := Array.Perm.refl _
  refine wpP_bind _ (wpP_mono _ (count_ok O h0 hn) fun r ⟨h1, h2, h3⟩ => ?_)
  by_cases e : r.1 < n
  · rw [if_pos e]
    have e2 : max r.1 1 + (n - max r.1 1) = n := by omega
    refine wpP_mono _ (bin_ok O (n - max r.1 1) r.2 (max r.1 1) h1 (by omega) (fun i j hij hj => h3 i j hij (by omega))) fun p hp => ?_
    rw [e2] at hp; exact hp
  · rw [if_neg e]
    have e2 : r.1 = n := by omega
    rw [e2] at h3
    exact ⟨h1, h3⟩
end
end
section
local macro_rules | `(tactic| walk_at "zz") => `(tactic| fail)
theorem forget1_24 {prog : Program} {w : World} {A : Around} {Q : Bool → Shared → Prop} {E : Value → Shared → Prop} {s : Shared} (h : wpAny (model prog w) A (truthy (.bool true)) Q E s) : wpAny (model prog w) A (truthy (.bool true)) Q E s := by
  w_top off
  first | (walk1; fail) | exact h
local macro_rules | `(tactic| walk_at "zz") => `(tactic| fail)
theorem forget2_24 {prog : Program} {w : World} {A : Around} {Q : Bool → Shared → Prop} {E : Value → Shared → Prop} {s : Shared} (h : wpAny (model prog w) A (truthy (.bool true)) Q E s) : wpAny (model prog w) A (truthy (.bool true)) Q E s := by
  first | (walk1; fail) | exact h
end
noncomputable section
open Bi
theorem updF_mid {d : Addr} {o : Obj} : ∀ {pre : List (Addr × Obj)} {tl : List (Addr × Obj)}, (∀ p ∈ pre, p.1 ≠ d) → (∀ p ∈ tl, p.1 ≠ d) → UpdF d o (pre ++ (d, o) :: tl) (fun o' => pre ++ (d, o') :: tl)
  | [], _, _, h => .head h
  | p :: pre, _, h1, h2 => .tail (p := p) (h1 _ (.head _)) (updF_mid (fun q hq => h1 q (.tail _ hq)) h2)
theorem news_sub {h₀ h : Heap} {L : Addr} {news ns : List (Addr × Obj)} (N : News h₀ L h news) (hs : ∀ p ∈ ns, p ∈ news) : News h₀ L h ns := fun p hp => N p (hs p hp)
section
variable {prog : Program} {w : World} {A : Around} {E : Value → Shared → Prop} {s : Shared} {h₀ : Heap} {L : Addr} {m : Str → Option Value} {news : List (Addr × Obj)}
def KeyAt (g : Str → List Str) (ks : List Value) (ds : List Str) (pre : List (Addr × Obj)) : Prop := ks.length = ds.length ∧ ∀ (i : Nat) (x : Str), ds[i]? = some x → ∃ a ws n, ks[i]? = some (.ref a) ∧ (a, lobj ws n) ∈ pre ∧ StrsAre ws (g x)
def KeyOk (prog : Program) (w : World) (A : Around) (h₀ : Heap) (L : Addr) (m : Str → Option Value) (f : Value) (g : Str → List Str) (ss : List Str) : Prop :=
  ∀ (x : Str) (t : Tok) (news : List (Addr × Obj)) (s : Shared) (Q : Value → Shared → Prop), x ∈ ss → Fr h₀ L s.heap m → News h₀ L s.heap news →
    (∀ (y : Addr) (ws : List Value) (n : Nat) (h' : Heap) (tk' : Nat), StrsAre ws (g x) → Fr h₀ L h' m → News h₀ L h' ((y, lobj ws n) :: news) → (∀ p ∈ news, p.1 < y) → Q (.ref y) { s with heap := h', toks := tk' }) →
      wpAny (model prog w) A (call f [.str x t]) Q (fun _ _ => False) s
theorem keyAt_snoc {g : Str → List Str} {ks : List Value} {ds : List Str} {pre : List (Addr × Obj)} (h : KeyAt g ks ds pre) {x : Str} {y : Addr} {ws : List Value} {n : Nat} (hw : StrsAre ws (g x)) : KeyAt g (ks ++ [.ref y]) (ds ++ [x]) ((y, lobj ws n) :: pre) := by
  refine ⟨by simp [h.1], fun i z hz => ?_⟩
  by_cases hi : i < ds.length
  · rw [List.getElem?_append_left hi] at hz
    obtain ⟨a, ws', n', h1, h2, h3⟩ := h.2 i z hz
    exact ⟨a, ws', n', by rw [List.getElem?_append_left (by rw [h.1]; exact hi)]; exact h1, .tail _ h2, h3⟩
  · have hi2 : i = ds.length := by
      have := (List.getElem?_eq_some_iff.mp hz).1
      simp at this; omega
    subst hi2
    have hz' : x = z := by simpa using hz
    subst hz'
    exact ⟨y, ws, n, by rw [← h.1]; simp, .head _, hw⟩
theorem keys_run {f : Value} {g : Str → List Str} {ss : List Str} {kS : Addr} {tl : List (Addr × Obj)} {FinP : List Value → Nat → Shared → Prop} (KO : KeyOk prog w A h₀ L m f g ss) (htl : ∀ p ∈ tl, p.1 ≠ kS) :
    ∀ (r : List Value) (rs ds : List Str) (ks : List Value) (e : Nat) (pre : List (Addr × Obj)) (h : Heap) (tk : Nat), StrsAre r rs → (∀ x ∈ rs, x ∈ ss) → KeyAt g ks ds pre → (∀ p ∈ pre, p.1 ≠ kS) → Fr h₀ L h m → News h₀ L h (pre ++ (kS, lobj ks e) :: tl) →
      (∀ ks' e' pre' h' tk', KeyAt g ks' (ds ++ rs) pre' → (∀ p ∈ pre', p.1 ≠ kS) → Fr h₀ L h' m → News h₀ L h' (pre' ++ (kS, lobj ks' e') :: tl) → FinP ks' e' { s with heap := h', toks := tk' }) →
        KatKeys prog w A h₀ L m kS f FinP r ks e { s with heap := h, toks := tk }
  | [], rs, ds, ks, e, pre, h, tk, hr, hss, hk, hp, F, N, fin => by
    cases hr
    exact KatKeys.nil (fin ks e pre h tk (by simpa using hk) hp F N)
  | v :: r, rs, ds, ks, e, pre, h, tk, hr, hss, hk, hp, F, N, fin => by
    cases hr with
    | @cons x t _ rs' hr' =>
    refine KatKeys.cons (KO x t _ _ _ (hss x (.head _)) F N fun y ws n h' tk' hw F' N' hlt => ?_)
    have hyk : y ≠ kS := Nat.ne_of_gt (hlt (kS, lobj ks e) (List.mem_append_right _ (.head _)))
    have hp' : ∀ p ∈ (y, lobj ws n) :: pre, p.1 ≠ kS := List.forall_mem_cons.mpr ⟨hyk, hp⟩
    refine KatBack.intro (g := fun o' => ((y, lobj ws n) :: pre) ++ (kS, o') :: tl) F' N' (updF_mid (pre := (y, lobj ws n) :: pre) hp' htl) fun h2 c F2 N2 => ?_
    refine keys_run KO htl r rs' (ds ++ [x]) (ks ++ [.ref y]) c ((y, lobj ws n) :: pre) h2 tk' hr' (fun z hz => hss z (.tail _ hz)) (keyAt_snoc hk hw) hp' F2 N2 fun ks' e' pre' h3 tk3 hk3 hp3 F3 N3 => ?_
    exact fin ks' e' pre' h3 tk3 (by simpa using hk3) hp3 F3 N3
theorem strs_pick {vs : List Value} {ss : List Str} (h : StrsAre vs ss) (l : List Nat) (hl : ∀ i ∈ l, i < ss.length) : StrsAre (l.map fun i => vs.getD i Value.none) (l.map fun i => ss.getD i (Str.ofString "")) := by
  induction l with
  | nil => exact .nil
  | cons i l ih =>
    have hi := hl i (.head _)
    have hi' : i < vs.length := by rw [h.len_eq]; exact hi
    obtain ⟨x, t, e1, e2⟩ := h.item i vs[i] (by simp)
    have e3 : vs.getD i Value.none = .str x t := by rw [List.getD_eq_getElem?_getD, List.getElem?_eq_getElem hi', Option.getD_some, e1]
    have e4 : ss.getD i (Str.ofString "") = x := by rw [List.getD_eq_getElem?_getD, e2, Option.getD_some]
    show StrsAre (vs.getD i Value.none :: _) (ss.getD i (Str.ofString "") :: _)
    rw [e3, e4]
    exact .cons x t (ih fun j hj => hl j (.tail _ hj))
theorem map_range_getD (ss : List Str) : (List.range ss.length).map (fun i => ss.getD i (Str.ofString "")) = ss := by
  apply List.ext_getElem?
  intro i
  by_cases h : i < ss.length
  · simp [h]
  · simp [Nat.le_of_not_lt h]
def ltG (g : Str → List Str) (ss : List Str) (i j : Nat) : Bool := ltS (g (ss.getD i (Str.ofString ""))) (g (ss.getD j (Str.ofString "")))
theorem sorted_perm {g : Str → List Str} {ss : List Str} {p : Array Nat} (hp : PR ss.length p) (hu : Up (ltG g ss) p ss.length) :
    (p.toList.map fun i => ss.getD i (Str.ofString "")).Perm ss ∧ (p.toList.map fun i => ss.getD i (Str.ofString "")).Pairwise (fun a b => ltS (g a) (g b) = true) := by
  constructor
  · have h1 := (Array.perm_iff_toList_perm.mp hp).map fun i => ss.getD i (Str.ofString "")
    rwa [show (List.range ss.length).toArray.toList = List.range ss.length from rfl, map_range_getD] at h1
  · rw [List.pairwise_map, List.pairwise_iff_getElem]
    intro i j hi hj hij
    rw [Array.length_toList, hp.size] at hi hj
    have := hu i j hij hj
    simp only [gd, Array.getD, hp.size, hi, hj, dif_pos] at this
    simpa [ltG] using this
theorem sorted_many {l : Addr} {vs : List Value} {n : Nat} {ss : List Str} {f : Addr} {g : Str → List Str} {Q : Value → Shared → Prop} (F : Fr h₀ L s.heap m) (N : News h₀ L s.heap news) (hl : (l, lobj vs n) ∈ news) (hss : StrsAre vs ss) (h2 : 2 ≤ ss.length) (h64 : ss.length < 64) (hu : A.in1.in1.units < cLine)
    (KO : KeyOk prog w A.in1.in1 h₀ L m (.ref f) g ss) (O : LtOk ss.length (ltG g ss))
    (hret : ∀ D us c ts h' tk', StrsAre us ts → ts.Perm ss → ts.Pairwise (fun a b => ltS (g a) (g b) = true) → Fr h₀ L h' m → News h₀ L h' ((D, lobj us c) :: news) → (∀ p ∈ news, p.1 < D) → Q (.ref D) { s with heap := h', toks := tk' }) :
    wpAny (model prog w) A (call (.builtin "sorted") [.ref l] [(Str.ofString "key", .ref f)]) Q E s := by
  have lv := hss.len_eq
  refine kat_sortedK (b := false) (f := .ref f) F N (isList_mem N hl) (by omega) (by omega) (ksk_s1 _ _) (fun x => ksk_l1 _ _) (fun x => ksk_t1 _ _) fun D kS e1 h' F' N' lDk lD => ?_
  have htl : ∀ p ∈ (D, lobj [] e1) :: news, p.1 ≠ kS := List.forall_mem_cons.mpr ⟨Nat.ne_of_lt lDk, fun p hp => Nat.ne_of_lt (Nat.lt_trans (lD p hp) lDk)⟩
  refine keys_run (tl := (D, lobj [] e1) :: news) KO htl vs ss [] [] 0 [] h' s.toks hss (fun x hx => hx) ⟨rfl, fun i x hx => by simp at hx⟩ (fun p hp => by cases hp) F' N' fun ks e pre h3 tk3 hk hpre F3 N3 => ?_
  rw [List.nil_append] at hk
  have at' : ∀ i, i < ss.length → ∃ a ws k, ks.getD i Value.none = .ref a ∧ h3.get? a = some (lobj ws k) ∧ StrsAre ws (g (ss.getD i (Str.ofString ""))) := fun i hi => by
    obtain ⟨a, ws, k, q1, q2, q3⟩ := hk.2 i ss[i] (by simp [hi])
    exact ⟨a, ws, k, by rw [List.getD_eq_getElem?_getD, q1]; rfl, N3.get (List.mem_append_left _ q2), by rw [List.getD_eq_getElem?_getD, List.getElem?_eq_getElem hi]; exact q3⟩
  refine kas_kind (T := .type "list") (by rw [hk.1]; exact h2) (fun v hv => ?_) (by decide) (by decide) ?_
  · obtain ⟨i, hi, e2⟩ := List.mem_iff_getElem.mp hv
    obtain ⟨a, ws, k, q1, q2, q3⟩ := at' i (by rw [← hk.1]; exact hi)
    rw [List.getD_eq_getElem?_getD, List.getElem?_eq_getElem hi, Option.getD_some, e2] at q1
    subst q1
    exact fun A Q E s' k' hq => wpAny_typeOf ⟨_, (by first | exact k' _ _ q2 | exact k' ▸ q2), rfl⟩ hq
  · rw [lv]
    refine wpP_kas (n := ss.length) (lt := ltG g ss) (fun i j C hi hj hC => ?_) _ (sort_ok O h2) fun p ⟨hp, hup⟩ => ?_
    · obtain ⟨a, ws, k, q1, q2, q3⟩ := at' i hi
      obtain ⟨a', ws', k', q1', q2', q3'⟩ := at' j hj
      show wpAny _ _ (keyLt' _ (ks.getD i Value.none) (ks.getD j Value.none)) _ _ _
      rw [q1, q1']
      exact keyLt_lists hu q2 q2' q3 q3' hC
    · refine KatFin.intro (g := fun o' => pre ++ (kS, o') :: (D, lobj [] e1) :: news) F3 N3 (updF_mid hpre htl) fun h4 c4 F4 N4 => ?_
      have N4' := news_sub N4 (ns := (D, lobj [] e1) :: news) fun p hp => List.mem_append_right _ (.tail _ hp)
      refine KasFin.intro (g := fun o' => [] ++ (D, o') :: news) F4 N4' (updF_mid (pre := []) (fun p hp => by cases hp) fun p hp => Nat.ne_of_lt (lD p hp)) fun h5 c5 F5 N5 => ?_
      obtain ⟨r1, r2⟩ := sorted_perm hp hup
      exact hret D _ c5 _ h5 tk3 (strs_pick hss _ fun i hi => by have := ((Array.perm_iff_toList_perm.mp hp).mem_iff).mp hi; simpa using this) r1 r2 F5 N5 lD
end
section
variable {prog : Program} {w : World} {A : Around} {E : Value → Shared → Prop} {s : Shared} {h₀ : Heap} {L : Addr} {m : Str → Option Value} {news : List (Addr × Obj)}
theorem sort_one {a f : Addr} {x : Str} {t : Tok} {n : Nat} {g : Str → List Str} {ss : List Str} {P : Fin → Shared → Prop} (F : Fr h₀ L s.heap m) (N : News h₀ L s.heap news) (ho : s.heap.get? a = some (lobj [.str x t] n)) (haL : a ≠ L) (ha0 : h₀.get? a = none) (hna : ∀ p ∈ news, p.1 ≠ a)
    (KO : KeyOk prog w A h₀ L m (.ref f) g ss) (hx : x ∈ ss) (h : ∀ h' c tk', Fr h₀ L h' m → News h₀ L h' ((a, lobj [.str x t] c) :: news) → P (.done (.ret .none)) { s with heap := h', toks := tk' }) :
    wpAny (model prog w) A (ksk_tree a (.ref f) false) P (fun _ _ => False) s := by
  have ha : a < s.heap.objs.size := Heap.lt_size ho
  have one : ([.str x t] : List Value).toArray.size = 1 := rfl
  have upd := fun (h' : Heap) => Heap.SameBut.update h' a (Obj.mapSeq fun _ => (#[] : Array Value))
  obtain ⟨e1, ho1⟩ : ∃ e1, (s.heap.update a (Obj.mapSeq fun _ => (#[] : Array Value))).get? a = some (seqObj "list" #[] e1) := ⟨_, get?_update_seq ho fun _ => #[]⟩
  unfold ksk_tree
  refine wpAny_bind (listItems_at ho rfl ?_)
  refine wpAny_bind (listUpdate_at ho rfl ?_ (by rw [sizeLine_eq, one]; omega) (Nat.zero_le _))
  refine wpAny_bind (seqEpoch_at ho1 rfl ?_)
  have F1 := kas_fr F (upd s.heap) haL ha0
  have N1 := kas_news N (upd s.heap) hna
  generalize s.heap.update a (Obj.mapSeq fun _ => (#[] : Array Value)) = h1 at ho1 F1 N1
  refine wpAny_bind (wpAny_newTuple ?_ (by rw [sizeLine_eq]; show 1 ≤ _; omega))
  refine wpAny_bind (wpAny_newList ?_ (Nat.zero_le _))
  refine wpAny_holding ?_
  have N0 : News h₀ L h1 ((a, lobj [] e1) :: news) := List.forall_mem_cons.mpr ⟨⟨ho1, haL, ha0⟩, N1⟩
  have F2 := (F1.push (seqObj "tuple" ([.str x t] : List Value).toArray 0))
  have N2 := (N0.grown (h' := h1.push (seqObj "tuple" ([.str x t] : List Value).toArray 0)) fun b o e => Heap.get?_push_of_some _ e)
  have N3 := News.push F2 N2 (lobj [] 0)
  have F3 := F2.push (lobj [] 0)
  have hk : ((h1.push (seqObj "tuple" ([.str x t] : List Value).toArray 0)).push (lobj [] 0)).get? (h1.push (seqObj "tuple" ([.str x t] : List Value).toArray 0)).objs.size = some (lobj [] 0) := Heap.get?_push_size _ rfl
  have lkS : ∀ p ∈ (a, lobj [] e1) :: news, p.1 < (h1.push (seqObj "tuple" ([.str x t] : List Value).toArray 0)).objs.size := fun p hp => Heap.lt_size (N2 p hp).1
  revert N3 F3 hk lkS
  show News h₀ L (Heap.push _ (lobj [] 0)) _ → Fr h₀ L (Heap.push _ (lobj [] 0)) _ → _ → _ → wpAny _ _ (ksk_rest a (.ref f) false _ e1 (.ref (h1.push (seqObj "tuple" ([.str x t] : List Value).toArray 0)).objs.size)) _ _ { s with heap := Heap.push _ (lobj [] 0) }
  generalize (h1.push (seqObj "tuple" ([.str x t] : List Value).toArray 0) : Heap).objs.size = kS
  generalize (h1.push (seqObj "tuple" ([.str x t] : List Value).toArray 0) : Heap).push (lobj [] 0) = h2
  intro N3 F3 hk lkS
  unfold ksk_rest
  refine wpAny_bind (wpAny_rule ?_)
  rw [← Array.forIn_toList]
  show wpAny _ _ (forIn [Value.str x t] _ _ >>= _) _ _ _
  rw [List.forIn_cons]
  refine wpAny_bind (wpAny_bind (wpAny_bind (wpAny_attempt (wpAny_mono (KO x t _ { s with heap := h2 } (fun v s' => ∃ y ws k h4 tk4, v = .ref y ∧ s' = { s with heap := h4, toks := tk4 } ∧ Fr h₀ L h4 m ∧ News h₀ L h4 ((y, lobj ws k) :: (kS, lobj [] 0) :: (a, lobj [] e1) :: news) ∧ ∀ p ∈ (kS, lobj [] 0) :: (a, lobj [] e1) :: news, p.1 < y) hx F3 N3
    fun y ws k h4 tk4 hw F4 N4 ly => ⟨y, ws, k, h4, tk4, rfl, rfl, F4, N4, ly⟩) (fun v s' hv => ?_) fun _ _ z => z.elim))))
  obtain ⟨y, ws, k, h4, tk4, rfl, rfl, F4, N4, ly⟩ := hv
  have hyk : y ≠ kS := Nat.ne_of_gt (ly _ (.head _))
  have nk := N4 (kS, lobj [] 0) (.tail _ (.head _))
  have lk2 : ∀ p ∈ (a, lobj [] e1) :: news, p.1 ≠ kS := fun p hp => Nat.ne_of_lt (lkS p hp)
  have s4 := Heap.SameBut.update h4 kS (Obj.mapSeq (·.push (Value.ref y)))
  obtain ⟨c2, hc2⟩ : ∃ c2, (h4.update kS (Obj.mapSeq (·.push (Value.ref y)))).get? kS = some (seqObj "list" (([] : List Value).toArray.push (Value.ref y)) c2) := ⟨_, get?_update_seq nk.1 (·.push (Value.ref y))⟩
  dsimp only
  refine wpAny_bind (listUpdate_at nk.1 rfl ?_ (by rw [sizeLine_eq]; show 0 ≤ _; omega) (by rw [sizeLine_eq]; show 1 ≤ _; omega))
  refine wpAny_pure ?_
  dsimp only
  rw [List.forIn_nil]
  refine wpAny_pure ?_
  refine wpAny_bind (listItems_at hc2 rfl ?_)
  have F5 := kas_fr F4 s4 nk.2.1 nk.2.2
  have N5 : News h₀ L (h4.update kS (Obj.mapSeq (·.push (Value.ref y)))) ((kS, lobj [.ref y] c2) :: (a, lobj [] e1) :: news) := List.forall_mem_cons.mpr ⟨⟨hc2, nk.2⟩, kas_news (news_sub N4 fun p hp => .tail _ (.tail _ hp)) s4 lk2⟩
  unfold ksk_end
  dsimp only
  refine if_not rfl ?_
  have e0 : ([.str x t] : List Value).toArray.size < 2 := by rw [one]; omega
  rw [if_pos e0, if_pos e0]
  refine wpAny_bind (wpAny_pure (wpAny_bind ?_))
  rw [StateT.run_pure]
  refine wpAny_pure ?_
  dsimp only
  refine kat_tail (h₀ := h₀) (L := L) (m := m) (b := false) (ks := [.ref y]) (e := c2) (out := [.str x t]) (by rw [if_neg Bool.false_ne_true]; show Array.map (·.2) ((((([] : List Value).toArray).push (Value.ref y)).zip ([Value.str x t] : List Value).toArray : Array Keyed)) = ([.str x t] : List Value).toArray; simp) (by show 1 < 64; decide) (by show 1 < 64; decide) rfl ?_
  refine KatFin.intro (g := fun o' => [] ++ (kS, o') :: (a, lobj [] e1) :: news) F5 N5 (updF_mid (pre := []) (fun p hp => by cases hp) lk2) fun h6 c6 F6 N6 => ?_
  refine KasFin.intro (g := fun o' => [] ++ (a, o') :: news) F6 (news_sub N6 fun p hp => .tail _ hp) (updF_mid (pre := []) (fun p hp => by cases hp) hna) fun h7 c7 F7 N7 => ?_
  exact h h7 c7 tk4 F7 N7
theorem sorted_one {l : Addr} {vs : List Value} {n : Nat} {ss : List Str} {f : Addr} {g : Str → List Str} {Q : Value → Shared → Prop} (F : Fr h₀ L s.heap m) (N : News h₀ L s.heap news) (hl : (l, lobj vs n) ∈ news) (hss : StrsAre vs ss) (h1 : ss.length = 1)
    (KO : KeyOk prog w A.in1.in1 h₀ L m (.ref f) g ss)
    (hret : ∀ D us c ts h' tk', StrsAre us ts → ts.Perm ss → ts.Pairwise (fun a b => ltS (g a) (g b) = true) → Fr h₀ L h' m → News h₀ L h' ((D, lobj us c) :: news) → (∀ p ∈ news, p.1 < D) → Q (.ref D) { s with heap := h', toks := tk' }) :
    wpAny (model prog w) A (call (.builtin "sorted") [.ref l] [(Str.ofString "key", .ref f)]) Q E s := by
  obtain ⟨x, rfl⟩ : ∃ x, ss = [x] := by
    match ss, h1 with
    | [x], _ => exact ⟨x, rfl⟩
  obtain ⟨t, rfl⟩ : ∃ t, vs = [.str x t] := by
    cases hss with
    | cons x t h => cases h; exact ⟨t, rfl⟩
  have hl' := isList_mem N hl
  refine call_function_entry_kw kind_sorted plain_sorted entry_sorted (ksk_s1 _ _) ?_
  unfold Builtin.«sorted»
  refine wpAny_bind (m := checkCount "sorted" 1 1 _) (wpAny_pure ?_)
  refine wpAny_bind (collect_list hl' ?_ (by rw [sizeLine_eq]; show 1 ≤ _; omega))
  refine wpAny_bind (wpAny_newList ?_ (by rw [sizeLine_eq]; show 1 ≤ _; omega))
  have up1 : ∀ b o, s.heap.get? b = some o → ((s.heap.push (seqObj "list" #[] 0)).update s.heap.objs.size (Obj.mapSeq (· ++ ([.str x t] : List Value).toArray))).get? b = some o := fun b o q => by
    have hlt : b < s.heap.objs.size := Heap.lt_size q
    rw [Heap.get?_update_ne _ _ _ _ (Nat.ne_of_lt hlt)]; exact Heap.get?_push_of_some _ q
  have F1 := F.kept up1
  have N1 := N.grown up1
  have N2 := News.push F1 N1 (lobj [.str x t] 0)
  have F2 := F1.push (lobj [.str x t] 0)
  have hD : ((((s.heap.push (seqObj "list" #[] 0)).update s.heap.objs.size (Obj.mapSeq (· ++ ([.str x t] : List Value).toArray)))).push (lobj [.str x t] 0)).get? _ = some (lobj [.str x t] 0) := Heap.get?_push_size _ rfl
  have lD : ∀ p ∈ news, p.1 < ((s.heap.push (seqObj "list" #[] 0)).update s.heap.objs.size (Obj.mapSeq (· ++ ([.str x t] : List Value).toArray))).objs.size := fun p hp => Heap.lt_size (N1 p hp).1
  revert N2 F2 hD lD
  show News h₀ L (Heap.push _ (lobj [.str x t] 0)) _ → Fr h₀ L (Heap.push _ (lobj [.str x t] 0)) _ → _ → _ → wpAny _ _ _ _ _ { s with heap := Heap.push _ (lobj [.str x t] 0) }
  generalize ((s.heap.push (seqObj "list" #[] 0)).update s.heap.objs.size (Obj.mapSeq (· ++ ([.str x t] : List Value).toArray)) : Heap).objs.size = D
  generalize ((s.heap.push (seqObj "list" #[] 0)).update s.heap.objs.size (Obj.mapSeq (· ++ ([.str x t] : List Value).toArray)) : Heap).push (lobj [.str x t] 0) = h2
  intro N2 F2 hD lD
  have nD := N2 _ (.head _)
  refine wpAny_bind (wpAny_holding (wpAny_call_entry_kw slot_list_sort ⟨_, hD, rfl⟩ entry_list_sort ?_ (ksk_l1 _ _)))
  rw [ksk_t1]
  refine wpAny_mono (sort_one (s := { s with heap := h2 }) F2 (news_tail N2) hD nD.2.1 nD.2.2 (fun p hp => Nat.ne_of_lt (lD p hp)) KO (.head _) (P := fun fin s' => fin = .done (.ret .none) ∧ Q (.ref D) s') fun h' c tk' F' N' => ?_) (fun fin s' hf => ?_) fun _ _ e => e.elim
  · exact ⟨rfl, hret D [.str x t] c [x] h' tk' (.cons x t .nil) (List.Perm.refl _) (List.pairwise_singleton _ _) F' N' lD⟩
  · exact ⟨_, hf.1, wpAny_pure ⟨_, rfl, hf.2⟩⟩
end
end
section
local macro_rules | `(tactic| walk_at "zz") => `(tactic| fail)
theorem forget1_25 {prog : Program} {w : World} {A : Around} {Q : Bool → Shared → Prop} {E : Value → Shared → Prop} {s : Shared} (h : wpAny (model prog w) A (truthy (.bool true)) Q E s) : wpAny (model prog w) A (truthy (.bool true)) Q E s := by
  w_top off
  first | (walk1; fail) | exact h
local macro_rules | `(tactic| walk_at "zz") => `(tactic| fail)
theorem forget2_25 {prog : Program} {w : World} {A : Around} {Q : Bool → Shared → Prop} {E : Value → Shared → Prop} {s : Shared} (h : wpAny (model prog w) A (truthy (.bool true)) Q E s) : wpAny (model prog w) A (truthy (.bool true)) Q E s := by
  first | (walk1; fail) | exact h
end
noncomputable section
section
variable {prog : Program} {w : World} {A : Around} {E : Value → Shared → Prop} {s : Shared} {h₀ : Heap} {L : Addr} {m : Str → Option Value} {env : Env} {elt : Expr} {x : Str} {scope : Scope} {cl : List (Str × Addr)} {S : List (Addr × Obj) → Prop} {Fin : List Value → List (Addr × Obj) → Prop} {news : List (Addr × Obj)}
theorem restR {a : Int} {n : Nat} (g : Nat → Str)
    (turn : ∀ (i : Nat) t I oI C oC D m₂ ys h tk (E' : Value → Shared → Prop), i < n → LCg.NsObj oC m₂ → m₂ x = some (.int (a + (i : Int)) t) → Fr h₀ L h m → News h₀ L h ((I, oI) :: (C, oC) :: (D, LCg.lst ys) :: news) → LCg.Off3 I C D news → ((@Ne Nat I C) ∧ (@Ne Nat I D) ∧ (@Ne Nat C D)) →
      wpAny (model prog w) A (eval elt (compEnvC scope cl C env)) (LCg.CompEnd h₀ L m { s with heap := h, toks := tk } I oI C oC D (LCg.lst ys) S (fun v nw => nw = news ∧ ∃ t', v = .str (g i) t')) E' { s with heap := h, toks := tk })
    (fin : ∀ ys, StrsAre ys ((List.range n).map g) → Fin ys news) : LCg.CompRest prog w A h₀ L m env elt x scope cl s S (fun i v => ∃ t, v = .int (a + (i : Int)) t) Fin n 0 [] news := by
  have key : ∀ (j i : Nat) (ys : List Value), i + j = n → StrsAre ys ((List.range i).map g) → LCg.CompRest prog w A h₀ L m env elt x scope cl s S (fun i v => ∃ t, v = .int (a + (i : Int)) t) Fin j i ys news := by
    intro j
    induction j with
    | zero =>
      intro i ys he hy
      have : i = n := by omega
      subst this
      exact LCg.CompRest.zero (fin ys hy)
    | succ j ih =>
      intro i ys he hy
      refine LCg.CompRest.succ ?_
      intro v I oI C oC D m₂ h tk E' hv hC hx F N off ne
      obtain ⟨t, hv'⟩ := hv
      rw [hv'] at hx
      refine wpAny_mono (turn i t I oI C oC D m₂ ys h tk E' (by omega) hC hx F N off ne) (fun z s₂ hq => ?_) fun _ _ e => e
      obtain ⟨h', tk', nw, e, F', N', off', hS, hnw, t', hz⟩ := hq
      rw [hnw] at N' off' hS
      refine ⟨h', tk', news, e, F', N', off', hS, ?_⟩
      rw [hz]
      refine ih (i + 1) _ (by omega) ?_
      rw [List.range_succ, List.map_append]
      exact hy.append' (.cons _ _ .nil)
  exact key n 0 [] (by omega) (by simpa using .nil)
end
theorem item_menu {prog : Program} {w : World} {A : Around} {E : Value → Shared → Prop} {s : Shared} {value slice : Expr} {a : Addr} {l : List Value} {ys : List Str} {k : Int} {u : Tok} {Q : Value → Shared → Prop} (hl : s.heap.IsList a l.toArray) (hi : StrsAre l ys) (h0 : 0 ≤ k) (hk : k < ys.length) (hfit : k < 2 ^ 63)
    (h : ∀ t', Q (.str (ys.getD k.toNat (Str.ofString "")) t') s) (hs : subscripted slice false (.ref a) (.int k u) = operate [.ref a, .int k u] (getItem (.ref a) (.int k u)) := by with_unfolding_all rfl) :
    wpAny (model prog w) A (subscriptTail value slice (.ref a) (.int k u)) Q E s := by
  have hlt : k.toNat < ys.length := by omega
  have e : ys[k.toNat]? = some (ys.getD k.toNat (Str.ofString "")) := by simp [List.getD, hlt]
  obtain ⟨t, ht⟩ := hi.at e
  exact tail_any hl.typeIs slot_list_getitem.lookup (wpAny_getItem_list hl h0 hfit (by simpa using ht) (h t)) hs
def menuS : List Str := [Str.ofString "a", Str.ofString "ba", Str.ofString "a", Str.ofString "7"]
def labS (x : Int) (d : Nat) : Str := menuS.getD (x / 4 ^ (d + 1) % 4).toNat (Str.ofString "")
def joinS (x : Int) : Str := Txt.join (Str.ofString ".") ((List.range (1 + x % 4).toNat).map (labS x))
def nameS (x : Int) : Str := if x / 1024 % 2 = 1 then Txt.upper (joinS x) else joinS x
theorem labS_len (x : Int) (d : Nat) : (labS x d).length ≤ 2 := by
  unfold labS
  generalize (x / 4 ^ (d + 1) % 4).toNat = k
  match k with
  | 0 => decide
  | 1 => decide
  | 2 => decide
  | 3 => decide
  | k + 4 => show (Str.ofString "").length ≤ 2; decide
theorem sum_le2 {α : Type} (f : α → Nat) (h : ∀ a, f a ≤ 2) : ∀ l : List α, (l.map f).sum ≤ 2 * l.length
  | [] => Nat.le_refl _
  | a :: l => by have := sum_le2 f h l; have := h a; simp only [List.map_cons, List.sum_cons, List.length_cons]; omega
theorem joinS_sum (x : Int) : (((List.range (1 + x % 4).toNat).map (labS x)).map (·.length)).sum ≤ 8 := by
  rw [List.map_map]
  show (List.map (Str.length ∘ labS x) _).sum ≤ 8
  have := sum_le2 (Str.length ∘ labS x) (labS_len x) (List.range (1 + x % 4).toNat)
  rw [List.length_range] at this
  omega
theorem joinS_fits (x : Int) : (((List.range (1 + x % 4).toNat).map (labS x)).map (·.length)).sum + ((List.range (1 + x % 4).toNat).map (labS x)).length * (Str.ofString ".").length ≤ 16777216 := by
  have := joinS_sum x
  rw [show (Str.ofString ".").length = 1 by decide, List.length_map, List.length_range]
  omega
theorem joinS_len (x : Int) : (joinS x).length ≤ 100 := by
  unfold joinS Txt.join
  rw [StrLaws.glued_eq_join]
  have h1 := StrLaws.join_length_le (Str.ofString ".") ((List.range (1 + x % 4).toNat).map (labS x))
  have h2 := joinS_sum x
  rw [show (Str.ofString ".").length = 1 by decide, List.length_map, List.length_range] at h1
  omega
theorem joinS_len12 (x : Int) : (joinS x).length ≤ 12 := by
  unfold joinS Txt.join
  rw [StrLaws.glued_eq_join]
  have h1 := StrLaws.join_length_le (Str.ofString ".") ((List.range (1 + x % 4).toNat).map (labS x))
  have h2 := joinS_sum x
  rw [show (Str.ofString ".").length = 1 by decide, List.length_map, List.length_range] at h1
  omega
local macro_rules | `(tactic| walk_at "exec Assign cons ListComp") => `(tactic| (refine stopHere ?_))
local macro_rules | `(tactic| walk_at "CompSrc") => `(tactic| (refine stopHere ?_))
local macro_rules | `(tactic| walk_at "binaryOp Pow") => `(tactic| (refine stopHere ?_))
local macro_rules | `(tactic| walk_at "subscriptTail") => `(tactic| (refine stopHere ?_))
local macro_rules | `(tactic| walk_at "call builtin:str.join") => `(tactic| (refine stopHere ?_))
local macro_rules | `(tactic| walk_at "Stop") => `(tactic| (fail "stop"))
theorem name_call {w : World} (news) (x : Int) (t : Tok) (hx : 0 ≤ x) (hx2 : x < 2048) : Cl 1 w 160 news [.int x t] (fun t => .str (nameS x) t) := by
  walk_at "m.intro"
  refine' code_defC (binds := [(Str.ofString "x", .int x t)]) ?k1 ?k2 ?k3 ?k4 ?k5 ?kA ?kF ?kK ?k6 ?k7 ?k8 ?k9 ?kB ?kD ?_ ?c2 ?c3 ?c4
  walk_at "m.enterC"
  rename_i oc0 dc0
  change Fr g' L' h' (fun y => none) at F'
  change oc0.data = .cell (some (.int x t)) at dc0
  k_steps
  unfold Stop
  refine LCg.Assign_ListComp_U (F₀ := F') (by rfl) (by with_unfolding_all rfl) (by with_unfolding_all rfl) (by decide) (by rfl) (by decide) (by rfl) (by rfl) (by rfl) ?_
  k_steps
  unfold Stop
  rename_i h1 tk1 t1 u1 v1 R1 F1 N1 k1
  have hf : x.fmod 4 = x % 4 := Int.fmod_eq_emod_of_nonneg x (by decide)
  rw [hf] at R1
  refine LCg.CompSrc.range (n := (1 + x % 4).toNat) (by rfl) F1 N1 R1 (small_one (by omega) (by omega) (by omega) (by omega)) (by rw [show (1 + x % 4 : Int) = (((1 + x % 4).toNat : Nat) : Int) by omega]; exact rangeSize_nat _ _) (by rw [PySem.sizeLine_eq]; omega) ?_
  intro g1
  refine restR (labS x) ?_ ?_
  · intro i ti I oI C oC D m₂ ys h tk E' hi hC hm F N off ne
    clear F1 N1 R1 k1
    rcases (by omega : i = 0 ∨ i = 1 ∨ i = 2 ∨ i = 3) with rfl | rfl | rfl | rfl
    · replace hm : m₂ (Str.ofString "d") = some (.int 0 ti) := hm
      k_steps
      rename_i a5 h5 F5 N5 l5
      unfold Stop
      have hq : ((x.fdiv (4 ^ (0 + 1 : Int).toNat)).fmod 4) = x / 4 ^ (0 + 1) % 4 := by
        rw [Int.fdiv_eq_ediv_of_nonneg x (by decide), Int.fmod_eq_emod_of_nonneg _ (by decide)]; rfl
      rw [hq]
      refine item_menu (ys := menuS) (isList_mem (vs := [_, _, _, _]) N5 (.head _)) (.cons _ _ (.cons _ _ (.cons _ _ (.cons _ _ .nil)))) (by omega) (by show _ < (4 : Int); omega) (by omega) ?_
      intro t'
      exact LCg.CompEnd.intro F5 N5 _ (fun p hp => .tail _ hp) off trivial ⟨rfl, t', rfl⟩
    · replace hm : m₂ (Str.ofString "d") = some (.int 1 ti) := hm
      k_steps
      rename_i a5 h5 F5 N5 l5
      unfold Stop
      have hq : ((x.fdiv (4 ^ (1 + 1 : Int).toNat)).fmod 4) = x / 4 ^ (1 + 1) % 4 := by
        rw [Int.fdiv_eq_ediv_of_nonneg x (by decide), Int.fmod_eq_emod_of_nonneg _ (by decide)]; rfl
      rw [hq]
      refine item_menu (ys := menuS) (isList_mem (vs := [_, _, _, _]) N5 (.head _)) (.cons _ _ (.cons _ _ (.cons _ _ (.cons _ _ .nil)))) (by omega) (by show _ < (4 : Int); omega) (by omega) ?_
      intro t'
      exact LCg.CompEnd.intro F5 N5 _ (fun p hp => .tail _ hp) off trivial ⟨rfl, t', rfl⟩
    · replace hm : m₂ (Str.ofString "d") = some (.int 2 ti) := hm
      k_steps
      rename_i a5 h5 F5 N5 l5
      unfold Stop
      have hq : ((x.fdiv (4 ^ (2 + 1 : Int).toNat)).fmod 4) = x / 4 ^ (2 + 1) % 4 := by
        rw [Int.fdiv_eq_ediv_of_nonneg x (by decide), Int.fmod_eq_emod_of_nonneg _ (by decide)]; rfl
      rw [hq]
      refine item_menu (ys := menuS) (isList_mem (vs := [_, _, _, _]) N5 (.head _)) (.cons _ _ (.cons _ _ (.cons _ _ (.cons _ _ .nil)))) (by omega) (by show _ < (4 : Int); omega) (by omega) ?_
      intro t'
      exact LCg.CompEnd.intro F5 N5 _ (fun p hp => .tail _ hp) off trivial ⟨rfl, t', rfl⟩
    · replace hm : m₂ (Str.ofString "d") = some (.int 3 ti) := hm
      k_steps
      rename_i a5 h5 F5 N5 l5
      unfold Stop
      have hq : ((x.fdiv (4 ^ (3 + 1 : Int).toNat)).fmod 4) = x / 4 ^ (3 + 1) % 4 := by
        rw [Int.fdiv_eq_ediv_of_nonneg x (by decide), Int.fmod_eq_emod_of_nonneg _ (by decide)]; rfl
      rw [hq]
      refine item_menu (ys := menuS) (isList_mem (vs := [_, _, _, _]) N5 (.head _)) (.cons _ _ (.cons _ _ (.cons _ _ (.cons _ _ .nil)))) (by omega) (by show _ < (4 : Int); omega) (by omega) ?_
      intro t'
      exact LCg.CompEnd.intro F5 N5 _ (fun p hp => .tail _ hp) off trivial ⟨rfl, t', rfl⟩
  · intro ys hys
    clear F1 N1 R1 k1
    unfold LCg.FinA
    intro D h7 tk7 F7 N7 off7
    (try dsimp only)
    k_steps
    unfold Stop
    refine join_list (isList_mem (vs := ys) (n := ys.length) N7 (.head _)) (ys := (List.range (1 + x % 4).toNat).map (labS x)) hys (joinS_fits x) ?_
    intro t9 k9
    have hj := joinS_len x
    have ej : Txt.join (Str.ofString ".") ((List.range (1 + x % 4).toNat).map (labS x)) = joinS x := rfl
    rw [ej]
    have en : nameS x = if x / 1024 % 2 = 1 then Txt.upper (joinS x) else joinS x := rfl
    rw [en] at hret
    clear ej en
    revert hret hj
    generalize joinS x = j
    intro hret hj
    k_steps
    · exact cb_retS hret (by clear hret; (rename (_ : Int) = 1 => e9); rw [Int.fdiv_eq_ediv_of_nonneg x (by decide), Int.fmod_eq_emod_of_nonneg _ (by decide)] at e9; rw [if_pos e9]) (by k_asm) (news_tail (news_tail (by k_asm)))
    · exact cb_retS hret (by clear hret; (rename ¬ ((_ : Int) = 1) => e9); rw [Int.fdiv_eq_ediv_of_nonneg x (by decide), Int.fmod_eq_emod_of_nonneg _ (by decide)] at e9; rw [if_neg e9]) (by k_asm) (news_tail (news_tail (by k_asm)))
end
section
local macro_rules | `(tactic| walk_at "zz") => `(tactic| fail)
theorem forget1_26 {prog : Program} {w : World} {A : Around} {Q : Bool → Shared → Prop} {E : Value → Shared → Prop} {s : Shared} (h : wpAny (model prog w) A (truthy (.bool true)) Q E s) : wpAny (model prog w) A (truthy (.bool true)) Q E s := by
  w_top off
  first | (walk1; fail) | exact h
local macro_rules | `(tactic| walk_at "zz") => `(tactic| fail)
theorem forget2_26 {prog : Program} {w : World} {A : Around} {Q : Bool → Shared → Prop} {E : Value → Shared → Prop} {s : Shared} (h : wpAny (model prog w) A (truthy (.bool true)) Q E s) : wpAny (model prog w) A (truthy (.bool true)) Q E s := by
  first | (walk1; fail) | exact h
end
noncomputable section
open Bi Builtin
theorem nw_kind : builtinKind "list.__new__" = some .builtinFn := by decide +kernel
theorem nw_split : splitId "list.__new__" = some ("list", "__new__") := by decide +kernel
section
variable {prog : Program} {w : World} {A : Around} {E : Value → Shared → Prop} {R : Result → Shared → Prop} {h : Heap} {g : Array GenState} {d : Drawn} {t : Nat} {os : OsState}
theorem cls_at {w : World} {h : Heap} (X : (hd.heap_39 w.params).In h) : ∃ cd sl, h.get? 151 = some ⟨.type "type", none, .cls cd, sl⟩ ∧ clsIn (hd.heap_39 w.params) 151 = some cd ∧ cd.mro = [.ref 151, .type "list", .type "object"] ∧ cd.abstract = false ∧ cd.hasDel = false ∧ sl[4]? = some (some (.builtin "list.__new__")) := by
  have e : (match (hd.heap_39 w.params).lookup 151 with | some ⟨oc, od, .cls cd, sl⟩ => oc == .type "type" && od == none && cd.mro == [.ref 151, .type "list", .type "object"] && !cd.abstract && !cd.hasDel && sl[4]? == some (some (.builtin "list.__new__")) | _ => false) = true := by kernel_rfl
  split at e
  · rename_i oc od cd sl ho
    simp only [Bool.and_eq_true, Bool.not_eq_true', beq_iff_eq] at e
    obtain ⟨⟨⟨⟨⟨rfl, rfl⟩, e3⟩, e4⟩, e5⟩, e6⟩ := e
    exact ⟨cd, sl, X _ _ ho, by unfold clsIn; rw [ho], e3, e4, e5, e6⟩
  · cases e
theorem mro_at {M : Model} {w : World} {h : Heap} (X : (hd.heap_39 w.params).In h) : Looks M h (mroOf (.ref 151)) [.ref 151, .type "list", .type "object"] := by
  obtain ⟨cd, sl, h1, h2, h3, _⟩ := cls_at X
  rw [← h3]; exact (looks_clsIn X h2).andThen .now
theorem made_at {M : Model} {w : World} {h : Heap} (X : (hd.heap_39 w.params).In h) : Looks M h (Bind.madeBy (.ref 151)) (some "list.__new__") := by
  obtain ⟨cd, sl, h1, h2, h3, h4, h5, h6⟩ := cls_at X
  intro A Q E s k q
  unfold Bind.madeBy
  refine wpAny_bind (mro_at X A _ E s k ?_)
  rw [List.forIn_cons]
  refine wpAny_bind (wpAny_bind (wpAny_bind (wpAny_bind (wpAny_loadPart (k _ _ h1) (wpAny_pure ?_)))))
  dsimp only
  rw [h6]
  exact wpAny_pure (wpAny_pure (wpAny_pure q))
theorem base_at {M : Model} {w : World} {h : Heap} (X : (hd.heap_39 w.params).In h) : Looks M h (Bind.staticBase (.ref 151)) (.ref 151) := by
  intro A Q E s k q
  unfold Bind.staticBase
  refine wpAny_bind (mro_at X A _ E s k ?_)
  rw [List.forIn_cons]
  exact wpAny_bind (wpAny_bind (wpAny_bind (made_at X A _ E s k (wpAny_pure (wpAny_pure (wpAny_pure q))))))
theorem new_pile {rest : List Value} (X : (hd.heap_39 w.params).In h) (hc : Bind.checkArgs "list.__new__" ((Manifest.signature? "list.__new__").getD ⟨.hand, "", "", .cls, []⟩) ⟨.ref 151 :: rest, []⟩ = pure ())
    (hq : R (.ok (.ret (.ref (h.objs.size + 1)))) ⟨(h.push emptyDict).push (pobj h.objs.size [] 0), g, d, t, os⟩) :
    codeAny (model prog w) A (.call (.builtin "list.__new__") ⟨.ref 151 :: rest, []⟩) R ⟨h, g, d, t, os⟩ := by
  obtain ⟨cd, sl, h1, h2, h3, h4, h5, h6⟩ := cls_at X
  have base := base_at (M := model prog w) X
  have made := made_at (M := model prog w) X
  have sub : Looks (model prog w) h (isSubtype (.ref 151) (.type "list")) true := looks_mroIn X (by kernel_rfl)
  have hown := owner_list_new
  refine codeAny_call_builtin_code (plainId_quiet PySem.F.plain_list_new _) ?_
  simp only [checkBuiltinCall, nw_kind, nw_split]
  refine if_so (by decide) ?_
  refine wpAny_bind (ks_wpAny_isType_cls h1 rfl ?_)
  refine if_not rfl ?_
  refine wpAny_bind (sub.at ?_)
  refine if_not rfl ?_
  refine wpAny_bind (base.at (wpAny_bind (made.at ?_)))
  refine if_not (by simp) ?_
  have fin : codeAny (model prog w) A (.builtin "list.__new__" ⟨.ref 151 :: rest, []⟩) R ⟨h, g, d, t, os⟩ := by
    refine codeAny_builtin_stack PySem.F.entry_list_new rfl fun p st => ?_
    rw [Around.under_plainId PySem.F.plain_list_new _]
    simp only [hown]
    refine wpAny_bind (ks_wpAny_isType_cls h1 rfl ?_)
    refine if_not rfl ?_
    refine wpAny_bind (sub.at ?_)
    refine if_not rfl ?_
    show wpAny _ _ (newDict >>= fun v => match v with | .ref d => (newObj (.ref 151) (.seq #[]) (some d) >>= fun x => ret x) | _ => unsupported "internal:list.__new__") _ _ _
    unfold newDict
    refine wpAny_bind (wpAny_newObj_type (T := "dict") ?_)
    dsimp only
    show wpAny _ _ (newObjAsIs (.ref 151) (.seq #[]) (some h.objs.size) >>= fun x => ret x) _ _ _
    unfold newObjAsIs classHasDel
    refine wpAny_bind (wpAny_bind (wpAny_alloc (wpAny_bind (wpAny_bind (wpAny_load (Heap.get?_push_of_some _ (Heap.get?_push_of_some _ h1)) (wpAny_pure ?_))))))
    rw [h5]
    refine wpAny_pure (wpAny_pure ?_)
    show R _ _
    rw [Heap.size_push]
    exact hq
  cases hs : Manifest.signature? "list.__new__" with
  | none => exact wpAny_pure fin
  | some sig =>
    rw [hs] at hc
    exact wpAny_of_eq hc fin
theorem make_pile {rest : List Value} {fI : Addr} (X : (hd.heap_39 w.params).In h) (hc : Bind.checkArgs "list.__new__" ((Manifest.signature? "list.__new__").getD ⟨.hand, "", "", .cls, []⟩) ⟨.ref 151 :: rest, []⟩ = pure ())
    (hi : findIn (hd.heap_39 w.params) (.ref 151) "__init__" = some (some (.ref fI))) (hf : typeIn (hd.heap_39 w.params) (.ref fI) = some (.type "function"))
    (hq : codeAny (model prog w) (A.under (.builtin "type.__call__" ⟨.ref 151 :: rest, []⟩)) (.call (.ref fI) ⟨.ref (h.objs.size + 1) :: rest, []⟩) (InitBack (h.objs.size + 1) R) ⟨(h.push emptyDict).push (pobj h.objs.size [] 0), g, d, t, os⟩) :
    codeAny (model prog w) A (.call (.ref 151) ⟨rest, []⟩) R ⟨h, g, d, t, os⟩ := by
  obtain ⟨cd, sl, h1, h2, h3, h4, h5, h6⟩ := cls_at X
  have call := looks_specialIn (M := model prog w) X (show specialIn (hd.heap_39 w.params) (.ref 151) "__call__" = some (some (.builtin "type.__call__")) by kernel_rfl)
  have typ := looks_instIn (M := model prog w) X (show instIn (hd.heap_39 w.params) (.ref 151) (.type "type") = some true by kernel_rfl)
  have made := made_at (M := model prog w) X
  have hm := mro_at (M := model prog w) X
  refine codeAny_of_tree ?_
  show wpAny _ _ (callAny (.ref 151) _) _ _ _
  refine nd_load h1 ?_
  show wpAny _ _ (callAny.viaDunder (.ref 151) _) _ _ _
  unfold callAny.viaDunder
  refine wpAny_bind (call.at ?_)
  dsimp only
  rw [tc_bind]
  refine wpAny_bind (wpAny_pure (wpAny_bind (wpAny_pure ?_)))
  refine wpAny_pure (a := Fin.again (.call (.builtin "type.__call__") ⟨.ref 151 :: rest, []⟩)) (And.intro rfl ?_)
  refine codeAny_call_builtin_at (Code.quiet_builtin _ (by decide +kernel)) entry_typeCall (check_slot tc_kind tc_split typ (tc_args _ _ _) ?_)
  unfold Builtin.«type.__call__»
  dsimp only
  refine if_not (by decide) ?_
  refine wpAny_bind (hm.at ?_)
  refine if_not rfl ?_
  refine wpAny_bind (made.at ?_)
  refine wpAny_bind (wpAny_pure ?_)
  refine wpAny_bind (wpAny_holding (wpAny_call ?_))
  refine new_pile X hc ?_
  have k : ∀ b o, h.get? b = some o → ((h.push emptyDict).push (pobj h.objs.size [] 0)).get? b = some o := fun b o e => Heap.get?_push_of_some _ (Heap.get?_push_of_some _ e)
  have X2 := X.keeps k
  have hx : ((h.push emptyDict).push (pobj h.objs.size [] 0)).get? (h.objs.size + 1) = some (pobj h.objs.size [] 0) := by heap_get
  have t1 : Looks (model prog w) ((h.push emptyDict).push (pobj h.objs.size [] 0)) (typeOf (.ref (h.objs.size + 1))) (.ref 151) := (Looks.ld hx).andThen .now
  have i1 : Looks (model prog w) ((h.push emptyDict).push (pobj h.objs.size [] 0)) (isInstance (.ref (h.objs.size + 1)) (.ref 151)) true := t1.andThen (looks_mroIn X2 (by kernel_rfl))
  refine wpAny_bind (i1.at ?_)
  refine if_not rfl ?_
  unfold callSpecial? specialOf
  refine wpAny_bind (wpAny_holding (wpAny_bind (wpAny_bind (t1.at ((looks_findIn X2 hi).at ?_)))))
  dsimp only
  refine wpAny_holding (wpAny_bind ((bind_fn X2 _ hf).at (wpAny_bind (wpAny_call ?_))))
  refine codeAny_mono hq fun r s' z => ?_
  rcases r with e | (v | _ | _ | _) <;> first | exact z | exact z.elim | skip
  obtain ⟨rfl, z⟩ := z
  exact wpAny_pure (wpAny_pure z)
end
end
section
local macro_rules | `(tactic| walk_at "zz") => `(tactic| fail)
theorem forget1_27 {prog : Program} {w : World} {A : Around} {Q : Bool → Shared → Prop} {E : Value → Shared → Prop} {s : Shared} (h : wpAny (model prog w) A (truthy (.bool true)) Q E s) : wpAny (model prog w) A (truthy (.bool true)) Q E s := by
  w_top off
  first | (walk1; fail) | exact h
local macro_rules | `(tactic| walk_at "zz") => `(tactic| fail)
theorem forget2_27 {prog : Program} {w : World} {A : Around} {Q : Bool → Shared → Prop} {E : Value → Shared → Prop} {s : Shared} (h : wpAny (model prog w) A (truthy (.bool true)) Q E s) : wpAny (model prog w) A (truthy (.bool true)) Q E s := by
  first | (walk1; fail) | exact h
end
noncomputable section
open Bi Builtin.ObjectAttr
abbrev nmI : Str := Str.ofString "_initial_size"
theorem sa_pass : ∀ self : Value, refuseLoop self "__setattr__" [.type "list", .type "object"] = pure () := fun self => by kernel_rfl
section
variable {prog : Program} {w : World} {A : Around} {E : Value → Shared → Prop} {s : Shared} {h₀ : Heap} {L : Addr} {m : Str → Option Value} {news : List (Addr × Obj)}
theorem sa_pile {p d : Addr} {n : Nat} {v : Value} {Q : Unit → Shared → Prop} (F : Fr h₀ L s.heap m) (X₀ : (hd.heap_39 w.params).In h₀) (N : News h₀ L s.heap ((p, pobj d [] n) :: (d, dictOf [] 0) :: news)) (hdp : d ≠ p) (hnd : ∀ q ∈ news, q.1 ≠ d)
    (h : ∀ h' e t nd, Fr h₀ L h' m → News h₀ L h' ((p, pobj d [] n) :: (d, dictOf [⟨e, .str nmI t, v⟩] nd) :: news) → ∀ k, Q () { s with heap := h', toks := k }) : wpAny (model prog w) A (setAttr (.ref p) nmI v) Q E s := by
  have X := X₀.keeps F.keep
  have I : W.InstAt s.heap p (pobj d [] n) 151 (some (dictOf [] 0)) := ⟨N.get (.head _), rfl, rfl, N.get (.tail _ (.head _))⟩
  have SF := PySem.F.store_object
  obtain ⟨cd, hc, hcd⟩ := any_some (show (clsIn (hd.heap_39 w.params) 151).any (fun cd => cd.hasDict && cd.mro == [.ref 151, .type "list", .type "object"]) = true by kernel_rfl)
  simp only [Bool.and_eq_true, beq_iff_eq] at hcd
  have hm : Looks (model prog w) s.heap (mroOf (.ref 151)) [.ref 151, .type "list", .type "object"] := mro_at X
  have sub : Looks (model prog w) s.heap (isInstance (.ref p) (.type "object")) true := I.type.andThen (looks_mroIn X (by kernel_rfl))
  refine set_plain X I (by kernel_rfl) ?_
  obtain ⟨hh, g, dd, tk, os⟩ := s
  refine codeAny_call_builtin SF.slot.plain SF.entry (check_slot (i := "object.__setattr__") (owner := "object") (n := "__setattr__") SF.kind SF.split sub (SF.args _ _ _) ?_)
  rw [osa_eq, refuse_eq]
  refine wpAny_bind (wpAny_bind (I.type.at (wpAny_bind (hm.at ?_))))
  rw [refuseLoop_ref, sa_pass]
  refine wpAny_pure (wpAny_bind (I.type.at (wpAny_bind ((looks_findIn X (show findIn (hd.heap_39 w.params) (.ref 151) nmI = some none by kernel_rfl)).at (wpAny_bind (m := storeTaker? none) (wpAny_pure ?_))))))
  have D := N.get (.tail _ (.head _))
  have hp := N.get (.head _)
  obtain ⟨U1, U2⟩ := news_upd (pre := [(p, pobj d [] n)]) (post := news) (f := Obj.putName nmI (PyData.keyHash w.params nmI) (.str nmI (tk + 1)) v) (o' := dictOf [⟨PyData.keyHash w.params nmI, .str nmI (tk + 1), v⟩] 1) F N (fun q hq => by rw [List.mem_singleton.mp hq]; exact Ne.symm hdp) hnd (by rfl) rfl
  have D' := U2.get (.tail _ (.head _))
  dsimp only
  refine wpAny_bind (m := ownStreamTells _ _) (wpAny_pure ?_)
  refine if_not (by decide) ?_
  refine wpAny_bind (m := ownDictForStores (.ref p)) ?_
  refine wpAny_bind (wpAny_loadPart hp (wpAny_bind ((looks_clsIn X hc).at ?_)))
  rw [hcd.1]
  refine if_not rfl (wpAny_pure ?_)
  dsimp only
  refine wpAny_bind (m := newKeyGuard _ _ _) (wpAny_pure (wpAny_bind ?_))
  unfold nsSet
  refine wpAny_bind (wpAny_bind (wpAny_askSetting (wpAny_pure (wpAny_bind (wpAny_mkText (wpAny_bind (wpAny_loadPart D ?_)))))))
  dsimp only
  refine if_not (by decide) ?_
  refine wpAny_updatePart D ?_
  refine wpAny_bind (wpAny_lookBehind D' (by exact pastItsLine_dict (by rw [sizeLine_eq]; show 1 ≤ _; omega)) ?_)
  exact wpAny_pure (h _ _ _ _ U1 U2 _)
theorem call_init {u p d : Addr} {n : Nat} {od : Option Obj} {tl : List (Addr × Obj)} {Q : Value → Shared → Prop} (F : Fr h₀ L s.heap m) (N : News h₀ L s.heap news) (hu : s.heap.get? u = some (bnd "method-wrapper" "list.__init__" p)) (I : W.InstAt s.heap p (pobj d [] n) 151 od)
    (hsub : ∀ q ∈ (p, pobj d [] n) :: tl, q ∈ news) (htl : ∀ q ∈ tl, q.1 ≠ p)
    (h : ∀ h' n', Fr h₀ L h' m → News h₀ L h' ((p, pobj d [] n') :: tl) → Q .none { s with heap := h' }) : wpAny (model prog w) A (call (.ref u) []) Q E s := by
  refine call_bnd (.inr rfl) hu ?_ (fun as => Code.quiet_builtin _ (by decide +kernel)) en_init ?_
  · intro P E z
    exact wpAny_of_eq (a := ()) (by first | rfl | kernel_rfl) z
  · obtain ⟨n', F', N'⟩ := updP (f := fun _ => (#[] : Array Value)) (us := []) F N hsub htl rfl
    have hh := h _ n' F' N'
    have hl := I.at_
    obtain ⟨hp, g, dd, tk, os⟩ := s
    unfold Builtin.«list.__init__»
    wp_walk using AutoSeq1.wpAny_loadPart' hl, (wpAny_updateSeq hl rfl (hz := Nat.zero_le _) (_hz' := Nat.zero_le _))
    exact hh
end
set_option hygiene false in
local macro_rules | `(tactic| walk_at "m.introG") => `(tactic| (dsimp only [ClG]; k_fill; intro mean mg mb loose dp un gd cn cs a ccd cl outer A₀ base h₀ L m s Q E hB hF hX hN hT hk hdp hun hret; refine wpAny_call ?_))
local macro_rules | `(tactic| walk_at "setAttr") => `(tactic| (refine stopHere ?_))
local macro_rules | `(tactic| walk_at "wpAt") => `(tactic| (dsimp only; ks_step "execs cons"; refine ks_wpAt_execs_cons ?_))
local macro_rules | `(tactic| k_inst) => `(tactic| (refine inst_pile (by k_asm) (by walk_at "m.mem") (by walk_at "m.mem")))
local macro_rules | `(tactic| walk_at "m.mem") => `(tactic| (first | assumption | exact .head _ | exact .tail _ (.head _) | exact .tail _ (.tail _ (.head _)) | exact .tail _ (.tail _ (.tail _ (.head _)))))
local macro_rules | `(tactic| walk_at "getMethod ref") => `(tactic| (first | (refine gm_wd (by k_asm) (by k_asm) (by k_asm) (.head _) (by k_inst) (by decide) ty_init own_init (by kernel_rfl) ?_; intro q' h' F' N' l1)))
local macro_rules | `(tactic| walk_at "callWith") => `(tactic| (first | (refine callWith_bnd0 (.inr rfl) (News.get (by k_asm) (.head _)) ?_)))
local macro_rules | `(tactic| walk_at "Stop") => `(tactic| (fail "stop"))
set_option hygiene false in
local macro_rules | `(tactic| walk_at "m.enterI") => `(tactic| ((case kA => exact rfl); (case kF => exact rfl); (case kK => assumption); (case k1 => k_asm); (case k2 => k_asm); (case k3 => k_asm); (case k4 => k_asm); (case k5 => k_asm); (case k6 => k_is); (case k7 => k_is); (case k8 => ktr_room); (case k9 => exact binds_K (hX.keeps F1.keep) rfl (by k_is) rfl rfl rfl); (case c5 => decide); (case kB => exact locs rfl); (case c2 => exact rfl); (case c3 => exact rfl); (case c4 => exact rfl); intro g' L' h' FG' F' N' B' X' T' l1; (try dsimp only); (try k_lift B')))
theorem pileD_one (e : Int) (t : Tok) (i : Int) (u : Tok) (hi : 0 ≤ i) (hi2 : i < 1000) : PileD [⟨e, .str nmI t, .int i u⟩] i :=
  ⟨⟨u, rfl⟩, ⟨hi, hi2⟩, rfl, rfl, rfl, rfl, rfl⟩
theorem make_call {w : World} (news) (i : Int) (t : Tok) (hi : 0 ≤ i) (hi2 : i < 1000) :
    ClG 3 w 151 news [.int i t] (fun r news' => ∃ p d es nd n, r = .ref p ∧ news' = (p, pobj d [] n) :: (d, dictOf es nd) :: news ∧ PileD es i ∧ (∀ q ∈ news, q.1 < d) ∧ d < p) := by
  walk_at "m.introG"
  obtain ⟨hh, g, dd, tt, os⟩ := s
  refine make_pile (fI := 88) (hX.keeps hF.keep) (by kernel_rfl) (by kernel_rfl) (by kernel_rfl) ?_
  have N1 : News h₀ L ((hh.push emptyDict).push (pobj hh.objs.size [] 0)) ((hh.objs.size + 1, pobj hh.objs.size [] 0) :: (hh.objs.size, dictOf [] 0) :: news) := by
    have := (hN.push hF emptyDict).push (hF.push _) (pobj hh.objs.size [] 0)
    rwa [Heap.size_push] at this
  have F1 : Fr h₀ L ((hh.push emptyDict).push (pobj hh.objs.size [] 0)) m := (hF.push _).push _
  have l1 : ∀ q ∈ news, q.1 < hh.objs.size := fun q hq => Heap.lt_size (hN q hq).1
  revert N1 F1 l1
  generalize (hh.push emptyDict).push (pobj hh.objs.size [] 0) = h1
  generalize hh.objs.size = d
  intro N1 F1 l0
  clear hN hF
  refine' ks_code_super (binds := [(Str.ofString "self", .ref (d + 1)), (Str.ofString "initial_size", .int i t)]) ?k1 ?k2 ?k3 ?k4 ?k5 ?kA ?kF ?kK ?k6 ?k7 ?k8 ?k9 ?kB ?_ ?c5 ?c2 ?c3 ?c4
  walk_at "m.enterI"
  k_steps
  unfold Stop
  refine sa_pile F' X' N' (Nat.ne_of_lt (Nat.lt_succ_self _)) (fun q hq => Nat.ne_of_lt (l0 q hq)) ?_
  intro h5 e5 t5 n5 F5 N5 k5
  dsimp only
  refine ks_wpAt_execs_cons (ks_wpAt_Expr_any (ks_wpAt_MethodCall ?_))
  k_steps
  rename_i so h6 F6 N6 l6 u7 h7 F7 N7 l7
  refine call_init (tl := (d, dictOf [⟨e5, .str nmI t5, .int i t⟩] n5) :: news) F7 N7 (N7.get (.head _)) (inst_pile N7 (.tail _ (.tail _ (.head _))) (.tail _ (.tail _ (.tail _ (.head _))))) (fun q hq => .tail _ (.tail _ hq)) (List.forall_mem_cons.mpr ⟨Nat.ne_of_lt (Nat.lt_succ_self _), fun q hq => Nat.ne_of_lt (Nat.lt_succ_of_lt (l0 q hq))⟩) ?_
  intro h8 n8 F8 N8
  k_steps
  exact hret _ _ h8 _ ⟨_, _, _, _, _, rfl, rfl, pileD_one e5 t5 i t hi hi2, l0, Nat.lt_succ_self _⟩ (by k_asm) (by k_asm)
end
section
local macro_rules | `(tactic| walk_at "zz") => `(tactic| fail)
theorem forget1_28 {prog : Program} {w : World} {A : Around} {Q : Bool → Shared → Prop} {E : Value → Shared → Prop} {s : Shared} (h : wpAny (model prog w) A (truthy (.bool true)) Q E s) : wpAny (model prog w) A (truthy (.bool true)) Q E s := by
  w_top off
  first | (walk1; fail) | exact h
local macro_rules | `(tactic| walk_at "zz") => `(tactic| fail)
theorem forget2_28 {prog : Program} {w : World} {A : Around} {Q : Bool → Shared → Prop} {E : Value → Shared → Prop} {s : Shared} (h : wpAny (model prog w) A (truthy (.bool true)) Q E s) : wpAny (model prog w) A (truthy (.bool true)) Q E s := by
  first | (walk1; fail) | exact h
end
noncomputable section
noncomputable def lawFn (w : World) : List Stmt × Scope := match (hd.heap_39 w.params).lookup 191 with
  | some ⟨_, _, .func ⟨_, _, _, .stmts b, sc, _, _, _, _, _, _, _, _, _, _⟩, _⟩ => (b, sc)
  | _ => ([], default)
theorem lawSt_ex : ∃ f : World → Nat → Stmt, ∀ w k, f w k = (lawFn w).1.getD k default := ⟨_, fun _ _ => rfl⟩
noncomputable def lawSt : World → Nat → Stmt := Classical.choose lawSt_ex
theorem lawSt_eq (w : World) (k : Nat) : lawSt w k = (lawFn w).1.getD k default := Classical.choose_spec lawSt_ex w k
theorem lawSc_ex : ∃ f : World → Scope, ∀ w, f w = (lawFn w).2 := ⟨_, fun _ => rfl⟩
noncomputable def lawSc : World → Scope := Classical.choose lawSc_ex
theorem lawSc_eq (w : World) : lawSc w = (lawFn w).2 := Classical.choose_spec lawSc_ex w
def forBody : Stmt → List Stmt
  | .For _ _ b _ _ => b
  | .While _ b _ _ => b
  | _ => []
theorem bodySt_ex : ∃ f : World → Nat → Stmt, ∀ w k, f w k = (forBody ((lawFn w).1.getD 6 default)).getD k default := ⟨_, fun _ _ => rfl⟩
noncomputable def bodySt : World → Nat → Stmt := Classical.choose bodySt_ex
theorem bodySt_eq (w : World) (k : Nat) : bodySt w k = (forBody ((lawFn w).1.getD 6 default)).getD k default := Classical.choose_spec bodySt_ex w k
noncomputable abbrev lawEnv (w : World) (L fa : Addr) (cdv : Value) : Env := envOf (Str.ofString "law") (lawSc w) L fa cdv
section
variable {prog : Program} {w : World} {A : Around} {s : Shared} {env : Env} {h₀ : Heap}
def TurnH (h₀ : Heap) (L : Addr) (rest : List (Addr × Obj)) (Jn : (Str → Option Value) → List (Addr × Obj) → Array GenState → Prop) (s : Shared) (Q : Flow → Shared → Prop) (f : Flow) (s₂ : Shared) : Prop :=
  match f with
  | .ret v => Q (.ret v) s₂
  | .brk => Q .next s₂
  | _ => ∃ m₂ hs, s₂.os = s.os ∧ s₂.drawn = s.drawn ∧ Jn m₂ hs s₂.gens ∧ (∀ p ∈ rest, p.1 ∉ hs.map (·.1)) ∧ Fr h₀ L s₂.heap m₂ ∧ News h₀ L s₂.heap (hs ++ rest)
theorem loopH {Q : Flow → Shared → Prop} {x : Str} {px : Pos} {body : List Stmt} {l : Addr} {vs : List Value} {nl : Nat} {m₀ : Str → Option Value} {hs₀ tl : List (Addr × Obj)}
    (J : Nat → (Str → Option Value) → List (Addr × Obj) → Array GenState → Prop)
    (hx : env.kindOf x = some .local) (hp : (env.scope.kind == .class || (env.scope.kind == .module && env.locals != env.globals)) = false) (hh : A.handled = none)
    (F : Fr h₀ env.locals s.heap m₀) (N : News h₀ env.locals s.heap (hs₀ ++ tl)) (hl : (l, lobj vs nl) ∈ tl)
    (hsep : ∀ p ∈ tl, p.1 ∉ hs₀.map (·.1)) (hj : J 0 m₀ hs₀ s.gens)
    (turn : ∀ i v m₁ hs s₁ rest, vs[i]? = some v → J i m₁ hs s₁.gens → (∀ p ∈ rest, p.1 ∉ hs.map (·.1)) → (∀ p ∈ tl, p ∈ rest) → s₁.os = s.os → s₁.drawn = s.drawn →
      Fr h₀ env.locals s₁.heap (fun y => if y = x then some v else m₁ y) → News h₀ env.locals s₁.heap (hs ++ rest) →
      wpAny (model prog w) A (execs body env) (TurnH h₀ env.locals rest (J (i + 1)) s Q) Nv s₁)
    (done : ∀ m₁ hs s₁, J vs.length m₁ hs s₁.gens → s₁.os = s.os → s₁.drawn = s.drawn → (∀ p ∈ tl, p.1 ∉ hs.map (·.1)) → Fr h₀ env.locals s₁.heap m₁ → News h₀ env.locals s₁.heap (hs ++ tl) → Q .next s₁) :
    wpAny (model prog w) A (pyIter (.ref l)) (fun it s₂ => codeAny (model prog w) A (.forLoop (.Name x px) it body [] env) (fun r s' => match r with | .ok f => Q f s' | .error e => cameBackBy (model prog w) A env Nv e s') s₂) Nv s := by
  have hml : (l, lobj vs nl) ∈ hs₀ ++ tl := List.mem_append_right _ hl
  have hls : s.heap.IsList l vs.toArray := ⟨_, N.get hml, rfl, nl, rfl⟩
  have hI0 : h₀.get? s.heap.objs.size = none := next_is_new F
  have hIL : s.heap.objs.size ≠ env.locals := Nat.ne_of_gt F.ns.lt
  have hIn : ∀ p ∈ hs₀ ++ tl, p.1 ≠ s.heap.objs.size := fun p hp => Nat.ne_of_lt (Heap.lt_size (N p hp).1)
  refine wpAny_pyIter_list hls ?_
  refine codeAny_forLoop
    (fun k s' => ∃ m' hs i o, s'.os = s.os ∧ s'.drawn = s.drawn ∧ s'.heap.get? s.heap.objs.size = some o ∧ s'.heap.IsListIter s.heap.objs.size l i ∧ Fr h₀ env.locals s'.heap m' ∧ News h₀ env.locals s'.heap (hs ++ tl) ∧ (∀ p ∈ (s.heap.objs.size, o) :: tl, p.1 ∉ hs.map (·.1)) ∧ J i m' hs s'.gens ∧ i ≤ vs.length ∧ k = vs.length + 1 - i) ?_ (vs.length + 1)
    ⟨m₀, hs₀, 0, _, rfl, rfl, Heap.get?_push_size _ rfl, ⟨_, Heap.get?_push_size _ rfl, rfl, rfl⟩, F.push _, (fun p hp => ⟨Heap.get?_push_of_some _ (N p hp).1, (N p hp).2⟩), ?_, hj, Nat.zero_le _, rfl⟩
  rotate_left
  · intro p hp hm
    rcases List.mem_cons.mp hp with rfl | hp
    · obtain ⟨q, hq, e⟩ := List.mem_map.mp hm
      exact hIn q (List.mem_append_left _ hq) e
    · exact hsep p hp hm
  rintro k ⟨h', g', d', tk, os'⟩ ⟨m', hs, i, o₀, hos, hdr, hoI, hit, F', N', hsp, hJ, hi, rfl⟩
  dsimp only at hos hdr hoI hit F' N'
  have hne : ∀ p ∈ hs ++ tl, p.1 ≠ s.heap.objs.size := fun p hp => by
    rcases List.mem_append.mp hp with hp | hp
    · exact fun e => hsp _ (.head _) (List.mem_map.mpr ⟨p, hp, e⟩)
    · exact hIn p (List.mem_append_right _ hp)
  have hl' : h'.IsList l vs.toArray := ⟨_, N'.get (List.mem_append_right _ hl), rfl, nl, rfl⟩
  have up : ∀ h₁ : Heap, Heap.ExtBut s.heap.objs.size h' h₁ → Fr h₀ env.locals h₁ m' ∧ News h₀ env.locals h₁ (hs ++ tl) := fun h₁ hk =>
    ⟨⟨F'.ns.at' fun o e => hk _ o (Ne.symm hIL) e, fun b o e => hk b o (fun q => by rw [q, hI0] at e; cases e) (F'.keep b o e), F'.above⟩, fun p hp => ⟨hk _ _ (hne p hp) (N' p hp).1, (N' p hp).2⟩⟩
  by_cases hlt : i < vs.length
  · refine wpAny_pyNext_list_item hit hl' (x := vs[i]) (by simp [hlt]) fun h₁ hit₁ hs₁ => ?_
    obtain ⟨F₁, N₁⟩ := up h₁ hs₁.extBut
    refine wpAny_assign_Name (wpAny_storeName_local hx F₁.ns (fun h₂ hn₂ hs₂ => ?_) hp)
    have F₂ := F₁.set hn₂ hs₂
    have N₂ := N₁.set hs₂
    obtain ⟨o, ho, hc, hdt⟩ := hit₁
    have ho₂ : h₂.get? s.heap.objs.size = some o := (hs₂.2 _ hIL).trans ho
    have NI : News h₀ env.locals h₂ (hs ++ ((s.heap.objs.size, o) :: tl)) := fun p hp => by
      rcases List.mem_append.mp hp with hp | hp
      · exact N₂ p (List.mem_append_left _ hp)
      · rcases List.mem_cons.mp hp with rfl | hp
        · exact ⟨ho₂, hIL, hI0⟩
        · exact N₂ p (List.mem_append_right _ hp)
    have hsepr : ∀ p ∈ (s.heap.objs.size, o) :: tl, p.1 ∉ hs.map (·.1) := fun p hp => by
      rcases List.mem_cons.mp hp with rfl | hp
      · exact hsp (s.heap.objs.size, o₀) (.head _)
      · exact hsp p (.tail _ hp)
    refine wpAny_passesOwn PassesOwn.never (wpAny_mono (turn i vs[i] m' hs { heap := h₂, gens := g', drawn := d', toks := tk + 1, os := os' } _ (by simp [hlt]) hJ hsepr (fun p hp => List.mem_cons_of_mem _ hp) hos hdr F₂ NI) (fun f s₃ h₃ => ?_) fun _ _ e => e)
    have go : (∃ m₂ hs, s₃.os = s.os ∧ s₃.drawn = s.drawn ∧ J (i + 1) m₂ hs s₃.gens ∧ (∀ p ∈ (s.heap.objs.size, o) :: tl, p.1 ∉ hs.map (·.1)) ∧ Fr h₀ env.locals s₃.heap m₂ ∧ News h₀ env.locals s₃.heap (hs ++ ((s.heap.objs.size, o) :: tl))) →
        ∃ m, m < vs.length + 1 - i ∧ ∃ m' hs i o, s₃.os = s.os ∧ s₃.drawn = s.drawn ∧ s₃.heap.get? s.heap.objs.size = some o ∧ s₃.heap.IsListIter s.heap.objs.size l i ∧ Fr h₀ env.locals s₃.heap m' ∧ News h₀ env.locals s₃.heap (hs ++ tl) ∧ (∀ p ∈ (s.heap.objs.size, o) :: tl, p.1 ∉ hs.map (·.1)) ∧ J i m' hs s₃.gens ∧ i ≤ vs.length ∧ m = vs.length + 1 - i := by
      rintro ⟨m₃, hs₃, ho₃, hd₃, hJ₃, hsp₃, F₃, N₃⟩
      have hget := N₃.get (List.mem_append_right _ (.head _))
      refine ⟨vs.length + 1 - (i + 1), by omega, m₃, hs₃, i + 1, o, ho₃, hd₃, hget, ⟨o, hget, hc, hdt⟩, F₃, fun p hp => ?_, hsp₃, hJ₃, hlt, rfl⟩
      rcases List.mem_append.mp hp with hp | hp
      · exact N₃ p (List.mem_append_left _ hp)
      · exact N₃ p (List.mem_append_right _ (.tail _ hp))
    cases f with
    | ret v => exact h₃
    | brk => exact h₃
    | next => exact go h₃
    | cont => exact go h₃
  · have hin : i = vs.length := by omega
    subst hin
    refine wpAny_pyNext_list_end hh hit hl' (by simp) fun h₁ hk₁ => wpAny_execs_nil ?_
    obtain ⟨F₁, N₁⟩ := up h₁ hk₁
    exact done m' hs _ hJ hos hdr (fun p hp => hsp p (.tail _ hp)) F₁ N₁
end
abbrev Seg (w : World) (st : Stmt) (G : Heap → Prop) (Pre : (Str → Option Value) → List (Addr × Obj) → Prop) (Post : (Str → Option Value) → List (Addr × Obj) → Prop) : Prop :=
  ∀ (mean : ExcName → Option Value) (mg mb : Str → Option Value) (loose : List Str) (dp un : Nat) (gd : Option (List Code)) (fa : Addr) (cdv : Value) (outer : List Env) (A₀ : Around) (base h₀ : Heap) (L : Addr) (m : Str → Option Value) (news : List (Addr × Obj)) (s : Shared) (Q : Flow → Shared → Prop),
    G h₀ → Pre m news → Below A₀ base outer h₀ → Fr h₀ L s.heap m → (hd.heap_39 w.params).In h₀ → News h₀ L s.heap news → Top topProg loose mean mg mb h₀ → dp + 10 < recursionLimit → un + 1000 < cLine → AllBare s.gens →
    (∀ m' news' s', Post m' news' → Fr h₀ L s'.heap m' → News h₀ L s'.heap news' → AllBare s'.gens → s'.os = s.os → s'.drawn = s.drawn → Q .next s') →
      wpAny (model PySem.Challenge.rw_qu0014_01.row.prog w) (ktrTop dp un gd (Str.ofString "law") (lawSc w) L fa cdv [] outer) (exec st (lawEnv w L fa cdv)) Q Nv s
section
open PySem.SeqAt
theorem any_strs {x : Str} : ∀ {vs : List Value} {ss : List Str}, StrsAre vs ss → (vs.any fun v => match v with | .str z _ => decide (z = x) | _ => false) = decide (x ∈ ss)
  | _, _, .nil => rfl
  | _, _, .cons y u h => by
    rw [List.any_cons, any_strs h]
    by_cases e : y = x
    · simp [e]
    · simp [e, Ne.symm e]
theorem notin_strs {prog : Program} {w : World} {A : Around} {E : Value → Shared → Prop} {s : Shared} {l : Addr} {vs : List Value} {ss : List Str} {x : Str} {t : Tok} {Q : Value → Shared → Prop} (hl : s.heap.IsList l vs.toArray) (hi : StrsAre vs ss) (h : Q (.bool (!decide (x ∈ ss))) s) :
    wpAny (model prog w) A (compareOp .NotIn (.str x t) (.ref l)) Q E s := by
  refine notIn_listAt (fun v => match v with | .str z _ => decide (z = x) | _ => false) hl (fun y hy => ?_) ?_
  · have hy' : y ∈ vs := by simpa using hy
    obtain ⟨i, hlt, e⟩ := List.mem_iff_getElem.mp hy'
    obtain ⟨z, u, e2, _⟩ := hi.item i y (by rw [← e]; simp [hlt])
    subst e2
    exact fun prog w E Q hq => wpAny_eqBool_str hq
  · have e : (vs.toArray.any fun v => match v with | .str z _ => decide (z = x) | _ => false) = decide (x ∈ ss) := by
      rw [← Array.any_toList]
      exact any_strs hi
    rw [e]; exact h
end
abbrev mS (l : Addr) : Str → Option Value := fun y => List.lookup y [(Str.ofString "script", Value.ref l)].reverse
end
section
local macro_rules | `(tactic| walk_at "zz") => `(tactic| fail)
theorem forget1_29 {prog : Program} {w : World} {A : Around} {Q : Bool → Shared → Prop} {E : Value → Shared → Prop} {s : Shared} (h : wpAny (model prog w) A (truthy (.bool true)) Q E s) : wpAny (model prog w) A (truthy (.bool true)) Q E s := by
  w_top off
  first | (walk1; fail) | exact h
local macro_rules | `(tactic| walk_at "zz") => `(tactic| fail)
theorem forget2_29 {prog : Program} {w : World} {A : Around} {Q : Bool → Shared → Prop} {E : Value → Shared → Prop} {s : Shared} (h : wpAny (model prog w) A (truthy (.bool true)) Q E s) : wpAny (model prog w) A (truthy (.bool true)) Q E s := by
  first | (walk1; fail) | exact h
end
noncomputable section
local macro_rules | `(tactic| walk_at "Stop") => `(tactic| (fail "stop"))
local macro_rules | `(tactic| walk_at "pyIter ref") => `(tactic| (refine stopHere ?_))
abbrev GS (l : Addr) (vs : List Value) (ns : List Int) (h : Heap) : Prop := h.IsList l vs.toArray ∧ IntsAre vs ns ∧ ns.length ≤ 63
theorem seg0 {w : World} (l : Addr) (vs : List Value) (ns : List Int) (tl : List (Addr × Obj)) : Seg w (lawSt w 0) (GS l vs ns) (fun m news => m = mS l ∧ news = tl)
    (fun m news => ∃ nl, m = (fun y => if y = Str.ofString "names" then some (.ref nl) else mS l y) ∧ news = (nl, lobj [] 0) :: tl ∧ ∀ q ∈ tl, q.1 < nl) := by
  walk_at "m.introSeg"
  obtain ⟨rfl, rfl⟩ := hPre
  k_steps
  exact hret _ _ _ ⟨_, rfl, rfl, (by assumption)⟩ (by k_asm) (by k_asm) hAB rfl rfl
abbrev m1 (l nl : Addr) (u v : Option Value) : Str → Option Value := fun y => if y = Str.ofString "name" then u else if y = Str.ofString "x" then v else if y = Str.ofString "names" then some (.ref nl) else mS l y
def namesStep (acc : List Str) (x : Int) : List Str := if Txt.lower (nameS (x % 2048)) ∈ acc.map Txt.lower then acc else acc ++ [nameS (x % 2048)]
def namesS (zs : List Int) : List Str := zs.foldl namesStep []
def zsS (ns : List Int) : List Int := ns.take 8 ++ ([18, 1025, 49, 0, 5] : List Int).drop (ns.take 8).length
theorem pick_drop (vs : List Value) (k : Nat) : (slicePick vs.toArray (some (k : Int)) none none).toList = vs.drop k := by
  have hb : sliceBounds (some (k : Int)) none none vs.toArray.size = (((min k vs.length : Nat) : Int), ((vs.length : Nat) : Int), 1) := by
    simp [sliceBounds]; omega
  rw [kmk_pick_nat _ hb]
  simp only [List.toList_toArray]
  rw [List.take_of_length_le (by rw [List.length_drop]; omega), kmk_drop_min]
theorem sl_drop {prog : Program} {w : World} {A : Around} {E : Value → Shared → Prop} {s : Shared} {h₀ : Heap} {L l : Addr} {m : Str → Option Value} {news : List (Addr × Obj)} {value slice : PySem.Expr} {vs : List Value} {n k : Nat} {t : Tok} {Q : Value → Shared → Prop}
    (F : Fr h₀ L s.heap m) (N : News h₀ L s.heap news) (m1 : (l, lobj vs n) ∈ news) (hz : vs.length ≤ 1000)
    (hs : subscripted slice false (.ref l) (.ref s.heap.objs.size) = operate [.ref s.heap.objs.size, .ref l] (getItem (.ref l) (.ref s.heap.objs.size)))
    (h : ∀ D h', Fr h₀ L h' m → News h₀ L h' ((D, lobj (vs.drop k) 0) :: news) → (∀ p ∈ news, p.1 < D) → Q (.ref D) { s with heap := h' }) :
    wpAny (model prog w) A (subscriptTail value slice (.ref l) (.ref s.heap.objs.size)) Q E { s with heap := s.heap.push { cls := .type "slice", data := .fields #[.int (k : Int) t, .none, .none] } } :=
  kba_turn (value' := .Name (Str.ofString "") default) (fun r => rfl) (kmk_slice_lit F N (isList_mem N m1) (.int _ _) .none (pick_drop vs k) h hs (fun _ => rfl) (by rw [List.size_toArray]; simp only [sizeLine]; omega))
theorem sl_dropI {prog : Program} {w : World} {A : Around} {E : Value → Shared → Prop} {s : Shared} {h₀ : Heap} {L l : Addr} {m : Str → Option Value} {news : List (Addr × Obj)} {value slice : PySem.Expr} {vs : List Value} {zs : List Int} {n k : Nat} {t : Tok} {Q : Value → Shared → Prop}
    (F : Fr h₀ L s.heap m) (N : News h₀ L s.heap news) (m1 : (l, lobj vs n) ∈ news) (hi : IntsAre vs zs) (hz : zs.length ≤ 1000)
    (hs : subscripted slice false (.ref l) (.ref s.heap.objs.size) = operate [.ref s.heap.objs.size, .ref l] (getItem (.ref l) (.ref s.heap.objs.size)))
    (h : ∀ D ws h', IntsAre ws (zs.drop k) → Fr h₀ L h' m → News h₀ L h' ((D, lobj ws 0) :: news) → (∀ p ∈ news, p.1 < D) → Q (.ref D) { s with heap := h' }) :
    wpAny (model prog w) A (subscriptTail value slice (.ref l) (.ref s.heap.objs.size)) Q E { s with heap := s.heap.push { cls := .type "slice", data := .fields #[.int (k : Int) t, .none, .none] } } :=
  sl_drop F N m1 (by rw [hi.length]; exact hz) hs fun D h' F' N' l' => h D _ h' (hi.drop k) F' N' l'
local macro_rules | `(tactic| walk_at "subscriptTail List") => `(tactic| (refine stopHere ?_))
local macro_rules | `(tactic| walk_at "exec For") => `(tactic| (refine wpAny_For ?_))
theorem nameS_len (x : Int) : (nameS x).length ≤ 100 := by
  have h1 := joinS_len12 x
  unfold nameS
  split
  · have := len_upper (joinS x); omega
  · omega
theorem zsS_bnd (ns : List Int) : 5 ≤ (zsS ns).length ∧ (zsS ns).length ≤ 13 := by
  unfold zsS
  rw [List.length_append, List.length_drop, List.length_take]
  show 5 ≤ _ + (5 - _) ∧ _ + (5 - _) ≤ 13
  omega
theorem namesS_len (zs : List Int) : ∀ acc : List Str, (zs.foldl namesStep acc).length ≤ acc.length + zs.length := by
  induction zs with
  | nil => intro acc; exact Nat.le_refl _
  | cons z r ih =>
    intro acc
    rw [List.foldl_cons]
    have h1 := ih (namesStep acc z)
    have h2 : (namesStep acc z).length ≤ acc.length + 1 := by
      unfold namesStep; split
      · omega
      · simp
    rw [List.length_cons]; omega
theorem namesS_mem {P : Str → Prop} (hP : ∀ x, P (nameS x)) (zs : List Int) : ∀ acc : List Str, (∀ y ∈ acc, P y) → ∀ y ∈ zs.foldl namesStep acc, P y := by
  induction zs with
  | nil => intro acc h; exact h
  | cons z r ih =>
    intro acc h
    rw [List.foldl_cons]
    refine ih _ ?_
    unfold namesStep; split
    · exact h
    · intro y hy
      rcases List.mem_append.mp hy with hy | hy
      · exact h y hy
      · rw [List.mem_singleton.mp hy]; exact hP _
theorem namesS_snoc (zs : List Int) (i : Nat) {z : Int} (h : zs[i]? = some z) : namesS (zs.take (i + 1)) = namesStep (namesS (zs.take i)) z := by
  unfold namesS
  rw [List.take_add_one, h, List.foldl_append]
  rfl
theorem ints_item : ∀ {vs : List Value} {zs : List Int}, IntsAre vs zs → ∀ (i : Nat) (v : Value), vs[i]? = some v → ∃ z tz, v = .int z tz ∧ zs[i]? = some z
  | _, _, .nil, i, v, h => by simp at h
  | _, _, .cons z t h, 0, v, hv => by simp at hv; exact ⟨z, t, hv.symm, by simp⟩
  | _, _, .cons z t h, i + 1, v, hv => by simp at hv; simpa using ints_item h i v hv
local macro_rules | `(tactic| walk_at "call ref") => `(tactic| (refine' name_call _ _ _ ?f1 ?f2 _ _ _ _ _ _ _ _ _ _ _ _ _ _ _ _ _ _ _ _ _ ?k1 ?k2 ?k3 ?k4 ?k5 ?kK ?kd ?ku ?_; (case f1 => exact Int.fmod_nonneg_of_pos _ (by decide)); (case f2 => exact Int.fmod_lt_of_pos _ (by decide)); (case k1 => k_asm); (case k2 => k_asm); (case k3 => k_asm); (case k4 => k_asm); (case k5 => k_asm); (case kK => first | exact rfl | assumption); (case kd => ktr_room); (case ku => ktr_units); intro t9 h9 tk9 F9 N9; (try dsimp only)))
local macro_rules | `(tactic| walk_at "eval ListComp") => `(tactic| (refine stopHere ?_))
local macro_rules | `(tactic| walk_at "compareOp NotIn") => `(tactic| (refine stopHere ?_))
local macro_rules | `(tactic| walk_at "call builtin:list.append") => `(tactic| (refine stopHere ?_))
theorem seg1 {w : World} (l : Addr) (vs : List Value) (ns : List Int) (nl : Addr) (tl : List (Addr × Obj)) (hnl : ∀ q ∈ tl, q.1 < nl) : Seg w (lawSt w 1) (GS l vs ns) (fun m news => m = (fun y => if y = Str.ofString "names" then some (.ref nl) else mS l y) ∧ news = (nl, lobj [] 0) :: tl)
    (fun m news => ∃ u v nvs k, m = m1 l nl u v ∧ news = (nl, lobj nvs k) :: tl ∧ StrsAre nvs (namesS (zsS ns))) := by
  walk_at "m.introSeg"
  obtain ⟨rfl, rfl⟩ := hPre
  obtain ⟨hL, hI, hz⟩ := hG
  k_steps
  rename_i D1 ws1 h1 I1 c1 c2 l1 lt h2 l2 D2 ws2 h3 F3 N3 I2 c3 c4 l3
  unfold Stop
  refine sl_dropI (k := (List.take 8 ns).length) (vs := [_, _, _, _, _]) (zs := [18, 1025, 49, 0, 5]) F3 N3 (.tail _ (.head _)) (.cons _ _ (.cons _ _ (.cons _ _ (.cons _ _ (.cons _ _ .nil))))) (by decide) (by with_unfolding_all rfl) ?_
  intro D4 ws4 h4 I4 F4 N4 l4
  clear F3 N3
  k_steps
  have hzb := zsS_bnd ns
  rename_i rl rvs h5 F5 N5 I5 l5
  change IntsAre rvs (zsS ns) at I5
  unfold Stop
  have N6 : News h₀ L h5 ([(nl, lobj [] 0)] ++ ((rl, lobj rvs 0) :: tl)) := news_sub N5 fun p hp => by
    rcases List.mem_cons.mp hp with rfl | hp
    · exact .tail _ (.tail _ (.tail _ (.tail _ (.tail _ (.head _)))))
    · rcases List.mem_cons.mp hp with rfl | hp
      · exact .head _
      · exact .tail _ (.tail _ (.tail _ (.tail _ (.tail _ (.tail _ hp)))))
  have hrl : nl < rl := l5.2.2.2.2.1
  clear N5 I1 I2 I4 l5 l4 l3 l2 l1
  refine loopH (hs₀ := [(nl, lobj [] 0)]) (tl := (rl, lobj rvs 0) :: tl) (l := rl) (vs := rvs) (nl := 0) (fun i m hs g => AllBare g ∧ ∃ u v nvs k, m = m1 l nl u v ∧ hs = [(nl, lobj nvs k)] ∧ StrsAre nvs (namesS ((zsS ns).take i))) rfl rfl rfl F5 N6 (.head _) ?_ ?_ ?_ ?_
  · intro p hp
    simp only [List.map_cons, List.map_nil, List.mem_singleton]
    rcases List.mem_cons.mp hp with rfl | hp
    · exact Nat.ne_of_gt hrl
    · exact Nat.ne_of_lt (hnl p hp)
  · exact ⟨hAB, none, none, [], 0, set0 (m₀ := fun y => if y = Str.ofString "names" then some (.ref nl) else mS l y) rfl rfl, rfl, .nil⟩
  · rintro i v m₁ hs s₁ rest hv ⟨hg, u, v', nvs, k, rfl, rfl, hss⟩ hsep hsub hos hdr F N
    clear F5 N6
    obtain ⟨z, tz, rfl, hzi⟩ := ints_item I5 i v hv
    dsimp only [List.cons_append, List.nil_append] at N
    dsimp only at hos hdr
    change News h₀ L s₁.heap _ at N
    change Fr h₀ L s₁.heap _ at F
    have hzl := nameS_len (z.fmod 2048)
    have hnl100 : ∀ y ∈ namesS ((zsS ns).take i), y.length ≤ 100 := namesS_mem nameS_len _ [] (fun y hy => by cases hy)
    have hnlen : (namesS ((zsS ns).take i)).length ≤ 13 := by
      have := namesS_len ((zsS ns).take i) []
      rw [List.length_take] at this
      simp only [namesS, List.length_nil] at this ⊢
      omega
    k_steps
    rename_i t9 h9 tk9 h8 F8 N8 tk8
    unfold Stop
    refine LCg.ListComp_U (F₀ := F8) (by with_unfolding_all rfl) (by decide) (by rfl) (by decide) (by rfl) ?_
    walk1
    refine LCg.CompSrc.ledger rfl F8 N8 (.head _) (by rw [List.size_toArray, hss.len_eq]; simp only [sizeLine]; omega) ?_
    intro g6
    refine restU Txt.lower hss ?_ ?_
    · intro y1 ty I oI C oC D m₂ ys h tk8 E' hy1 hC hx1 F N off ne
      clear F8 N8
      have hyl := hnl100 y1 hy1
      k_steps
      exact LCg.CompEnd.intro F N _ (fun p hp => hp) off (.inr ⟨_, .head _, rfl, _, rfl⟩) ⟨rfl, _, rfl⟩
    · intro ys hys
      unfold LCg.FinE
      intro D h7 tk7 F7 N7 off7
      clear F8 N8
      (try dsimp only)
      have hfm : z.fmod 2048 = z % 2048 := Int.fmod_eq_emod_of_nonneg z (by decide)
      have hsep1 : ∀ p ∈ rest, p.1 ≠ nl := fun p hp => by simpa using hsep p hp
      k_steps
      · rename_i hany
        refine ⟨_, [(nl, lobj nvs k)], hos, hdr, ⟨hg, _, _, nvs, k, set2, rfl, ?_⟩, hsep, F7, news_tail N7⟩
        rw [namesS_snoc _ _ hzi]
        unfold namesStep
        rw [← hfm, if_pos (by obtain ⟨y, hy, e⟩ := List.any_eq_true.mp hany; rw [← beq_iff_eq.mp e]; exact hy)]
        exact hss
      · rename_i hany
        unfold Stop
        refine app_drop (us := nvs) (k := k) (tl := rest) F7 N7 (fun p hp => .tail _ hp) hsep1 (by rw [hss.len_eq]; omega) ?_
        intro h10 F10 N10
        clear F7 N7
        k_steps
        refine ⟨_, [(nl, lobj (nvs ++ [Value.str (nameS (z.fmod 2048)) t9]) (k + 1))], hos, hdr, ⟨hg, _, _, _, _, set2, rfl, ?_⟩, ?_, F10, N10⟩
        · rw [namesS_snoc _ _ hzi]
          unfold namesStep
          rw [← hfm, if_neg (fun hm => by
            have := List.any_eq_false.mp hany _ hm
            exact this (beq_iff_eq.mpr rfl))]
          exact hss.append' (.cons _ _ .nil)
        · exact fun p hp => by simpa using hsep1 p hp
  · rintro m₁ hs s₁ ⟨hg, u, v', nvs, k, rfl, rfl, hss⟩ hos hdr hsep F N
    rw [I5.length, List.take_of_length_le (Nat.le_refl _)] at hss
    exact hret _ _ _ ⟨u, v', nvs, k, rfl, rfl, hss⟩ F (news_sub N fun p hp => by
      rcases List.mem_cons.mp hp with rfl | hp
      · exact .head _
      · exact .tail _ (.tail _ hp)) hg hos hdr
end
section
local macro_rules | `(tactic| walk_at "zz") => `(tactic| fail)
theorem forget1_30 {prog : Program} {w : World} {A : Around} {Q : Bool → Shared → Prop} {E : Value → Shared → Prop} {s : Shared} (h : wpAny (model prog w) A (truthy (.bool true)) Q E s) : wpAny (model prog w) A (truthy (.bool true)) Q E s := by
  w_top off
  first | (walk1; fail) | exact h
local macro_rules | `(tactic| walk_at "zz") => `(tactic| fail)
theorem forget2_30 {prog : Program} {w : World} {A : Around} {Q : Bool → Shared → Prop} {E : Value → Shared → Prop} {s : Shared} (h : wpAny (model prog w) A (truthy (.bool true)) Q E s) : wpAny (model prog w) A (truthy (.bool true)) Q E s := by
  first | (walk1; fail) | exact h
end
noncomputable section
open Bi
section
variable {prog : Program} {w : World} {A : Around} {E : Value → Shared → Prop} {s : Shared} {h₀ : Heap} {L : Addr} {m : Str → Option Value} {news : List (Addr × Obj)}
theorem sorted_all {l : Addr} {vs : List Value} {n : Nat} {ss : List Str} {f : Addr} {g : Str → List Str} {Q : Value → Shared → Prop} (F : Fr h₀ L s.heap m) (N : News h₀ L s.heap news) (hl : (l, lobj vs n) ∈ news) (hss : StrsAre vs ss) (h1 : 1 ≤ ss.length) (h64 : ss.length < 64) (hu : A.in1.in1.units < cLine)
    (KO : KeyOk prog w A.in1.in1 h₀ L m (.ref f) g ss) (O : LtOk ss.length (ltG g ss))
    (hret : ∀ D us c ts h' tk', StrsAre us ts → ts.Perm ss → ts.Pairwise (fun a b => ltS (g a) (g b) = true) → Fr h₀ L h' m → News h₀ L h' ((D, lobj us c) :: news) → (∀ p ∈ news, p.1 < D) → Q (.ref D) { s with heap := h', toks := tk' }) :
    wpAny (model prog w) A (call (.builtin "sorted") [.ref l] [(Str.ofString "key", .ref f)]) Q E s := by
  by_cases h2 : 2 ≤ ss.length
  · exact sorted_many F N hl hss h2 h64 hu KO O hret
  · exact sorted_one F N hl hss (by omega) KO hret
end
abbrev m2 (l nl ol : Addr) (u v : Option Value) : Str → Option Value := fun y => if y = Str.ofString "order" then some (.ref ol) else m1 l nl u v y
local macro_rules | `(tactic| walk_at "Stop") => `(tactic| (fail "stop"))
local macro_rules | `(tactic| walk_at "call builtin:sorted") => `(tactic| (refine stopHere ?_))
theorem seg2 {w : World} (l : Addr) (vs : List Value) (ns : List Int) (nl : Addr) (ss : List Str) (tl : List (Addr × Obj)) (hnl : ∀ q ∈ tl, q.1 < nl) (h1 : 1 ≤ ss.length) (h13 : ss.length ≤ 13) (hlen : ∀ x ∈ ss, x.length ≤ 100) (O : LtOk ss.length (ltG behindS ss)) :
    Seg w (lawSt w 2) (GS l vs ns) (fun m news => ∃ u v nvs k, m = m1 l nl u v ∧ news = (nl, lobj nvs k) :: tl ∧ StrsAre nvs ss)
    (fun m news => ∃ u v nvs k ol ovs c os, m = m2 l nl ol u v ∧ news = (ol, lobj ovs c) :: (nl, lobj nvs k) :: tl ∧ StrsAre nvs ss ∧ StrsAre ovs os ∧ os.Perm ss ∧ os.Pairwise (fun a b => ltS (behindS a) (behindS b) = true) ∧ nl < ol) := by
  walk_at "m.introSeg"
  obtain ⟨u, v, nvs, k, rfl, rfl, hss⟩ := hPre
  k_steps
  unfold Stop
  refine sorted_all hF hN (.head _) hss h1 (by omega) (by show un + 1 + 1 < cLine; omega) ?_ O ?_
  · intro x t news s Q hx F N hq
    refine' behind_call news x t (hlen x hx) mean mg mb loose dp (un + 2) gd (Str.ofString "law") _ fa cdv [] outer A₀ base h₀ L _ s Q (fun _ _ => False) hB F hX N hT rfl ?_ ?_ hq
    · omega
    · omega
  · intro D us c ts h' tk' hus hp hpw F N lD
    k_steps
    exact hret _ _ _ ⟨u, v, nvs, k, _, us, c, ts, rfl, rfl, hss, hus, hp, hpw, lD _ (.head _)⟩ (by k_asm) (by k_asm) hAB rfl rfl
abbrev P2 (l nl : Addr) (ss : List Str) (tl : List (Addr × Obj)) (m : Str → Option Value) (news : List (Addr × Obj)) : Prop :=
  ∃ u v nvs k ol ovs c os, m = m2 l nl ol u v ∧ news = (ol, lobj ovs c) :: (nl, lobj nvs k) :: tl ∧ StrsAre nvs ss ∧ StrsAre ovs os ∧ os.Perm ss ∧ os.Pairwise (fun a b => ltS (behindS a) (behindS b) = true) ∧ nl < ol
abbrev m3 (l nl ol : Addr) (u v : Option Value) (i : Int) (t : Tok) : Str → Option Value := fun y => if y = Str.ofString "first" then some (.int i t) else m2 l nl ol u v y
def firstS (ns : List Int) : Int := (ns.take 8).sum % 4
abbrev P3 (l nl : Addr) (ns : List Int) (ss : List Str) (tl : List (Addr × Obj)) (m : Str → Option Value) (news : List (Addr × Obj)) : Prop :=
  ∃ u v nvs k ol ovs c os t, m = m3 l nl ol u v (firstS ns) t ∧ news = (ol, lobj ovs c) :: (nl, lobj nvs k) :: tl ∧ StrsAre nvs ss ∧ StrsAre ovs os ∧ os.Perm ss ∧ os.Pairwise (fun a b => ltS (behindS a) (behindS b) = true) ∧ nl < ol
theorem seg3 {w : World} (l : Addr) (vs : List Value) (ns : List Int) (nl : Addr) (ss : List Str) (tl : List (Addr × Obj)) :
    Seg w (lawSt w 3) (GS l vs ns) (P2 l nl ss tl) (P3 l nl ns ss tl) := by
  walk_at "m.introSeg"
  obtain ⟨u, v, nvs, k, ol, ovs, c, os, rfl, rfl, hss, hos, hp, hpw, ho⟩ := hPre
  obtain ⟨hL, hI, hz⟩ := hG
  k_steps
  rename_i F9 N9
  have hf : (List.take 8 ns).sum.fmod 4 = firstS ns := Int.fmod_eq_emod_of_nonneg _ (by decide)
  rw [hf] at F9
  exact hret _ _ _ ⟨u, v, nvs, k, ol, ovs, c, os, _, rfl, rfl, hss, hos, hp, hpw, ho⟩ F9 (news_tail N9) hAB rfl rfl
abbrev m4 (l nl ol p : Addr) (u v : Option Value) (i : Int) (t : Tok) : Str → Option Value := fun y => if y = Str.ofString "pile" then some (.ref p) else m3 l nl ol u v i t y
abbrev P4 (l nl : Addr) (ns : List Int) (ss : List Str) (tl : List (Addr × Obj)) (m : Str → Option Value) (news : List (Addr × Obj)) : Prop :=
  ∃ u v nvs k ol ovs c os t p d n es nd, m = m4 l nl ol p u v (firstS ns) t ∧ news = (p, pobj d [] n) :: (d, dictOf es nd) :: (ol, lobj ovs c) :: (nl, lobj nvs k) :: tl ∧ StrsAre nvs ss ∧ StrsAre ovs os ∧ os.Perm ss ∧ os.Pairwise (fun a b => ltS (behindS a) (behindS b) = true) ∧ PileD es (firstS ns) ∧ nl < ol ∧ ol < d ∧ d < p
local macro_rules | `(tactic| walk_at "call ref") => `(tactic| (refine stopHere ?_))
theorem seg4 {w : World} (l : Addr) (vs : List Value) (ns : List Int) (nl : Addr) (ss : List Str) (tl : List (Addr × Obj)) :
    Seg w (lawSt w 4) (GS l vs ns) (P3 l nl ns ss tl) (P4 l nl ns ss tl) := by
  walk_at "m.introSeg"
  obtain ⟨u, v, nvs, k, ol, ovs, c, os, t, rfl, rfl, hss, hos, hp, hpw, ho⟩ := hPre
  have hb : 0 ≤ firstS ns ∧ firstS ns < 1000 := by unfold firstS; omega
  k_steps
  unfold Stop
  refine' make_call _ (firstS ns) t hb.1 hb.2 mean mg mb loose dp un gd (Str.ofString "law") _ fa cdv [] outer A₀ base h₀ L _ s _ _ hB hF hX hN hT rfl ?_ ?_ ?_
  · omega
  · omega
  rintro r news' h' tk' ⟨p, d, es, nd, n, rfl, rfl, hPD, hld, hdp'⟩ F N
  k_steps
  exact hret _ _ _ ⟨u, v, nvs, k, ol, ovs, c, os, t, p, d, n, es, nd, rfl, rfl, hss, hos, hp, hpw, hPD, ho, hld _ (.head _), hdp'⟩ (by k_asm) (by k_asm) hAB rfl rfl
abbrev m5 (l nl ol p fl : Addr) (u v : Option Value) (i : Int) (t : Tok) : Str → Option Value := fun y => if y = Str.ofString "off" then some (.ref fl) else m4 l nl ol p u v i t y
abbrev P5 (l nl : Addr) (ns : List Int) (ss : List Str) (tl : List (Addr × Obj)) (m : Str → Option Value) (news : List (Addr × Obj)) : Prop :=
  ∃ u v nvs k ol ovs c os t p d n es nd fl, m = m5 l nl ol p fl u v (firstS ns) t ∧ news = (fl, lobj [] 0) :: (p, pobj d [] n) :: (d, dictOf es nd) :: (ol, lobj ovs c) :: (nl, lobj nvs k) :: tl ∧ StrsAre nvs ss ∧ StrsAre ovs os ∧ os.Perm ss ∧ os.Pairwise (fun a b => ltS (behindS a) (behindS b) = true) ∧ PileD es (firstS ns) ∧ nl < ol ∧ ol < d ∧ d < p ∧ p < fl
theorem seg5 {w : World} (l : Addr) (vs : List Value) (ns : List Int) (nl : Addr) (ss : List Str) (tl : List (Addr × Obj)) :
    Seg w (lawSt w 5) (GS l vs ns) (P4 l nl ns ss tl) (P5 l nl ns ss tl) := by
  walk_at "m.introSeg"
  obtain ⟨u, v, nvs, k, ol, ovs, c, os, t, p, d, n, es, nd, rfl, rfl, hss, hos, hp, hpw, hPD, ho, h1, h2⟩ := hPre
  k_steps
  exact hret _ _ _ ⟨u, v, nvs, k, ol, ovs, c, os, t, p, d, n, es, nd, _, rfl, rfl, hss, hos, hp, hpw, hPD, ho, h1, h2, (by first | exact (by assumption : _ ∧ _).1 | exact (by assumption : ∀ q ∈ _, q.1 < _) _ (.head _))⟩ (by k_asm) (by k_asm) hAB rfl rfl
end
section
local macro_rules | `(tactic| walk_at "zz") => `(tactic| fail)
theorem forget1_31 {prog : Program} {w : World} {A : Around} {Q : Bool → Shared → Prop} {E : Value → Shared → Prop} {s : Shared} (h : wpAny (model prog w) A (truthy (.bool true)) Q E s) : wpAny (model prog w) A (truthy (.bool true)) Q E s := by
  w_top off
  first | (walk1; fail) | exact h
local macro_rules | `(tactic| walk_at "zz") => `(tactic| fail)
theorem forget2_31 {prog : Program} {w : World} {A : Around} {Q : Bool → Shared → Prop} {E : Value → Shared → Prop} {s : Shared} (h : wpAny (model prog w) A (truthy (.bool true)) Q E s) : wpAny (model prog w) A (truthy (.bool true)) Q E s := by
  first | (walk1; fail) | exact h
end
noncomputable section
open Bi
abbrev tups (tvs : List (Addr × Value × Value)) : List (Addr × Obj) := tvs.map fun t => (t.1, tobj t.2.1 t.2.2)
abbrev refs (tvs : List (Addr × Value × Value)) : List Value := tvs.map fun t => .ref t.1
abbrev HD (fl : Addr) (fvs : List Value) (kf : Nat) (p d : Addr) (tvs : List (Addr × Value × Value)) (n : Nat) (ps1 ps2 : Array Value) : List (Addr × Obj) :=
  (fl, lobj fvs kf) :: (p, pobj d (refs tvs) n) :: (113, tabO ps1) :: (120, tabO ps2) :: tups tvs
def Sep (hs rest : List (Addr × Obj)) : Prop := (hs.map (·.1)).Nodup ∧ ∀ q ∈ rest, q.1 ∉ hs.map (·.1)
structure Names (os : List Str) : Prop where
  len : os.length ≤ 13
  gd : ∀ o ∈ os, Gd o
  l50 : ∀ o ∈ os, o.length ≤ 50
  fr : ∀ o ∈ os, ∃ b, foundRe (Txt.lower o) = some b
  fd : ∀ o ∈ os, ∃ b, foundRe (Txt.lower (Str.ofString "." ++ o)) = some b
  hosts : ∀ o ∈ os, Hosts 4 (Txt.lower o) = true
  ok : ∀ o ∈ os, PyData.strOk o = true
def mtch (x m : Str) : Bool := udmS x (Str.ofString "." ++ m) ((foundRe (Txt.lower x)).getD false) ((foundRe (Txt.lower (Str.ofString "." ++ m))).getD false)
abbrev m6 (l nl ol p fl : Addr) (u v : Option Value) (i : Int) (t : Tok) (a b c : Option Value) (e : Value) : Str → Option Value := fun y =>
  if y = Str.ofString "text" then a else if y = Str.ofString "chain" then b else if y = Str.ofString "rule" then c else if y = Str.ofString "name" then some e else m5 l nl ol p fl u v i t y
structure Cx where
  (l nl ol p d fl : Addr) (u v : Option Value) (i : Int) (t : Tok) (nvs ovs : List Value) (kn ko : Nat) (es : List DictEntry) (nd : Nat) (ss os : List Str)
structure CxOk (c : Cx) (rest : List (Addr × Obj)) : Prop where
  nm : Names c.os
  pd : PileD c.es c.i
  ho : StrsAre c.ovs c.os
  hn : StrsAre c.nvs c.ss
  rd : (c.d, dictOf c.es c.nd) ∈ rest
  ro : (c.ol, lobj c.ovs c.ko) ∈ rest
structure PileSt (c : Cx) (x : Str) (tx : Tok) (rule : Option Value) (offs ns : List Str) (m : Str → Option Value) (extra rest news : List (Addr × Obj)) : Prop where
  ex : ∃ a b fvs kf tvs n ps1 ps2, m = m6 c.l c.nl c.ol c.p c.fl c.u c.v c.i c.t a b rule (.str x tx) ∧ news = HD c.fl fvs kf c.p c.d tvs n ps1 ps2 ++ (extra ++ rest) ∧ StrsAre fvs offs ∧ Pairs tvs ns ∧ tabF posLen ps1 ∧ tabF posStr ps2 ∧
    Sep (HD c.fl fvs kf c.p c.d tvs n ps1 ps2) (extra ++ rest)
  mem : ∀ y ∈ ns, y ∈ c.os
  olen : offs.length + ns.length ≤ 200
  plen : ns.length ≤ 20
def tw : Option Str → Str × Str
  | none => (Str.ofString "", Str.ofString "")
  | some y => (Str.ofString ".", y)
def RuleIs (r : Addr) (cur : Option Str) (extra : List (Addr × Obj)) : Prop := ∃ t1 t2, (r, tobj (.str (tw cur).1 t1) (.str (tw cur).2 t2)) ∈ extra
theorem pairs_nil {tvs : List (Addr × Value × Value)} (h : Pairs tvs []) : tvs = [] := List.length_eq_zero_iff.mp h.1
theorem pairs_snoc {tvs : List (Addr × Value × Value)} {ns : List Str} {y : Str} (h : Pairs tvs (ns ++ [y])) : ∃ tvs' t tx ty, tvs = tvs' ++ [t] ∧ Pairs tvs' ns ∧ t.2.1 = .str (Str.ofString ".") tx ∧ t.2.2 = .str y ty := by
  have hl := h.1
  rw [List.length_append, List.length_singleton] at hl
  have hne : tvs ≠ [] := by intro e; rw [e] at hl; simp at hl
  have e : tvs.dropLast ++ [tvs.getLast hne] = tvs := List.dropLast_concat_getLast hne
  have hdl : tvs.dropLast.length = ns.length := by rw [List.length_dropLast]; omega
  have hlast : tvs[ns.length]? = some (tvs.getLast hne) := by
    rw [List.getLast_eq_getElem, List.getElem?_eq_getElem (by omega)]; congr 2; omega
  obtain ⟨tx, ty, h1, h2⟩ := h.2 _ _ hlast
  refine ⟨tvs.dropLast, tvs.getLast hne, tx, ty, e.symm, ⟨hdl, fun i t hi => ?_⟩, h1, ?_⟩
  · have hlt : i < ns.length := by rw [← hdl]; exact (List.getElem?_eq_some_iff.mp hi).1
    obtain ⟨tx, ty, h1, h2⟩ := h.2 i t (by rw [← e, List.getElem?_append_left (by rw [hdl]; exact hlt)]; exact hi)
    refine ⟨tx, ty, h1, ?_⟩
    rw [h2, List.getD_eq_getElem?_getD, List.getD_eq_getElem?_getD, List.getElem?_append_left hlt]
  · rw [h2, List.getD_eq_getElem?_getD]; simp
theorem pairs_push {tvs : List (Addr × Value × Value)} {ns : List Str} {y : Str} {x : Addr} {tx ty : Tok} (h : Pairs tvs ns) : Pairs (tvs ++ [(x, .str (Str.ofString ".") tx, .str y ty)]) (ns ++ [y]) := by
  refine ⟨by rw [List.length_append, List.length_append, h.1]; rfl, fun i t hi => ?_⟩
  by_cases hlt : i < tvs.length
  · rw [List.getElem?_append_left hlt] at hi
    obtain ⟨tx, ty, h1, h2⟩ := h.2 i t hi
    refine ⟨tx, ty, h1, ?_⟩
    rw [h2, List.getD_eq_getElem?_getD, List.getD_eq_getElem?_getD, List.getElem?_append_left (by rw [← h.1]; exact hlt)]
  · have hi2 : i = tvs.length := by
      have := (List.getElem?_eq_some_iff.mp hi).1
      simp at this; omega
    subst hi2
    simp at hi
    subst hi
    refine ⟨tx, ty, rfl, ?_⟩
    rw [h.1, List.getD_eq_getElem?_getD]; simp
theorem tups_snoc (tvs : List (Addr × Value × Value)) (t : Addr × Value × Value) : tups (tvs ++ [t]) = tups tvs ++ [(t.1, tobj t.2.1 t.2.2)] := by simp [tups]
theorem refs_snoc (tvs : List (Addr × Value × Value)) (t : Addr × Value × Value) : refs (tvs ++ [t]) = refs tvs ++ [.ref t.1] := by simp [refs]
theorem addr_hd (fl : Addr) (fvs : List Value) (kf : Nat) (p d : Addr) (tvs : List (Addr × Value × Value)) (n : Nat) (ps1 ps2 : Array Value) : (HD fl fvs kf p d tvs n ps1 ps2).map (·.1) = fl :: p :: 113 :: 120 :: tvs.map (·.1) := by
  simp [HD, tups, Function.comp_def]
theorem sep_iff {fl : Addr} {fvs : List Value} {kf : Nat} {p d : Addr} {tvs : List (Addr × Value × Value)} {n : Nat} {ps1 ps2 : Array Value} {rest : List (Addr × Obj)} :
    Sep (HD fl fvs kf p d tvs n ps1 ps2) rest ↔ (fl :: p :: 113 :: 120 :: tvs.map (·.1)).Nodup ∧ ∀ q ∈ rest, q.1 ∉ fl :: p :: 113 :: 120 :: tvs.map (·.1) := by
  unfold Sep; rw [addr_hd]
theorem pop_step {w : World} (c : Cx) (x : Str) (tx : Tok) (rule : Option Value) (offs ns : List Str) (m : Str → Option Value) (extra rest news : List (Addr × Obj)) (ok : CxOk c rest) (st : PileSt c x tx rule offs ns m extra rest news) :
    ClG 2 w 111 news [.ref c.p] (fun r news' => ∃ ra extra', r = .ref ra ∧ PileSt c x tx rule offs ns.dropLast m extra' rest news' ∧ RuleIs ra ns.getLast? extra') := by
  obtain ⟨⟨a, b, fvs, kf, tvs, n, ps1, ps2, hm, hnews, hf, hpr, h1, h2, hsep⟩, hmem, hol, hpl⟩ := st
  rw [sep_iff] at hsep
  have hrd : (c.d, dictOf c.es c.nd) ∈ news := by rw [hnews]; exact List.mem_append_right _ (List.mem_append_right _ ok.rd)
  intro mean mg mb loose dp un gd cn cs a' ccd cl outer A₀ base h₀ L m' s Q E hB hF hX hN hT hk hdp hun hret
  rcases List.eq_nil_or_concat ns with rfl | ⟨ns', y, hy⟩
  · have e := pairs_nil hpr
    subst e
    refine popE_call news c.p c.d n c.es c.nd (by rw [hnews]; exact .tail _ (.head _)) hrd ok.pd.m1 mean mg mb loose dp un gd cn cs a' ccd cl outer A₀ base h₀ L m' s Q E hB hF hX hN hT hk hdp hun fun r news' h' tk' hP F N => ?_
    obtain ⟨ra, t1, t2, rfl, rfl, hlt⟩ := hP
    refine hret _ (HD c.fl fvs kf c.p c.d [] n ps1 ps2 ++ (((ra, tobj (.str (Str.ofString "") t1) (.str (Str.ofString "") t2)) :: extra) ++ rest)) h' tk' ⟨ra, (ra, tobj (.str (Str.ofString "") t1) (.str (Str.ofString "") t2)) :: extra, rfl, ⟨⟨a, b, fvs, kf, [], n, ps1, ps2, hm, rfl, hf, hpr, h1, h2, sep_iff.mpr ⟨hsep.1, ?_⟩⟩, hmem, hol, hpl⟩, ⟨t1, t2, .head _⟩⟩ F (news_sub N fun q hq => ?_)
    · intro q hq
      rcases List.mem_cons.mp hq with rfl | hq
      · intro hm
        rw [← addr_hd c.fl fvs kf c.p c.d [] n ps1 ps2] at hm
        obtain ⟨q, hq, e⟩ := List.mem_map.mp hm
        exact Nat.ne_of_lt (hlt q (by rw [hnews]; exact List.mem_append_left _ hq)) e
      · exact hsep.2 q hq
    · rcases List.mem_append.mp hq with hq | hq
      · exact .tail _ (by rw [hnews]; exact List.mem_append_left _ hq)
      · rcases List.mem_cons.mp hq with rfl | hq
        · exact .head _
        · exact .tail _ (by rw [hnews]; exact List.mem_append_right _ hq)
  · have hy' : ns = ns' ++ [y] := by simpa using hy
    subst hy'
    obtain ⟨tvs', t, t1, t2, rfl, hpr', e1, e2⟩ := pairs_snoc hpr
    rw [List.length_append, List.length_singleton] at hol hpl
    have hlen := hpr'.1
    have hnd : ((113 : Nat) ≠ c.p ∧ (120 : Nat) ≠ c.p ∧ c.fl ≠ c.p) ∧ (∀ q ∈ tvs', q.1 ≠ c.p) ∧ t.1 ≠ c.p ∧ (c.fl :: c.p :: 113 :: 120 :: tvs'.map (·.1)).Nodup ∧ t.1 ∉ (c.fl :: c.p :: 113 :: 120 :: tvs'.map (·.1)) := by
      have h := hsep.1
      simp only [List.map_append, List.map_cons, List.map_nil, List.nodup_cons, List.mem_cons, List.mem_append, List.mem_map, not_or, List.nodup_append, List.not_mem_nil, or_false] at h ⊢
      grind
    refine popN_call news ((c.fl, lobj fvs kf) :: (113, tabO ps1) :: (120, tabO ps2) :: (tups tvs' ++ ((t.1, tobj t.2.1 t.2.2) :: extra ++ rest))) c.p c.d (refs tvs') (.ref t.1) n c.es c.nd ?_ ?_ (by simp [refs]; omega) ?_ hrd ok.pd.m1 mean mg mb loose dp un gd cn cs a' ccd cl outer A₀ base h₀ L m' s Q E hB hF hX hN hT hk hdp hun fun r news' h' tk' hP F N => ?_
    · intro q hq
      rw [hnews, HD, tups_snoc, refs_snoc]
      simp only [List.mem_cons, List.mem_append, List.cons_append, List.not_mem_nil, or_false] at hq ⊢
      grind
    · intro q hq
      simp only [List.mem_cons, List.mem_append, List.cons_append, List.mem_map] at hq
      rcases hq with rfl | rfl | rfl | ⟨q', hq', rfl⟩ | rfl | hq | hq
      · exact hnd.1.2.2
      · exact hnd.1.1
      · exact hnd.1.2.1
      · exact hnd.2.1 q' hq'
      · exact hnd.2.2.1
      · exact fun e => hsep.2 q (List.mem_append_left _ hq) (by rw [e]; exact .tail _ (.head _))
      · exact fun e => hsep.2 q (List.mem_append_right _ hq) (by rw [e]; exact .tail _ (.head _))
    · rw [hnews, HD, refs_snoc]; exact .tail _ (.head _)
    · obtain ⟨n', rfl, rfl⟩ := hP
      refine hret _ (HD c.fl fvs kf c.p c.d tvs' n' ps1 ps2 ++ (((t.1, tobj t.2.1 t.2.2) :: extra) ++ rest)) h' tk' ⟨t.1, (t.1, tobj t.2.1 t.2.2) :: extra, rfl, ⟨⟨a, b, fvs, kf, tvs', n', ps1, ps2, hm, rfl, hf, by rw [List.dropLast_concat]; exact hpr', h1, h2, sep_iff.mpr ⟨hnd.2.2.2.1, ?_⟩⟩, ?_, ?_, ?_⟩, ?_⟩ F (news_sub N fun q hq => ?_)
      · intro q hq
        rcases List.mem_cons.mp hq with rfl | hq
        · exact hnd.2.2.2.2
        · intro hm
          refine hsep.2 q hq ?_
          simp only [List.map_append, List.mem_cons, List.mem_append] at hm ⊢
          grind
      · rw [List.dropLast_concat]; exact fun z hz => hmem z (List.mem_append_left _ hz)
      · rw [List.dropLast_concat]; omega
      · rw [List.dropLast_concat]; omega
      · rw [List.getLast?_concat]
        refine ⟨t1, t2, ?_⟩
        rw [e1, e2]
        exact .head _
      · simp only [HD, List.mem_cons, List.mem_append, List.cons_append] at hq ⊢
        grind
theorem push_step {w : World} (c : Cx) (x : Str) (tx : Tok) (rule : Option Value) (offs ns : List Str) (y : Str) (t1 t2 : Tok) (m : Str → Option Value) (extra rest news : List (Addr × Obj)) (ok : CxOk c rest) (st : PileSt c x tx rule offs ns m extra rest news) (hy : y ∈ c.os) (hl : offs.length + ns.length < 200) (hl2 : ns.length < 20) :
    ClG 1 w 95 news [.ref c.p, .str (Str.ofString ".") t1, .str y t2] (fun r news' => r = .none ∧ PileSt c x tx rule offs (ns ++ [y]) m extra rest news') := by
  obtain ⟨⟨a, b, fvs, kf, tvs, n, ps1, ps2, hm, hnews, hf, hpr, h1, h2, hsep⟩, hmem, hol, hpl⟩ := st
  rw [sep_iff] at hsep
  have hrd : (c.d, dictOf c.es c.nd) ∈ news := by rw [hnews]; exact List.mem_append_right _ (List.mem_append_right _ ok.rd)
  have hlen := hpr.1
  have hnd : ((113 : Nat) ≠ c.p ∧ (120 : Nat) ≠ c.p ∧ c.fl ≠ c.p) ∧ (∀ q ∈ tvs, q.1 ≠ c.p) := by
    have h := hsep.1
    simp only [List.nodup_cons, List.mem_cons, List.mem_map, not_or] at h ⊢
    grind
  intro mean mg mb loose dp un gd cn cs a' ccd cl outer A₀ base h₀ L m' s Q E hB hF hX hN hT hk hdp hun hret
  refine push_call news ((c.fl, lobj fvs kf) :: (113, tabO ps1) :: (120, tabO ps2) :: (tups tvs ++ (extra ++ rest))) c.p c.d (refs tvs) (.str (Str.ofString ".") t1) (.str y t2) n c.es c.nd ?_ ?_ (by simp [refs]; omega) (by rw [hnews]; exact .tail _ (.head _)) hrd ok.pd.m2 mean mg mb loose dp un gd cn cs a' ccd cl outer A₀ base h₀ L m' s Q E hB hF hX hN hT hk hdp hun fun r news' h' tk' hP F N => ?_
  · intro q hq
    rw [hnews]
    simp only [HD, List.mem_cons, List.mem_append, List.cons_append] at hq ⊢
    grind
  · intro q hq
    simp only [List.mem_cons, List.mem_append, List.mem_map] at hq
    rcases hq with rfl | rfl | rfl | ⟨q', hq', rfl⟩ | hq | hq
    · exact hnd.1.2.2
    · exact hnd.1.1
    · exact hnd.1.2.1
    · exact hnd.2 q' hq'
    · exact fun e => hsep.2 q (List.mem_append_left _ hq) (by rw [e]; exact .tail _ (.head _))
    · exact fun e => hsep.2 q (List.mem_append_right _ hq) (by rw [e]; exact .tail _ (.head _))
  · obtain ⟨ra, n', rfl, rfl, hlt⟩ := hP
    have hnew : ra ∉ c.fl :: c.p :: 113 :: 120 :: tvs.map (·.1) := by
      intro hm
      rw [← addr_hd c.fl fvs kf c.p c.d tvs n ps1 ps2] at hm
      obtain ⟨q, hq, e⟩ := List.mem_map.mp hm
      exact Nat.ne_of_lt (hlt q (by rw [hnews]; exact List.mem_append_left _ hq)) e
    refine hret _ (HD c.fl fvs kf c.p c.d (tvs ++ [(ra, .str (Str.ofString ".") t1, .str y t2)]) n' ps1 ps2 ++ (extra ++ rest)) h' tk' ⟨rfl, ⟨⟨a, b, fvs, kf, _, n', ps1, ps2, hm, rfl, hf, pairs_push hpr, h1, h2, sep_iff.mpr ⟨?_, ?_⟩⟩, ?_, ?_, ?_⟩⟩ F (news_sub N fun q hq => ?_)
    · have h := hsep.1
      simp only [List.map_append, List.map_cons, List.map_nil, List.nodup_cons, List.mem_cons, List.mem_append, List.mem_map, not_or, List.nodup_append, List.not_mem_nil, or_false] at h hnew ⊢
      grind
    · intro q hq hm
      have h3 := hsep.2 q hq
      have h4 : q.1 ≠ ra := Nat.ne_of_lt (hlt q (by rw [hnews]; exact List.mem_append_right _ hq))
      simp only [List.map_append, List.map_cons, List.map_nil, List.mem_cons, List.mem_append, List.not_mem_nil, or_false] at hm h3
      grind
    · intro z hz
      rcases List.mem_append.mp hz with hz | hz
      · exact hmem z hz
      · rw [List.mem_singleton.mp hz]; exact hy
    · rw [List.length_append, List.length_singleton]; omega
    · rw [List.length_append, List.length_singleton]; omega
    · rw [HD, tups_snoc, refs_snoc] at hq
      simp only [List.mem_cons, List.mem_append, List.cons_append, List.not_mem_nil, or_false] at hq ⊢
      grind
end
section
local macro_rules | `(tactic| walk_at "zz") => `(tactic| fail)
theorem forget1_32 {prog : Program} {w : World} {A : Around} {Q : Bool → Shared → Prop} {E : Value → Shared → Prop} {s : Shared} (h : wpAny (model prog w) A (truthy (.bool true)) Q E s) : wpAny (model prog w) A (truthy (.bool true)) Q E s := by
  w_top off
  first | (walk1; fail) | exact h
local macro_rules | `(tactic| walk_at "zz") => `(tactic| fail)
theorem forget2_32 {prog : Program} {w : World} {A : Around} {Q : Bool → Shared → Prop} {E : Value → Shared → Prop} {s : Shared} (h : wpAny (model prog w) A (truthy (.bool true)) Q E s) : wpAny (model prog w) A (truthy (.bool true)) Q E s := by
  first | (walk1; fail) | exact h
end
noncomputable section
open Bi
theorem m6_rule {l nl ol p fl : Addr} {u v : Option Value} {i : Int} {t : Tok} {a b r r' : Option Value} {e : Value} : (fun y => if y = Str.ofString "rule" then r' else m6 l nl ol p fl u v i t a b r e y) = m6 l nl ol p fl u v i t a b r' e := by
  funext y
  by_cases h1 : y = Str.ofString "rule"
  · subst h1; rfl
  · simp [m6, h1]
theorem PileSt.setRule {c : Cx} {x : Str} {tx : Tok} {rule r' : Option Value} {offs ns : List Str} {m : Str → Option Value} {extra rest news : List (Addr × Obj)} (st : PileSt c x tx rule offs ns m extra rest news) :
    PileSt c x tx r' offs ns (fun y => if y = Str.ofString "rule" then r' else m y) extra rest news := by
  obtain ⟨⟨a, b, fvs, kf, tvs, n, ps1, ps2, rfl, hnews, hf, hpr, h1, h2, hsep⟩, hmem, hol, hpl⟩ := st
  exact ⟨⟨a, b, fvs, kf, tvs, n, ps1, ps2, m6_rule, hnews, hf, hpr, h1, h2, hsep⟩, hmem, hol, hpl⟩
local macro_rules | `(tactic| walk_at "Stop") => `(tactic| (fail "stop"))
local macro_rules | `(tactic| k_inst) => `(tactic| (refine inst_pile (by k_asm) (by walk_at "m.mem") (by walk_at "m.mem")))
local macro_rules | `(tactic| walk_at "m.mem") => `(tactic| (first | assumption | (refine List.Mem.tail _ ?_; assumption) | (refine List.Mem.tail _ (List.Mem.tail _ ?_); assumption) | (refine List.Mem.tail _ (List.Mem.tail _ (List.Mem.tail _ ?_)); assumption)))
local macro_rules | `(tactic| walk_at "getMethod ref") => `(tactic| (refine gm_any (f := .ref 111) (Frag.In.keeps (by k_asm) (Fr.keep (by k_asm))) (by k_inst) (by kernel_rfl) (looks_typeIn (Frag.In.keeps (by k_asm) (Fr.keep (by k_asm))) (by kernel_rfl)) (.inl rfl) (by assumption) ?_; (try dsimp only)))
local macro_rules | `(tactic| walk_at "call ref") => `(tactic| (refine stopHere ?_))
theorem body0 {w : World} (G : Heap → Prop) (c : Cx) (x : Str) (tx : Tok) (offs ns : List Str) (rest : List (Addr × Obj)) (ok : CxOk c rest) :
    Seg w (bodySt w 0) G (fun m news => ∃ rule extra, PileSt c x tx rule offs ns m extra rest news)
      (fun m news => ∃ ra extra, PileSt c x tx (some (.ref ra)) offs ns.dropLast m extra rest news ∧ RuleIs ra ns.getLast? extra) := by
  walk_at "m.introSeg"
  obtain ⟨rule, extra, st⟩ := hPre
  obtain ⟨a, b, fvs, kf, tvs, n, ps1, ps2, hm, hnews, hf, hpr, h1, h2, hsep⟩ := st.ex
  have hp : (c.p, pobj c.d (refs tvs) n) ∈ news := by rw [hnews]; exact .tail _ (.head _)
  have hrd : (c.d, dictOf c.es c.nd) ∈ news := by rw [hnews]; exact List.mem_append_right _ (List.mem_append_right _ ok.rd)
  have hm3 := ok.pd.m3
  clear hnews hsep
  subst hm
  k_steps
  unfold Stop
  refine pop_step c x tx rule offs ns _ extra rest news ok st mean mg mb loose dp un gd (Str.ofString "law") _ fa cdv [] outer A₀ base h₀ L _ s _ _ hB hF hX hN hT rfl (by omega) (by omega) ?_
  rintro r news' h' tk' ⟨ra, extra', rfl, st', hr⟩ F N
  clear hp hrd hN hF
  k_steps
  exact hret _ _ _ ⟨ra, extra', st'.setRule, hr⟩ (by k_asm) (by k_asm) hAB rfl rfl
section
variable {prog : Program} {w : World} {A : Around} {E : Value → Shared → Prop} {s : Shared} {a b : Addr} {Q : Value → Shared → Prop}
theorem ne_tups {x1 x2 y1 y2 : Str} {t1 t2 t3 t4 : Tok} (ha : s.heap.get? a = some (tobj (.str x1 t1) (.str x2 t2))) (hb : s.heap.get? b = some (tobj (.str y1 t3) (.str y2 t4))) (o1 : PyData.strOk x1 = true) (o2 : PyData.strOk x2 = true) (o3 : PyData.strOk y1 = true) (o4 : PyData.strOk y2 = true)
    (hu : A.units + 64 < cLine) (h : Q (.bool (!decide (x1 = y1 ∧ x2 = y2))) s) : wpAny (model prog w) A (compareOp .NotEq (.ref a) (.ref b)) Q E s := by
  have hi : StrsAre [.str x1 t1, .str x2 t2] [x1, x2] := .cons _ _ (.cons _ _ .nil)
  have hj : StrsAre [.str y1 t3, .str y2 t4] [y1, y2] := .cons _ _ (.cons _ _ .nil)
  have oi : ∀ x ∈ [x1, x2], PyData.strOk x = true := by simp [o1, o2]
  have oj : ∀ x ∈ [y1, y2], PyData.strOk x = true := by simp [o3, o4]
  refine ne_dataH_same (reads_newDataT ⟨_, ha, rfl, _, rfl⟩ hi.carried) (reads_newDataT ⟨_, hb, rfl, _, rfl⟩ hj.carried) ?_ ?_ hu (PySem.SeqAt.noMix_of_shape (.tuple [.str, .str]) rfl _ _ (by rfl) (by rfl)) ?_
  · have e1 := se_canLayAll0 _ oi
    have e2 := se_depthAll [x1, x2]
    simp only [List.map_cons, List.map_nil] at e1 e2
    simp [PySem.SeqAt.shaped, PyData.canLay0, PyData.depth, e1, e2]
  · have e1 := se_canLayAll0 _ oj
    have e2 := se_depthAll [y1, y2]
    simp only [List.map_cons, List.map_nil] at e1 e2
    simp [PySem.SeqAt.shaped, PyData.canLay0, PyData.depth, e1, e2]
  · have e : PySem.Spec.same (.tuple (List.map PyData.str [x1, x2])) (.tuple (List.map PyData.str [y1, y2])) = decide (x1 = y1 ∧ x2 = y2) := by
      simp only [PySem.Spec.same]; rw [se_sameAll]; simp
    rw [e]; exact h
end
theorem item_t0 {prog : Program} {w : World} {A : Around} {E : Value → Shared → Prop} {s : Shared} {value slice : Expr} {a : Addr} {u v : Value} {t : Tok} {Q : Value → Shared → Prop} (ha : s.heap.get? a = some (tobj u v)) (h : Q u s)
    (hs : subscripted slice false (.ref a) (.int 0 t) = operate [.ref a, .int 0 t] (getItem (.ref a) (.int 0 t)) := by with_unfolding_all rfl) : wpAny (model prog w) A (subscriptTail value slice (.ref a) (.int 0 t)) Q E s :=
  item_tupleT (l := [u, v]) ⟨_, ha, rfl, _, rfl⟩ (by decide) (by decide) (j := 0) rfl rfl h hs
theorem item_t1 {prog : Program} {w : World} {A : Around} {E : Value → Shared → Prop} {s : Shared} {value slice : Expr} {a : Addr} {u v : Value} {t : Tok} {Q : Value → Shared → Prop} (ha : s.heap.get? a = some (tobj u v)) (h : Q v s)
    (hs : subscripted slice false (.ref a) (.int 1 t) = operate [.ref a, .int 1 t] (getItem (.ref a) (.int 1 t)) := by with_unfolding_all rfl) : wpAny (model prog w) A (subscriptTail value slice (.ref a) (.int 1 t)) Q E s :=
  item_tupleT (l := [u, v]) ⟨_, ha, rfl, _, rfl⟩ (by decide) (by decide) (j := 1) rfl rfl h hs
def curL (cur : Option Str) (rs : List Str) : List Str := cur.toList ++ rs.reverse
structure WInv (x : Str) (offs₀ L₀ : List Str) (offs : List Str) (cur : Option Str) (rs : List Str) : Prop where
  tk : offs ++ (curL cur rs).takeWhile (fun y => !mtch x y) = offs₀ ++ L₀.takeWhile (fun y => !mtch x y)
  dr : (curL cur rs).dropWhile (fun y => !mtch x y) = L₀.dropWhile (fun y => !mtch x y)
  nn : cur = none → rs = []
theorem curL_pop (rs : List Str) : curL rs.getLast? rs.dropLast = rs.reverse := by
  rcases List.eq_nil_or_concat rs with rfl | ⟨r, y, h⟩
  · rfl
  · have h' : rs = r ++ [y] := by simpa using h
    subst h'
    simp [curL]
theorem pw_step {x : Str} {offs₀ L₀ offs : List Str} {y : Str} {rs : List Str} (h : WInv x offs₀ L₀ offs (some y) rs) (hm : mtch x y = false) : WInv x offs₀ L₀ (offs ++ [y]) rs.getLast? rs.dropLast := by
  obtain ⟨h1, h2, h3⟩ := h
  refine ⟨?_, ?_, fun e => ?_⟩
  · rw [curL_pop, ← h1]
    simp [curL, List.takeWhile_cons, hm]
  · rw [curL_pop, ← h2]
    simp [curL, List.dropWhile_cons, hm]
  · rw [List.getLast?_eq_none_iff] at e; rw [e]; rfl
theorem pw_none {x : Str} {offs₀ L₀ offs rs : List Str} (h : WInv x offs₀ L₀ offs none rs) : offs = offs₀ ++ L₀.takeWhile (fun y => !mtch x y) ∧ L₀.dropWhile (fun y => !mtch x y) = [] ∧ rs = [] := by
  have e := h.nn rfl
  subst e
  exact ⟨by rw [← h.tk]; simp [curL], by rw [← h.dr]; rfl, rfl⟩
theorem pw_match {x : Str} {offs₀ L₀ offs rs : List Str} {y : Str} (h : WInv x offs₀ L₀ offs (some y) rs) (hm : mtch x y = true) : offs = offs₀ ++ L₀.takeWhile (fun y => !mtch x y) ∧ L₀.dropWhile (fun y => !mtch x y) = y :: rs.reverse := by
  refine ⟨by rw [← h.tk]; simp [curL, List.takeWhile_cons, hm], by rw [← h.dr]; simp [curL, List.dropWhile_cons, hm]⟩
local macro_rules | `(tactic| walk_at "compareOp NotEq ref ref") => `(tactic| (refine stopHere ?_))
set_option hygiene false in
local macro_rules | `(tactic| walk_at "subscriptTail Name Constant ref int") => `(tactic| (first | (refine item_t0 (News.get (by k_asm) hrt') ?_) | (refine item_t1 (News.get (by k_asm) hrt') ?_)))
local macro_rules | `(tactic| walk_at "call ref") => `(tactic| (refine' udm_call _ _ _ _ _ ?f1 ?f2 _ _ ?f3 ?f4 _ _ _ _ _ _ _ _ _ _ _ _ _ _ _ _ _ _ _ _ _ ?k1 ?k2 ?k3 ?k4 ?k5 ?kK ?kd ?ku ?_; (case f3 => assumption); (case f4 => assumption); (case f1 => (show Str.length _ ≤ _; omega)); (case f2 => (show Str.length _ ≤ _; omega)); (case k1 => k_asm); (case k2 => k_asm); (case k3 => k_asm); (case k4 => k_asm); (case k5 => k_asm); (case kK => first | exact rfl | assumption); (case kd => ktr_room); (case ku => ktr_units); intro t9 h9 tk9 F9 N9; (try dsimp only)))
local macro_rules | `(tactic| walk_at "call builtin:list.append") => `(tactic| (refine stopHere ?_))
local macro_rules | `(tactic| walk_at "exec While") => `(tactic| (refine stopHere ?_))
def WPostC (c : Cx) (x : Str) (tx : Tok) (offs₀ L₀ : List Str) (rest : List (Addr × Obj)) (m : Str → Option Value) (news : List (Addr × Obj)) : Prop :=
  ∃ ra extra offs cur rs, PileSt c x tx (some (.ref ra)) offs rs m extra rest news ∧ RuleIs ra cur extra ∧ WInv x offs₀ L₀ offs cur rs ∧ (∀ y, cur = some y → y ∈ c.os) ∧ offs.length + (curL cur rs).length ≤ 150 ∧ rs.length ≤ 15
local macro_rules | `(tactic| walk_at "getMethod ref") => `(tactic| (refine gm_any (f := .ref 111) (Frag.In.keeps (by k_asm) (Fr.keep (by k_asm))) (by k_inst) (by kernel_rfl) (looks_typeIn (Frag.In.keeps (by k_asm) (Fr.keep (by k_asm))) (by kernel_rfl)) (.inl rfl) (by assumption) ?_; (try dsimp only)))
theorem body1 {w : World} (G : Heap → Prop) (c : Cx) (x : Str) (tx : Tok) (offs₀ L₀ : List Str) (rest : List (Addr × Obj)) (ok : CxOk c rest) (hx : x ∈ c.os) :
    Seg w (bodySt w 1) G (WPostC c x tx offs₀ L₀ rest)
      (fun m news => ∃ ra extra cur rs, PileSt c x tx (some (.ref ra)) (offs₀ ++ L₀.takeWhile (fun y => !mtch x y)) rs m extra rest news ∧ RuleIs ra cur extra ∧ (∀ y, cur = some y → y ∈ c.os) ∧ L₀.dropWhile (fun y => !mtch x y) = curL cur rs ∧ (offs₀ ++ L₀.takeWhile (fun y => !mtch x y)).length + (curL cur rs).length ≤ 150 ∧ rs.length ≤ 15) := by
  walk_at "m.introSeg"
  obtain ⟨ra, extra, offs, cur, rs, st, hr, hw, hcm, ho1, ho2⟩ := hPre
  walk1
  unfold Stop
  refine whileG (fun n s₁ => s₁.os = s.os ∧ s₁.drawn = s.drawn ∧ AllBare s₁.gens ∧ ∃ m news ra extra offs cur rs, n = (curL cur rs).length ∧ PileSt c x tx (some (.ref ra)) offs rs m extra rest news ∧ RuleIs ra cur extra ∧ WInv x offs₀ L₀ offs cur rs ∧ (∀ y, cur = some y → y ∈ c.os) ∧ offs.length + (curL cur rs).length ≤ 150 ∧ rs.length ≤ 15 ∧
    Fr h₀ L s₁.heap m ∧ News h₀ L s₁.heap news) (curL cur rs).length ?_ ?_
  · exact ⟨rfl, rfl, hAB, m, news, ra, extra, offs, cur, rs, rfl, st, hr, hw, hcm, ho1, ho2, hF, hN⟩
  · clear hF hN st hr hw hcm ho1 ho2
    rintro n s₁ ⟨hos, hdr, hAB1, m, news, ra, extra, offs, cur, rs, rfl, st, hr, hw, hcm, ho1, ho2, F, N⟩
    obtain ⟨a, b, fvs, kf, tvs, n, ps1, ps2, hm, hnews, hf, hpr, h1, h2, hsep⟩ := st.ex
    obtain ⟨t1, t2, hrt⟩ := hr
    have hrt' : (ra, tobj (.str (tw cur).1 t1) (.str (tw cur).2 t2)) ∈ news := by rw [hnews]; exact List.mem_append_right _ (List.mem_append_left _ hrt)
    have hfl : (c.fl, lobj fvs kf) ∈ news := by rw [hnews]; exact .head _
    have hm3 := ok.pd.m3
    rw [sep_iff] at hsep
    subst hm
    k_steps
    rename_i D1 h3 F3 N3 l3
    skip
    unfold Stop
    cases cur with
    | none =>
      refine ne_tups (N3.get (.tail _ hrt')) (N3.get (.head _)) (by decide +kernel) (by decide +kernel) (by decide +kernel) (by decide +kernel) (by show un + 64 < cLine; omega) ?_
      rw [show (!decide ((tw none).1 = Str.ofString "" ∧ (tw none).2 = Str.ofString "")) = false by decide]
      k_steps
      obtain ⟨q1, q2, q3⟩ := pw_none hw
      subst q3
      refine hret _ _ _ ⟨ra, extra, none, [], ?_, ⟨t1, t2, hrt⟩, hcm, ?_, ?_, ho2⟩ F3 (news_tail N3) hAB1 hos hdr
      · rw [← q1]; exact st
      · rw [q2]; rfl
      · rw [← q1]; exact ho1
    | some y =>
      have hy := hcm y rfl
      have hyok := ok.nm.ok y hy
      refine ne_tups (N3.get (.tail _ hrt')) (N3.get (.head _)) (show PyData.strOk (Str.ofString ".") = true by decide +kernel) hyok (by decide +kernel) (by decide +kernel) (by show un + 64 < cLine; omega) ?_
      rw [show (!decide ((tw (some y)).1 = Str.ofString "" ∧ (tw (some y)).2 = Str.ofString "")) = true by simp [tw, show Str.ofString "." ≠ Str.ofString "" by decide]]
      have N4 := news_tail N3
      clear N3
      change (ra, tobj (.str (Str.ofString ".") t1) (.str y t2)) ∈ news at hrt'
      have hyl := ok.nm.l50 y hy
      have hxl := ok.nm.l50 x hx
      obtain ⟨b1, hb1⟩ := ok.nm.fr x hx
      obtain ⟨b2, hb2⟩ := ok.nm.fd y hy
      have hzl : (Str.ofString "." ++ y).length ≤ 100 := by rw [Str.length_append]; show 1 + _ ≤ _; omega
      have hmt : mtch x y = udmS x (Str.ofString "." ++ y) b1 b2 := by unfold mtch; rw [hb1, hb2]; rfl
      k_steps
      · rename_i F9 N9 e9
        obtain ⟨q1, q2⟩ := pw_match hw (by rw [hmt]; exact e9)
        refine hret _ _ _ ⟨ra, extra, some y, rs, ?_, ⟨t1, t2, hrt⟩, hcm, ?_, ?_, ho2⟩ F9 N9 hAB1 hos hdr
        · rw [← q1]; exact st
        · rw [q2]; rfl
        · rw [← q1]; exact ho1
      · rename_i F9 N9 e9
        have hw2 := pw_step hw (by rw [hmt]; exact e9)
        have N10 : News h₀ L _ ((c.fl, lobj fvs kf) :: news) := List.forall_mem_cons.mpr ⟨N9 _ hfl, N9⟩
        have hrt9 := hrt'
        replace hrt' := List.Mem.tail (c.fl, lobj fvs kf) hrt'
        clear N9
        have hle : offs.length ≤ 150 := by omega
        have hcl : (curL (some y) rs).length = 1 + rs.length := by simp [curL]; omega
        have hnd : (c.p ≠ c.fl ∧ (113 : Nat) ≠ c.fl ∧ (120 : Nat) ≠ c.fl) ∧ (∀ q ∈ tvs, q.1 ≠ c.fl) := by
          have h := hsep.1
          simp only [List.nodup_cons, List.mem_cons, List.mem_map, not_or] at h ⊢
          grind
        k_steps
        unfold Stop
        refine app_drop (us := fvs) (k := kf) (tl := (c.p, pobj c.d (refs tvs) n) :: (113, tabO ps1) :: (120, tabO ps2) :: (tups tvs ++ (extra ++ rest))) (by k_asm) N10 ?_ ?_ (by rw [hf.len_eq]; omega) ?_
        · intro q hq
          rw [hnews]
          simp only [HD, List.mem_cons, List.mem_append, List.cons_append] at hq ⊢
          grind
        · intro q hq
          simp only [List.mem_cons, List.mem_append, List.mem_map] at hq
          rcases hq with rfl | rfl | rfl | ⟨q', hq', rfl⟩ | hq | hq
          · exact hnd.1.1
          · exact hnd.1.2.1
          · exact hnd.1.2.2
          · exact hnd.2 q' hq'
          · exact fun e => hsep.2 q (List.mem_append_left _ hq) (by rw [e]; exact .head _)
          · exact fun e => hsep.2 q (List.mem_append_right _ hq) (by rw [e]; exact .head _)
        intro h11 F11 N11
        clear N10
        have st2 : PileSt c x tx (some (.ref ra)) (offs ++ [y]) rs (m6 c.l c.nl c.ol c.p c.fl c.u c.v c.i c.t a b (some (.ref ra)) (.str x tx)) extra rest ((c.fl, lobj (fvs ++ [.str y t2]) (kf + 1)) :: (c.p, pobj c.d (refs tvs) n) :: (113, tabO ps1) :: (120, tabO ps2) :: (tups tvs ++ (extra ++ rest))) :=
          ⟨⟨a, b, fvs ++ [.str y t2], kf + 1, tvs, n, ps1, ps2, rfl, rfl, hf.append' (.cons _ _ .nil), hpr, h1, h2, sep_iff.mpr hsep⟩, st.mem, by rw [List.length_append, List.length_singleton]; omega, st.plen⟩
        have hp : (c.p, pobj c.d (refs tvs) n) ∈ ((c.fl, lobj (fvs ++ [.str y t2]) (kf + 1)) :: (c.p, pobj c.d (refs tvs) n) :: (113, tabO ps1) :: (120, tabO ps2) :: (tups tvs ++ (extra ++ rest))) := .tail _ (.head _)
        have hrd : (c.d, dictOf c.es c.nd) ∈ ((c.fl, lobj (fvs ++ [.str y t2]) (kf + 1)) :: (c.p, pobj c.d (refs tvs) n) :: (113, tabO ps1) :: (120, tabO ps2) :: (tups tvs ++ (extra ++ rest))) := .tail _ (.tail _ (.tail _ (.tail _ (List.mem_append_right _ (List.mem_append_right _ ok.rd)))))
        have hmem := st.mem
        clear hrt9 hrt' hrt st hfl hnews
        revert N11 st2 hp hrd
        generalize ((c.fl, lobj (fvs ++ [.str y t2]) (kf + 1)) :: (c.p, pobj c.d (refs tvs) n) :: (113, tabO ps1) :: (120, tabO ps2) :: (tups tvs ++ (extra ++ rest))) = news2
        intro N11 st2 hp hrd
        k_steps
        unfold Stop
        refine pop_step c x tx _ (offs ++ [y]) rs _ extra rest news2 ok st2 mean mg mb loose dp un gd (Str.ofString "law") _ fa cdv [] outer A₀ base h₀ L _ _ _ _ hB F11 hX N11 hT rfl (by omega) (by omega) ?_
        rintro r news' h' tk' ⟨ra', extra', rfl, st', hr'⟩ F N
        clear hp hrd N11 F11 st2
        k_steps
        refine ⟨_, ?_, hos, hdr, hAB1, _, _, ra', extra', offs ++ [y], rs.getLast?, rs.dropLast, rfl, st'.setRule, hr', hw2, ?_, ?_, ?_, (by k_asm), (by k_asm)⟩
        · rw [curL_pop, hcl, List.length_reverse]; omega
        · intro z hz
          exact hmem z (List.mem_of_getLast? hz)
        · rw [curL_pop, List.length_append, List.length_singleton, List.length_reverse]; omega
        · rw [List.length_dropLast]; omega
end
section
local macro_rules | `(tactic| walk_at "zz") => `(tactic| fail)
theorem forget1_33 {prog : Program} {w : World} {A : Around} {Q : Bool → Shared → Prop} {E : Value → Shared → Prop} {s : Shared} (h : wpAny (model prog w) A (truthy (.bool true)) Q E s) : wpAny (model prog w) A (truthy (.bool true)) Q E s := by
  w_top off
  first | (walk1; fail) | exact h
local macro_rules | `(tactic| walk_at "zz") => `(tactic| fail)
theorem forget2_33 {prog : Program} {w : World} {A : Around} {Q : Bool → Shared → Prop} {E : Value → Shared → Prop} {s : Shared} (h : wpAny (model prog w) A (truthy (.bool true)) Q E s) : wpAny (model prog w) A (truthy (.bool true)) Q E s := by
  first | (walk1; fail) | exact h
end
noncomputable section
open Bi
local macro_rules | `(tactic| walk_at "Stop") => `(tactic| (fail "stop"))
local macro_rules | `(tactic| k_inst) => `(tactic| (refine inst_pile (by k_asm) (by walk_at "m.mem") (by walk_at "m.mem")))
local macro_rules | `(tactic| walk_at "m.mem") => `(tactic| (first | assumption | (refine List.Mem.tail _ ?_; assumption) | (refine List.Mem.tail _ (List.Mem.tail _ ?_); assumption) | (refine List.Mem.tail _ (List.Mem.tail _ (List.Mem.tail _ ?_)); assumption)))
local macro_rules | `(tactic| walk_at "getMethod ref") => `(tactic| (refine gm_any (f := .ref 95) (Frag.In.keeps (by k_asm) (Fr.keep (by k_asm))) (by k_inst) (by kernel_rfl) (looks_typeIn (Frag.In.keeps (by k_asm) (Fr.keep (by k_asm))) (by kernel_rfl)) (.inl rfl) (by assumption) ?_; (try dsimp only)))
local macro_rules | `(tactic| walk_at "call ref") => `(tactic| (refine stopHere ?_))
local macro_rules | `(tactic| walk_at "compareOp NotEq ref ref") => `(tactic| (refine stopHere ?_))
set_option hygiene false in
local macro_rules | `(tactic| walk_at "subscriptTail Name Constant ref int") => `(tactic| (first | (refine item_t0 (News.get (by k_asm) hrt') ?_) | (refine item_t1 (News.get (by k_asm) hrt') ?_)))
theorem body2 {w : World} (G : Heap → Prop) (c : Cx) (x : Str) (tx : Tok) (offs : List Str) (cur : Option Str) (rs : List Str) (rest : List (Addr × Obj)) (ok : CxOk c rest) (hcm : ∀ y, cur = some y → y ∈ c.os) (hl : offs.length + rs.length < 200) (hl2 : rs.length < 20) :
    Seg w (bodySt w 2) G (fun m news => ∃ ra extra, PileSt c x tx (some (.ref ra)) offs rs m extra rest news ∧ RuleIs ra cur extra)
      (fun m news => ∃ rule extra, PileSt c x tx rule offs (rs ++ cur.toList) m extra rest news) := by
  walk_at "m.introSeg"
  obtain ⟨ra, extra, st, hr⟩ := hPre
  obtain ⟨a, b, fvs, kf, tvs, n, ps1, ps2, hm, hnews, hf, hpr, h1, h2, hsep⟩ := st.ex
  obtain ⟨t1, t2, hrt⟩ := hr
  have hrt' : (ra, tobj (.str (tw cur).1 t1) (.str (tw cur).2 t2)) ∈ news := by rw [hnews]; exact List.mem_append_right _ (List.mem_append_left _ hrt)
  have hp : (c.p, pobj c.d (refs tvs) n) ∈ news := by rw [hnews]; exact .tail _ (.head _)
  have hrd : (c.d, dictOf c.es c.nd) ∈ news := by rw [hnews]; exact List.mem_append_right _ (List.mem_append_right _ ok.rd)
  have hm4 := ok.pd.m4
  clear hnews hsep
  subst hm
  k_steps
  rename_i D1 h3 F3 N3 l3
  unfold Stop
  cases cur with
  | none =>
    refine ne_tups (N3.get (.tail _ hrt')) (N3.get (.head _)) (by decide +kernel) (by decide +kernel) (by decide +kernel) (by decide +kernel) (by show un + 64 < cLine; omega) ?_
    rw [show (!decide ((tw none).1 = Str.ofString "" ∧ (tw none).2 = Str.ofString "")) = false by decide]
    k_steps
    exact hret _ _ _ ⟨_, extra, by simpa using st⟩ F3 (news_tail N3) hAB rfl rfl
  | some y =>
    have hy := hcm y rfl
    have hyok := ok.nm.ok y hy
    refine ne_tups (N3.get (.tail _ hrt')) (N3.get (.head _)) (show PyData.strOk (Str.ofString ".") = true by decide +kernel) hyok (by decide +kernel) (by decide +kernel) (by show un + 64 < cLine; omega) ?_
    rw [show (!decide ((tw (some y)).1 = Str.ofString "" ∧ (tw (some y)).2 = Str.ofString "")) = true by simp [tw, show Str.ofString "." ≠ Str.ofString "" by decide]]
    have N4 := news_tail N3
    clear N3
    change (ra, tobj (.str (Str.ofString ".") t1) (.str y t2)) ∈ news at hrt'
    k_steps
    unfold Stop
    refine push_step c x tx _ offs rs y t1 t2 _ extra rest news ok st hy hl hl2 mean mg mb loose dp un gd (Str.ofString "law") _ fa cdv [] outer A₀ base h₀ L _ _ _ _ hB F3 hX N4 hT rfl (by omega) (by omega) ?_
    rintro r news' h' tk' ⟨rfl, st'⟩ F N
    clear hp hrd N4 F3 st
    k_steps
    exact hret _ _ _ ⟨_, extra, st'⟩ (by k_asm) (by k_asm) hAB rfl rfl
theorem body3 {w : World} (G : Heap → Prop) (c : Cx) (x : Str) (tx : Tok) (offs ns : List Str) (rest : List (Addr × Obj)) (ok : CxOk c rest) (hx : x ∈ c.os) (hl : offs.length + ns.length < 200) (hl2 : ns.length < 20) :
    Seg w (bodySt w 3) G (fun m news => ∃ rule extra, PileSt c x tx rule offs ns m extra rest news)
      (fun m news => ∃ rule extra, PileSt c x tx rule offs (ns ++ [x]) m extra rest news) := by
  walk_at "m.introSeg"
  obtain ⟨rule, extra, st⟩ := hPre
  obtain ⟨a, b, fvs, kf, tvs, n, ps1, ps2, hm, hnews, hf, hpr, h1, h2, hsep⟩ := st.ex
  have hp : (c.p, pobj c.d (refs tvs) n) ∈ news := by rw [hnews]; exact .tail _ (.head _)
  have hrd : (c.d, dictOf c.es c.nd) ∈ news := by rw [hnews]; exact List.mem_append_right _ (List.mem_append_right _ ok.rd)
  have hm4 := ok.pd.m4
  clear hnews hsep
  subst hm
  k_steps
  unfold Stop
  refine push_step c x tx _ offs ns x _ tx _ extra rest news ok st hx hl hl2 mean mg mb loose dp un gd (Str.ofString "law") _ fa cdv [] outer A₀ base h₀ L _ _ _ _ hB hF hX hN hT rfl (by omega) (by omega) ?_
  rintro r news' h' tk' ⟨rfl, st'⟩ F N
  clear hp hrd hN hF st
  k_steps
  exact hret _ _ _ ⟨_, extra, st'⟩ (by k_asm) (by k_asm) hAB rfl rfl
end
section
local macro_rules | `(tactic| walk_at "zz") => `(tactic| fail)
theorem forget1_34 {prog : Program} {w : World} {A : Around} {Q : Bool → Shared → Prop} {E : Value → Shared → Prop} {s : Shared} (h : wpAny (model prog w) A (truthy (.bool true)) Q E s) : wpAny (model prog w) A (truthy (.bool true)) Q E s := by
  w_top off
  first | (walk1; fail) | exact h
local macro_rules | `(tactic| walk_at "zz") => `(tactic| fail)
theorem forget2_34 {prog : Program} {w : World} {A : Around} {Q : Bool → Shared → Prop} {E : Value → Shared → Prop} {s : Shared} (h : wpAny (model prog w) A (truthy (.bool true)) Q E s) : wpAny (model prog w) A (truthy (.bool true)) Q E s := by
  first | (walk1; fail) | exact h
end
noncomputable section
open Bi
structure PileX (c : Cx) (x : Str) (tx : Tok) (a b rule : Option Value) (offs ns : List Str) (m : Str → Option Value) (extra rest news : List (Addr × Obj)) : Prop where
  ex : ∃ fvs kf tvs n ps1 ps2, m = m6 c.l c.nl c.ol c.p c.fl c.u c.v c.i c.t a b rule (.str x tx) ∧ news = HD c.fl fvs kf c.p c.d tvs n ps1 ps2 ++ (extra ++ rest) ∧ StrsAre fvs offs ∧ Pairs tvs ns ∧ tabF posLen ps1 ∧ tabF posStr ps2 ∧
    Sep (HD c.fl fvs kf c.p c.d tvs n ps1 ps2) (extra ++ rest)
  mem : ∀ y ∈ ns, y ∈ c.os
  olen : offs.length + ns.length ≤ 200
  plen : ns.length ≤ 20
theorem PileX.st {c : Cx} {x : Str} {tx : Tok} {a b rule : Option Value} {offs ns : List Str} {m : Str → Option Value} {extra rest news : List (Addr × Obj)} (h : PileX c x tx a b rule offs ns m extra rest news) : PileSt c x tx rule offs ns m extra rest news := by
  obtain ⟨⟨fvs, kf, tvs, n, ps1, ps2, z⟩, h1, h2, h3⟩ := h
  exact ⟨⟨a, b, fvs, kf, tvs, n, ps1, ps2, z⟩, h1, h2, h3⟩
theorem PileSt.x {c : Cx} {x : Str} {tx : Tok} {rule : Option Value} {offs ns : List Str} {m : Str → Option Value} {extra rest news : List (Addr × Obj)} (h : PileSt c x tx rule offs ns m extra rest news) : ∃ a b, PileX c x tx a b rule offs ns m extra rest news := by
  obtain ⟨⟨a, b, fvs, kf, tvs, n, ps1, ps2, z⟩, h1, h2, h3⟩ := h
  exact ⟨a, b, ⟨fvs, kf, tvs, n, ps1, ps2, z⟩, h1, h2, h3⟩
theorem PileX.more {c : Cx} {x : Str} {tx : Tok} {a b rule : Option Value} {offs ns : List Str} {m : Str → Option Value} {extra rest news : List (Addr × Obj)} {h₀ h : Heap} {L d : Addr} {o : Obj} (st : PileX c x tx a b rule offs ns m extra rest news) (N : News h₀ L h ((d, o) :: news)) (hlt : ∀ q ∈ news, q.1 < d) :
    ∃ news', PileX c x tx a b rule offs ns m ((d, o) :: extra) rest news' ∧ News h₀ L h news' := by
  obtain ⟨⟨fvs, kf, tvs, n, ps1, ps2, hm, rfl, hf, hpr, h1, h2, hsep⟩, h3, h4, h5⟩ := st
  refine ⟨_, ⟨⟨fvs, kf, tvs, n, ps1, ps2, hm, rfl, hf, hpr, h1, h2, hsep.1, fun q hq => ?_⟩, h3, h4, h5⟩, news_sub N fun q hq => ?_⟩
  · rcases List.mem_cons.mp hq with rfl | hq
    · intro hm
      obtain ⟨q, hq, e⟩ := List.mem_map.mp hm
      exact Nat.ne_of_lt (hlt q (List.mem_append_left _ hq)) e
    · exact hsep.2 q hq
  · rcases List.mem_append.mp hq with hq | hq
    · exact .tail _ (List.mem_append_left _ hq)
    · rcases List.mem_cons.mp hq with rfl | hq
      · exact .head _
      · exact .tail _ (List.mem_append_right _ hq)
theorem m6_chain {l nl ol p fl : Addr} {u v : Option Value} {i : Int} {t : Tok} {a b b' r : Option Value} {e : Value} : (fun y => if y = Str.ofString "chain" then b' else m6 l nl ol p fl u v i t a b r e y) = m6 l nl ol p fl u v i t a b' r e := by
  funext y
  by_cases h1 : y = Str.ofString "chain"
  · subst h1; rfl
  · simp [m6, h1]
theorem m6_text {l nl ol p fl : Addr} {u v : Option Value} {i : Int} {t : Tok} {a a' b r : Option Value} {e : Value} : (fun y => if y = Str.ofString "text" then a' else m6 l nl ol p fl u v i t a b r e y) = m6 l nl ol p fl u v i t a' b r e := by
  funext y
  by_cases h1 : y = Str.ofString "text"
  · subst h1; rfl
  · simp [m6, h1]
theorem PileX.setChain {c : Cx} {x : Str} {tx : Tok} {a b b' rule : Option Value} {offs ns : List Str} {m : Str → Option Value} {extra rest news : List (Addr × Obj)} (st : PileX c x tx a b rule offs ns m extra rest news) :
    PileX c x tx a b' rule offs ns (fun y => if y = Str.ofString "chain" then b' else m y) extra rest news := by
  obtain ⟨⟨fvs, kf, tvs, n, ps1, ps2, rfl, z⟩, g1, g2, g3⟩ := st
  exact ⟨⟨fvs, kf, tvs, n, ps1, ps2, m6_chain, z⟩, g1, g2, g3⟩
theorem PileX.setText {c : Cx} {x : Str} {tx : Tok} {a a' b rule : Option Value} {offs ns : List Str} {m : Str → Option Value} {extra rest news : List (Addr × Obj)} (st : PileX c x tx a b rule offs ns m extra rest news) :
    PileX c x tx a' b rule offs ns (fun y => if y = Str.ofString "text" then a' else m y) extra rest news := by
  obtain ⟨⟨fvs, kf, tvs, n, ps1, ps2, rfl, z⟩, g1, g2, g3⟩ := st
  exact ⟨⟨fvs, kf, tvs, n, ps1, ps2, m6_text, z⟩, g1, g2, g3⟩
theorem PileX.shape {c : Cx} {x : Str} {tx : Tok} {a b rule : Option Value} {offs ns : List Str} {m : Str → Option Value} {extra rest news : List (Addr × Obj)} (st : PileX c x tx a b rule offs ns m extra rest news) : m = m6 c.l c.nl c.ol c.p c.fl c.u c.v c.i c.t a b rule (.str x tx) ∧ (∀ q ∈ extra, q ∈ news) ∧ (∀ q ∈ rest, q ∈ news) := by
  obtain ⟨⟨fvs, kf, tvs, n, ps1, ps2, rfl, rfl, z⟩, h⟩ := st
  exact ⟨rfl, fun q hq => List.mem_append_right _ (List.mem_append_left _ hq), fun q hq => List.mem_append_right _ (List.mem_append_right _ hq)⟩
local macro_rules | `(tactic| walk_at "Stop") => `(tactic| (fail "stop"))
local macro_rules | `(tactic| walk_at "call ref") => `(tactic| (refine stopHere ?_))
theorem body4 {w : World} (G : Heap → Prop) (c : Cx) (x : Str) (tx : Tok) (offs ns : List Str) (rest : List (Addr × Obj)) (ok : CxOk c rest) (hx : x ∈ c.os) :
    Seg w (bodySt w 4) G (fun m news => ∃ rule extra, PileSt c x tx rule offs ns m extra rest news)
      (fun m news => ∃ a rule extra ca cvs cn, PileX c x tx a (some (.ref ca)) rule offs ns m extra rest news ∧ (ca, lobj cvs cn) ∈ extra ∧ StrsAre cvs (chainS x c.os)) := by
  walk_at "m.introSeg"
  obtain ⟨rule, extra, st⟩ := hPre
  obtain ⟨a, b, st⟩ := st.x
  obtain ⟨hm, he, hr⟩ := st.shape
  have hro := hr _ ok.ro
  have hlen := ok.nm.len
  subst hm
  k_steps
  unfold Stop
  refine chain_call news x tx c.ol c.ovs c.ko c.os hro ok.ho (ok.nm.gd x hx) ok.nm.gd (by omega) mean mg mb loose dp un gd (Str.ofString "law") _ fa cdv [] outer A₀ base h₀ L _ _ _ _ hB hF hX hN hT rfl (by omega) (by omega) ?_
  intro ca ws cn h' tk' hws F N hlt
  obtain ⟨news', st', N'⟩ := st.more N hlt
  clear hN hF N
  k_steps
  exact hret _ _ _ ⟨a, rule, _, ca, ws, cn, st'.setChain, .head _, hws⟩ (by k_asm) (by k_asm) hAB rfl rfl
def textS (cs : List Str) : Str := Txt.join (Str.ofString "") (cs.map fun o => Str.ofString "." ++ o)
theorem chainS_mem {x : Str} {os : List Str} (hx : x ∈ os) : ∀ y ∈ chainS x os, y ∈ os := by
  unfold chainS
  split
  · intro y hy; rw [List.mem_singleton.mp hy]; exact hx
  · exact fun y hy => (List.mem_filter.mp hy).1
theorem chainS_len {x : Str} {os : List Str} (hx : x ∈ os) : (chainS x os).length ≤ os.length := by
  unfold chainS
  split
  · exact List.length_pos_of_mem hx
  · exact List.length_filter_le _ _
theorem sum_leB {α : Type} (f : α → Nat) (B : Nat) : ∀ l : List α, (∀ a ∈ l, f a ≤ B) → (l.map f).sum ≤ B * l.length
  | [], _ => Nat.zero_le _
  | a :: l, h => by
    have := sum_leB f B l (fun b hb => h b (.tail _ hb)); have := h a (.head _)
    simp only [List.map_cons, List.sum_cons, List.length_cons, Nat.mul_succ]; omega
local macro_rules | `(tactic| walk_at "eval ListComp") => `(tactic| (refine stopHere ?_))
local macro_rules | `(tactic| walk_at "call builtin:str.join") => `(tactic| (refine stopHere ?_))
theorem body5 {w : World} (G : Heap → Prop) (c : Cx) (x : Str) (tx : Tok) (offs ns : List Str) (rest : List (Addr × Obj)) (ok : CxOk c rest) (hx : x ∈ c.os) :
    Seg w (bodySt w 5) G (fun m news => ∃ a rule extra ca cvs cn, PileX c x tx a (some (.ref ca)) rule offs ns m extra rest news ∧ (ca, lobj cvs cn) ∈ extra ∧ StrsAre cvs (chainS x c.os))
      (fun m news => ∃ tt rule extra ca cvs cn, PileX c x tx (some (.str (textS (chainS x c.os)) tt)) (some (.ref ca)) rule offs ns m extra rest news ∧ (ca, lobj cvs cn) ∈ extra ∧ StrsAre cvs (chainS x c.os)) := by
  walk_at "m.introSeg"
  obtain ⟨a, rule, extra, ca, cvs, cn, st, hce, hcs⟩ := hPre
  obtain ⟨hm, he, hr⟩ := st.shape
  have hcn := he _ hce
  have hlen := ok.nm.len
  have hcl := chainS_len hx
  have hcm := chainS_mem hx
  generalize chainS x c.os = cs at hcs hcl hcm hret ⊢
  subst hm
  k_steps
  unfold Stop
  refine LCg.ListComp_U (F₀ := hF) (by with_unfolding_all rfl) (by decide) (by rfl) (by decide) (by rfl) ?_
  walk1
  refine LCg.CompSrc.ledger rfl hF hN hcn (by rw [List.size_toArray, hcs.len_eq]; simp only [sizeLine]; omega) ?_
  intro g6
  refine restU (fun o => Str.ofString "." ++ o) hcs ?_ ?_
  · intro y1 ty I oI C oC D m₂ ys h tk8 E' hy1 hC hx1 F N off ne
    clear hF hN
    have hyl := ok.nm.l50 y1 (hcm y1 hy1)
    k_steps
    exact LCg.CompEnd.intro F N _ (fun p hp => hp) off (.inr ⟨_, hcn, rfl, _, rfl⟩) ⟨rfl, _, rfl⟩
  · intro ys hys
    unfold LCg.FinE
    intro D h7 tk7 F7 N7 off7
    clear hF hN
    (try dsimp only)
    k_steps
    unfold Stop
    refine join_list (isList_mem (vs := ys) (n := ys.length) N7 (.head _)) hys ?_ ?_
    · rw [List.map_map, List.length_map]
      have := sum_leB (Str.length ∘ fun o => Str.ofString "." ++ o) 51 cs (fun y hy => by
        show (Str.ofString "." ++ y).length ≤ 51
        rw [Str.length_append]; have := ok.nm.l50 y (hcm y hy); show 1 + _ ≤ _; omega)
      show (List.map (Str.length ∘ fun o => Str.ofString "." ++ o) cs).sum + cs.length * 0 ≤ _
      omega
    · intro t9 k9
      have N8 := news_tail N7
      clear N7
      k_steps
      exact hret _ _ _ ⟨_, rule, extra, ca, cvs, cn, st.setText, hce, hcs⟩ (by k_asm) (by k_asm) hAB rfl rfl
end
section
local macro_rules | `(tactic| walk_at "zz") => `(tactic| fail)
theorem forget1_35 {prog : Program} {w : World} {A : Around} {Q : Bool → Shared → Prop} {E : Value → Shared → Prop} {s : Shared} (h : wpAny (model prog w) A (truthy (.bool true)) Q E s) : wpAny (model prog w) A (truthy (.bool true)) Q E s := by
  w_top off
  first | (walk1; fail) | exact h
local macro_rules | `(tactic| walk_at "zz") => `(tactic| fail)
theorem forget2_35 {prog : Program} {w : World} {A : Around} {Q : Bool → Shared → Prop} {E : Value → Shared → Prop} {s : Shared} (h : wpAny (model prog w) A (truthy (.bool true)) Q E s) : wpAny (model prog w) A (truthy (.bool true)) Q E s := by
  first | (walk1; fail) | exact h
end
noncomputable section
open Bi
theorem lenP_bnd {ns : List Str} (h : ∀ x ∈ ns, x.length ≤ 100) : 0 ≤ lenP ns ∧ lenP ns ≤ 101 * ns.length := by
  unfold lenP
  have key : ∀ k, k ≤ ns.length → 0 ≤ preSum (fun j => (1 : Int) + (ns.getD j (Str.ofString "")).length) k ∧ preSum (fun j => (1 : Int) + (ns.getD j (Str.ofString "")).length) k ≤ 101 * k := by
    intro k
    induction k with
    | zero => intro _; simp [preSum]
    | succ k ih =>
      intro hk
      have h1 := ih (by omega)
      have h2 := h _ (getD_mem (ns := ns) (i := k) (by omega))
      rw [preSum]
      omega
  exact key _ (Nat.le_refl _)
section
variable {w : World} {c : Cx} {x : Str} {tx : Tok} {a b rule : Option Value} {offs ns : List Str} {m : Str → Option Value} {extra rest news : List (Addr × Obj)}
variable {mean : ExcName → Option Value} {mg mb : Str → Option Value} {loose : List Str} {dp un : Nat} {gd : Option (List Code)} {cn : Str} {cs : Scope} {a' : Addr} {ccd : Value} {cl : List (Str × Addr)} {outer : List Env} {A₀ : Around} {base h₀ : Heap} {L : Addr} {s : Shared} {Q E : Value → Shared → Prop} {mF : Str → Option Value}
theorem pstr_step (ok : CxOk c rest) (st : PileX c x tx a b rule offs ns m extra rest news) (hB : Below A₀ base outer h₀) (hF : Fr h₀ L s.heap m) (hX : (hd.heap_39 w.params).In h₀) (hN : News h₀ L s.heap news) (hT : Top topProg loose mean mg mb h₀) (hk : cs.kind = .function) (hdp : dp + 3 < recursionLimit) (hun : un + 600 < cLine) (hAB : AllBare s.gens)
    (hret : ∀ t news' s', PileX c x tx a b rule offs ns m extra rest news' → Fr h₀ L s'.heap m → News h₀ L s'.heap news' → AllBare s'.gens → s'.os = s.os → s'.drawn = s.drawn → Q (.str (strP ns) t) s') :
    wpAny (model PySem.Challenge.rw_qu0014_01.row.prog w) (ktrTop dp un gd cn cs L a' ccd cl outer) (call (.type "str") [.ref c.p]) Q E s := by
  obtain ⟨⟨fvs, kf, tvs, n, ps1, ps2, hm, hnews, hf, hpr, h1, h2, hsep⟩, hmem, hol, hpl⟩ := st
  rw [sep_iff] at hsep
  have hp : (c.p, pobj c.d (refs tvs) n) ∈ news := by rw [hnews]; exact .tail _ (.head _)
  have hrd : (c.d, dictOf c.es c.nd) ∈ news := by rw [hnews]; exact List.mem_append_right _ (List.mem_append_right _ ok.rd)
  have hlen := hpr.1
  have hnd : (c.fl ≠ 120 ∧ c.p ≠ 120 ∧ (113 : Nat) ≠ 120) ∧ (∀ q ∈ tvs, q.1 ≠ 120) := by
    have h := hsep.1
    simp only [List.nodup_cons, List.mem_cons, List.mem_map, not_or] at h ⊢
    grind
  refine kso_call (by show un + 1 + 1 < cLine; omega) (hX.keeps hF.keep) (inst_pile hN hp hrd) (f := 125) (by kernel_rfl) (by kernel_rfl) ?_
  refine str_call news ((c.fl, lobj fvs kf) :: (c.p, pobj c.d (refs tvs) n) :: (113, tabO ps1) :: (tups tvs ++ (extra ++ rest))) c.p c.d ps2 tvs ns n (dictOf c.es c.nd) ?_ ?_ h2 (.tail _ (.head _)) (.tail _ (.tail _ (.tail _ (List.mem_append_right _ (List.mem_append_right _ ok.rd))))) (fun t ht => .tail _ (.tail _ (.tail _ (List.mem_append_left _ (List.mem_map.mpr ⟨t, ht, rfl⟩))))) hpr (fun y hy => (ok.nm.gd y (hmem y hy)).len) (by omega)
    mean mg mb loose dp (un + 2) gd cn cs a' ccd cl outer A₀ base h₀ L m s _ E hB hF hX hN hT hk hdp (by omega) hAB ?_
  · intro q hq
    rw [hnews]
    simp only [HD, List.mem_cons, List.mem_append, List.cons_append] at hq ⊢
    grind
  · intro q hq
    simp only [List.mem_cons, List.mem_append, List.mem_map] at hq
    rcases hq with rfl | rfl | rfl | ⟨q', hq', rfl⟩ | hq | hq
    · exact hnd.1.1
    · exact hnd.1.2.1
    · exact hnd.1.2.2
    · exact hnd.2 q' hq'
    · exact fun e => hsep.2 q (List.mem_append_left _ hq) (by rw [e]; exact .tail _ (.tail _ (.tail _ (.head _))))
    · exact fun e => hsep.2 q (List.mem_append_right _ hq) (by rw [e]; exact .tail _ (.tail _ (.tail _ (.head _))))
  · rintro r news' s' ⟨t, ps', rfl, hps, rfl⟩ F N G hos hdr
    refine hret t (HD c.fl fvs kf c.p c.d tvs n ps1 ps' ++ (extra ++ rest)) s' ⟨⟨fvs, kf, tvs, n, ps1, ps', hm, rfl, hf, hpr, h1, hps, sep_iff.mpr hsep⟩, hmem, hol, hpl⟩ F (news_sub N fun q hq => ?_) G hos hdr
    simp only [HD, List.mem_cons, List.mem_append, List.cons_append] at hq ⊢
    grind
theorem plen_step (ok : CxOk c rest) (st : PileX c x tx a b rule offs ns m extra rest news) (hB : Below A₀ base outer h₀) (hF : Fr h₀ L s.heap mF) (hX : (hd.heap_39 w.params).In h₀) (hN : News h₀ L s.heap news) (hT : Top topProg loose mean mg mb h₀) (hk : cs.kind = .function) (hdp : dp + 3 < recursionLimit) (hun : un + 600 < cLine) (hAB : AllBare s.gens)
    (hret : ∀ t news' s', PileX c x tx a b rule offs ns m extra rest news' → Fr h₀ L s'.heap mF → News h₀ L s'.heap news' → AllBare s'.gens → s'.os = s.os → s'.drawn = s.drawn → Q (.int (c.i + lenP ns) t) s') :
    wpAny (model PySem.Challenge.rw_qu0014_01.row.prog w) (ktrTop dp un gd cn cs L a' ccd cl outer) (call (.builtin "len") [.ref c.p]) Q E s := by
  obtain ⟨⟨fvs, kf, tvs, n, ps1, ps2, hm, hnews, hf, hpr, h1, h2, hsep⟩, hmem, hol, hpl⟩ := st
  rw [sep_iff] at hsep
  have hp : (c.p, pobj c.d (refs tvs) n) ∈ news := by rw [hnews]; exact .tail _ (.head _)
  have hrd : (c.d, dictOf c.es c.nd) ∈ news := by rw [hnews]; exact List.mem_append_right _ (List.mem_append_right _ ok.rd)
  have hlen := hpr.1
  have hns : ∀ y ∈ ns, y.length ≤ 100 := fun y hy => (ok.nm.gd y (hmem y hy)).len
  have hbl := lenP_bnd hns
  have hpi := ok.pd.small
  have hnd : (c.fl ≠ 113 ∧ c.p ≠ 113 ∧ (120 : Nat) ≠ 113) ∧ (∀ q ∈ tvs, q.1 ≠ 113) := by
    have h := hsep.1
    simp only [List.nodup_cons, List.mem_cons, List.mem_map, not_or] at h ⊢
    grind
  refine PySem.W.len_K hF hX (inst_pile hN hp hrd) (f := 118) (by kernel_rfl) (by kernel_rfl) ?_
  refine len_call news ((c.fl, lobj fvs kf) :: (c.p, pobj c.d (refs tvs) n) :: (120, tabO ps2) :: (tups tvs ++ (extra ++ rest))) c.p c.d ps1 tvs ns n c.es c.nd c.i ?_ ?_ h1 (.tail _ (.head _)) (.tail _ (.tail _ (.tail _ (List.mem_append_right _ (List.mem_append_right _ ok.rd))))) ok.pd (fun t ht => .tail _ (.tail _ (.tail _ (List.mem_append_left _ (List.mem_map.mpr ⟨t, ht, rfl⟩))))) hpr hns (by omega)
    mean mg mb loose dp (un + 1) gd cn cs a' ccd cl outer A₀ base h₀ L mF s _ E hB hF hX hN hT hk hdp (by omega) hAB ?_
  · intro q hq
    rw [hnews]
    simp only [HD, List.mem_cons, List.mem_append, List.cons_append] at hq ⊢
    grind
  · intro q hq
    simp only [List.mem_cons, List.mem_append, List.mem_map] at hq
    rcases hq with rfl | rfl | rfl | ⟨q', hq', rfl⟩ | hq | hq
    · exact hnd.1.1
    · exact hnd.1.2.1
    · exact hnd.1.2.2
    · exact hnd.2 q' hq'
    · exact fun e => hsep.2 q (List.mem_append_left _ hq) (by rw [e]; exact .tail _ (.tail _ (.head _)))
    · exact fun e => hsep.2 q (List.mem_append_right _ hq) (by rw [e]; exact .tail _ (.tail _ (.head _)))
  · rintro r news' s' ⟨t, ps', rfl, hps, rfl⟩ F N G hos hdr
    refine ⟨⟨by omega, by omega⟩, hret _ (HD c.fl fvs kf c.p c.d tvs n ps' ps2 ++ (extra ++ rest)) _ ⟨⟨fvs, kf, tvs, n, ps', ps2, hm, rfl, hf, hpr, hps, h2, sep_iff.mpr hsep⟩, hmem, hol, hpl⟩ F (news_sub N fun q hq => ?_) G hos hdr⟩
    simp only [HD, List.mem_cons, List.mem_append, List.cons_append] at hq ⊢
    grind
end
theorem glued_nil_len : ∀ l : List Str, (Str.join (Str.ofString "") l).length = (l.map Str.length).sum
  | [] => rfl
  | [x] => by show x.length = _; simp
  | x :: y :: r => by
    show (x ++ Str.ofString "" ++ Str.join (Str.ofString "") (y :: r)).length = _
    rw [Str.length_append, Str.length_append, glued_nil_len (y :: r), show (Str.ofString "").length = 0 by decide]
    simp [List.map_cons, List.sum_cons]
theorem join2 (y : Str) : Txt.join (Str.ofString "") [Str.ofString ".", y] = Str.ofString "." ++ y := by
  unfold Txt.join
  rw [StrLaws.glued_eq_join]
  show Str.ofString "." ++ Str.ofString "" ++ y = _
  exact congrArg (· ++ y) (Str.append_right_empty (by decide))
theorem map_range_getD' {β : Type} (ss : List Str) (f : Str → β) : (List.range ss.length).map (fun i => f (ss.getD i (Str.ofString ""))) = ss.map f := by
  have h := congrArg (List.map f) (map_range_getD ss)
  rw [List.map_map] at h
  exact h
theorem strP_text (cs : List Str) : strP cs = textS cs := by
  unfold strP textS
  have e : (fun j => Txt.join (Str.ofString "") [Str.ofString ".", cs.getD j (Str.ofString "")]) = fun j => (fun o => Str.ofString "." ++ o) (cs.getD j (Str.ofString "")) := by
    funext j; exact join2 _
  rw [e, map_range_getD' cs (fun o => Str.ofString "." ++ o)]
theorem preSum_sum (f : Nat → Nat) : ∀ n, preSum (fun j => ((f j : Nat) : Int)) n = (((List.range n).map f).sum : Nat)
  | 0 => by simp [preSum]
  | n + 1 => by rw [preSum, preSum_sum f n, List.range_succ, List.map_append, List.sum_append]; simp
theorem lenP_text (cs : List Str) : lenP cs = ((textS cs).length : Nat) := by
  unfold lenP textS Txt.join
  rw [StrLaws.glued_eq_join, glued_nil_len, List.map_map]
  have e : (fun j => (1 : Int) + ((cs.getD j (Str.ofString "")).length : Nat)) = fun j => (((fun j => (fun o : Str => 1 + o.length) (cs.getD j (Str.ofString ""))) j : Nat) : Int) := by
    funext j; push_cast; rfl
  rw [e, preSum_sum, map_range_getD' cs (fun o : Str => 1 + o.length)]
  congr 3
  funext o
  show 1 + o.length = (Str.ofString "." ++ o).length
  rw [Str.length_append]; rfl
local macro_rules | `(tactic| walk_at "Stop") => `(tactic| (fail "stop"))
local macro_rules | `(tactic| walk_at "call type:str") => `(tactic| (refine stopHere ?_))
local macro_rules | `(tactic| walk_at "call ref") => `(tactic| (refine stopHere ?_))
local macro_rules | `(tactic| walk_at "call builtin:len") => `(tactic| ((with_reducible show wpAny _ _ (call (Value.builtin "len") [Value.ref _]) _ _ _); (refine stopHere ?_)))
local macro_rules | `(tactic| k_inst) => `(tactic| (refine inst_pile (by k_asm) (by walk_at "m.mem") (by walk_at "m.mem")))
local macro_rules | `(tactic| walk_at "m.mem") => `(tactic| (first | assumption | (refine List.Mem.tail _ ?_; assumption)))
local macro_rules | `(tactic| walk_at "getMethod ref") => `(tactic| (refine gm_any (f := .ref 148) (Frag.In.keeps (by k_asm) (Fr.keep (by k_asm))) (by k_inst) (by kernel_rfl) (looks_typeIn (Frag.In.keeps (by k_asm) (Fr.keep (by k_asm))) (by kernel_rfl)) (.inl rfl) (by assumption) ?_; (try dsimp only)))
section
variable {prog : Program} {w : World} {A : Around} {E : Value → Shared → Prop} {s : Shared}
theorem ne_same_str {x : Str} {t u : Tok} {Q : Value → Shared → Prop} (h : Q (.bool false) s) : wpAny (model prog w) A (compareOp .NotEq (.str x t) (.str x u)) Q E s :=
  PyProof.Rows.ne_str (by rw [show (x != x) = false by simp]; exact h)
theorem ne_same_int {x y : Int} {t u : Tok} {Q : Value → Shared → Prop} (e : x = y) (h : Q (.bool false) s) : wpAny (model prog w) A (compareOp .NotEq (.int x t) (.int y u)) Q E s :=
  PyProof.Rows.ne_int (by subst e; rw [show (x != x) = false by simp]; exact h)
end
local macro_rules | `(tactic| walk_at "compareOp NotEq str str") => `(tactic| (refine ne_same_str ?_))
local macro_rules | `(tactic| walk_at "compareOp NotEq int int") => `(tactic| (refine ne_same_int (by omega) ?_))
theorem body6 {w : World} (G : Heap → Prop) (c : Cx) (x : Str) (tx : Tok) (offs : List Str) (rest : List (Addr × Obj)) (ok : CxOk c rest) (hx : x ∈ c.os) :
    Seg w (bodySt w 6) G (fun m news => ∃ tt rule extra ca cvs cn, PileX c x tx (some (.str (textS (chainS x c.os)) tt)) (some (.ref ca)) rule offs (chainS x c.os) m extra rest news ∧ (ca, lobj cvs cn) ∈ extra ∧ StrsAre cvs (chainS x c.os))
      (fun m news => ∃ a rule extra ca cvs cn, PileX c x tx a (some (.ref ca)) rule offs (chainS x c.os) m extra rest news ∧ (ca, lobj cvs cn) ∈ extra ∧ StrsAre cvs (chainS x c.os)) := by
  walk_at "m.introSeg"
  obtain ⟨tt, rule, extra, ca, cvs, cn, st, hce, hcs⟩ := hPre
  have hlen := ok.nm.len
  have hcl := chainS_len hx
  have hcm := chainS_mem hx
  obtain ⟨hm, _, _⟩ := st.shape
  subst hm
  generalize chainS x c.os = cs at hcs hcl hcm hret st hF ⊢
  have hm1 := ok.pd.m1
  have hpi := ok.pd.small
  have hbl := lenP_bnd (ns := cs) fun y hy => (ok.nm.gd y (hcm y hy)).len
  have hlt := lenP_text cs
  have hst := strP_text cs
  k_steps
  unfold Stop
  refine pstr_step ok st hB hF hX hN hT rfl (by omega) (by omega) hAB ?_
  intro t1 news1 s1 st1 F1 N1 G1 hos1 hdr1
  clear hN hF st
  rw [hst]
  revert hret hlt st1 F1
  generalize textS cs = T
  intro hret hlt st1 F1
  have hTl : T.length ≤ 2000 := by have := hbl.2; rw [hlt] at this; omega
  k_steps
  unfold Stop
  refine plen_step ok st1 hB F1 hX N1 hT rfl (by omega) (by omega) G1 ?_
  intro t2 news2 s2 st2 F2 N2 G2 hos2 hdr2
  clear N1 F1 st1
  rw [hlt]
  obtain ⟨fvs, kf, tvs, n, ps1, ps2, _, hnews, hf, hpr, h1, h2, hsep⟩ := st2.ex
  have hp : (c.p, pobj c.d (refs tvs) n) ∈ news2 := by rw [hnews]; exact .tail _ (.head _)
  have hrd : (c.d, dictOf c.es c.nd) ∈ news2 := by rw [hnews]; exact List.mem_append_right _ (List.mem_append_right _ ok.rd)
  have hcn : (ca, lobj cvs cn) ∈ news2 := by rw [hnews]; exact List.mem_append_right _ (List.mem_append_left _ hce)
  have hpl := hpr.1
  clear hnews hsep
  k_steps
  unfold Stop
  refine partc_call news2 c.p c.d (refs tvs) n c.es c.nd hp hrd mean mg mb loose dp un gd (Str.ofString "law") _ fa cdv [] outer A₀ base h₀ L _ _ _ _ hB F2 hX N2 hT rfl (by omega) (by omega) ?_
  intro t3 h3 tk3 F3 N3
  have hrl : (refs tvs).length = cs.length := by rw [← hpl]; simp [refs]
  rw [hrl]
  clear N2 F2
  k_steps
  unfold Stop
  refine len_strsA (isList_mem N3 hcn) hcs (by omega) ?_
  k_steps
  exact hret _ _ _ ⟨_, rule, extra, ca, cvs, cn, st2, hce, hcs⟩ (by k_asm) (by k_asm) G2 (hos2.trans hos1) (hdr2.trans hdr1)
end
section
local macro_rules | `(tactic| walk_at "zz") => `(tactic| fail)
theorem forget1_36 {prog : Program} {w : World} {A : Around} {Q : Bool → Shared → Prop} {E : Value → Shared → Prop} {s : Shared} (h : wpAny (model prog w) A (truthy (.bool true)) Q E s) : wpAny (model prog w) A (truthy (.bool true)) Q E s := by
  w_top off
  first | (walk1; fail) | exact h
local macro_rules | `(tactic| walk_at "zz") => `(tactic| fail)
theorem forget2_36 {prog : Program} {w : World} {A : Around} {Q : Bool → Shared → Prop} {E : Value → Shared → Prop} {s : Shared} (h : wpAny (model prog w) A (truthy (.bool true)) Q E s) : wpAny (model prog w) A (truthy (.bool true)) Q E s := by
  first | (walk1; fail) | exact h
end
noncomputable section
open Bi
local macro_rules | `(tactic| walk_at "Stop") => `(tactic| (fail "stop"))
local macro_rules | `(tactic| walk_at "call ref") => `(tactic| (refine stopHere ?_))
local macro_rules | `(tactic| walk_at "eval ListComp") => `(tactic| (refine stopHere ?_))
local macro_rules | `(tactic| walk_at "subscriptTail") => `(tactic| (refine stopHere ?_))
local macro_rules | `(tactic| walk_at "compareOp NotEq ref ref") => `(tactic| (refine stopHere ?_))
theorem metS_mem : ∀ (n : Nat) (h : Str) (ss : List Str), ∀ y ∈ metS n h ss, y ∈ ss
  | 0, _, _ => fun y hy => by cases hy
  | n + 1, h, ss => fun y hy => by
    unfold metS at hy
    split at hy
    · cases hy
    · rcases List.mem_append.mp hy with hy | hy
      · exact (List.mem_filter.mp hy).1
      · exact metS_mem n _ ss y hy
theorem pick_init (vs : List Value) : (slicePick vs.toArray none (some (-1)) none).toList = vs.dropLast := by
  have hb : sliceBounds none (some (-1)) none vs.toArray.size = (((0 : Nat) : Int), ((vs.length - 1 : Nat) : Int), 1) := by
    simp [sliceBounds]; omega
  rw [kmk_pick_nat _ hb]
  simp [List.dropLast_eq_take]
section
variable {prog : Program} {w : World} {A : Around} {E : Value → Shared → Prop} {s : Shared} {h₀ : Heap} {L l : Addr} {m : Str → Option Value} {news : List (Addr × Obj)} {value slice : PySem.Expr} {vs : List Value} {n : Nat} {t : Tok} {Q : Value → Shared → Prop}
theorem sl_init (F : Fr h₀ L s.heap m) (N : News h₀ L s.heap news) (m1 : (l, lobj vs n) ∈ news) (hz : vs.length ≤ 1000)
    (hs : subscripted slice false (.ref l) (.ref s.heap.objs.size) = operate [.ref s.heap.objs.size, .ref l] (getItem (.ref l) (.ref s.heap.objs.size)))
    (h : ∀ D h', Fr h₀ L h' m → News h₀ L h' ((D, lobj vs.dropLast 0) :: news) → (∀ p ∈ news, p.1 < D) → Q (.ref D) { s with heap := h' }) :
    wpAny (model prog w) A (subscriptTail value slice (.ref l) (.ref s.heap.objs.size)) Q E { s with heap := s.heap.push { cls := .type "slice", data := .fields #[.none, .int (-1) t, .none] } } :=
  kba_turn (value' := .Name (Str.ofString "") default) (fun r => rfl) (kmk_slice_lit F N (isList_mem N m1) .none (.int _ _) (pick_init vs) h hs (fun _ => rfl) (by rw [List.size_toArray]; simp only [sizeLine]; omega))
theorem sl_rev {ops : List Value} (F : Fr h₀ L s.heap m) (N : News h₀ L s.heap news) (m1 : (l, lobj vs n) ∈ news) (hz : vs.length ≤ 1000)
    (hs : subscripted slice false (.ref l) (.ref s.heap.objs.size) = operate ops (getItem (.ref l) (.ref s.heap.objs.size)))
    (h : ∀ D h', Fr h₀ L h' m → News h₀ L h' ((D, lobj vs.reverse 0) :: news) → (∀ p ∈ news, p.1 < D) → Q (.ref D) { s with heap := h' }) :
    wpAny (model prog w) A (subscriptTail value slice (.ref l) (.ref s.heap.objs.size)) Q E { s with heap := s.heap.push { cls := .type "slice", data := .fields #[.none, .none, .int (-1) t] } } :=
  kba_turn (value' := .Name (Str.ofString "") default) (fun r => rfl) (kmk_slice3_lit F N (isList_mem N m1) .none .none (.int _ _) (by decide) (by rw [krv_pick]) h hs (fun _ => rfl) (by rw [List.size_toArray]; simp only [sizeLine]; omega))
end
theorem strs_init {vs : List Value} {ss : List Str} (h : StrsAre vs ss) : StrsAre vs.dropLast ss.dropLast := by
  rw [List.dropLast_eq_take, List.dropLast_eq_take, h.len_eq]; exact h.take' _
abbrev dotF (cs : List Str) : List Str := (cs.dropLast.reverse).filter fun o => Txt.contains o (Str.ofString ".")
theorem body7 {w : World} (G : Heap → Prop) (c : Cx) (x : Str) (tx : Tok) (offs ns : List Str) (rest : List (Addr × Obj)) (ok : CxOk c rest) (hx : x ∈ c.os) (hmet : metS 4 (Txt.lower x) c.os = dotF (chainS x c.os)) :
    Seg w (bodySt w 7) G (fun m news => ∃ a rule extra ca cvs cn, PileX c x tx a (some (.ref ca)) rule offs ns m extra rest news ∧ (ca, lobj cvs cn) ∈ extra ∧ StrsAre cvs (chainS x c.os))
      (fun m news => ∃ rule extra, PileSt c x tx rule offs ns m extra rest news) := by
  walk_at "m.introSeg"
  obtain ⟨a, rule, extra, ca, cvs, cn, st, hce, hcs⟩ := hPre
  obtain ⟨hm, he, hr⟩ := st.shape
  have hcn := he _ hce
  have hro := hr _ ok.ro
  have hlen := ok.nm.len
  have hcl := chainS_len hx
  have hcm := chainS_mem hx
  subst hm
  generalize chainS x c.os = cs at hcs hcl hcm hret hmet ⊢
  k_steps
  unfold Stop
  refine met_call news x tx c.ol c.ovs c.ko c.os hro ok.ho (ok.nm.gd x hx).len (ok.nm.hosts x hx) (fun o ho => (ok.nm.gd o ho).len) (by omega) mean mg mb loose dp un gd (Str.ofString "law") _ fa cdv [] outer A₀ base h₀ L _ _ _ _ hB hF hX hN hT rfl (by omega) (by omega) ?_
  intro ma ws mn h' tk' hws F N hlt
  rw [hmet] at hws
  k_steps
  unfold Stop
  refine LCt.ListComp_T (F₀ := F) (by with_unfolding_all rfl) (by decide) (by rfl) (by decide) (by rfl) ?_
  k_steps
  unfold Stop
  refine sl_init F N (.tail _ hcn) (by rw [hcs.len_eq]; omega) (by with_unfolding_all rfl) ?_
  intro D1 h1 F1 N1 l1
  k_steps
  unfold Stop
  refine sl_rev F1 N1 (.head _) (by rw [List.length_dropLast, hcs.len_eq]; omega) (by with_unfolding_all rfl) ?_
  intro D2 h2 F2 N2 l2
  have hrs := strsAre_reverse (strs_init hcs)
  refine LCt.CompSrcT.ledger rfl F2 N2 (.head _) (by rw [List.size_toArray, List.length_reverse, List.length_dropLast, hcs.len_eq]; simp only [sizeLine]; omega) ?_
  intro g6
  clear F N F1 N1
  refine restT (fun o => Txt.contains o (Str.ofString ".")) hrs ?_ ?_ (.inr ⟨_, .head _, rfl, _, rfl⟩) ?_
  · intro y1 ty I oI C oC D m₂ ys h tk8 E' hy1 hC hx1 F N off ne
    clear F2 N2 hN hF
    k_steps
    all_goals first | exact F | exact N | rfl
  · intro y1 ty I oI C oC D m₂ ys h tk8 E' hy1 hC hx1 F N
    clear F2 N2 hN hF
    k_steps
    all_goals first | exact F | exact N | rfl
  · intro ys hys
    unfold LCg.FinE
    intro D h7 tk7 F7 N7 off7
    clear F2 N2 hN hF
    (try dsimp only)
    k_steps
    unfold Stop
    have hys' : StrsAre ys (dotF cs) := hys
    have hdo : ∀ y ∈ dotF cs, PyData.strOk y = true := fun y hy => ok.nm.ok y (hcm y ((List.dropLast_sublist _).subset (List.mem_reverse.mp (List.mem_filter.mp hy).1)))
    refine ne_strs (isList_mem (vs := ws) (n := mn) N7 (.tail _ (.tail _ (.tail _ (.head _))))) (isList_mem (vs := ys) (n := ys.length) N7 (.head _)) hws hys' hdo hdo (by show un + 64 < cLine; omega) ?_
    rw [show (!decide (dotF cs = dotF cs)) = false by simp]
    have N8 := news_sub N7 (ns := news) fun p hp => .tail _ (.tail _ (.tail _ (.tail _ hp)))
    clear N7
    k_steps
    exact hret _ _ _ ⟨rule, extra, st.st⟩ (by k_asm) (by k_asm) hAB rfl rfl
end
section
local macro_rules | `(tactic| walk_at "zz") => `(tactic| fail)
theorem forget1_37 {prog : Program} {w : World} {A : Around} {Q : Bool → Shared → Prop} {E : Value → Shared → Prop} {s : Shared} (h : wpAny (model prog w) A (truthy (.bool true)) Q E s) : wpAny (model prog w) A (truthy (.bool true)) Q E s := by
  w_top off
  first | (walk1; fail) | exact h
local macro_rules | `(tactic| walk_at "zz") => `(tactic| fail)
theorem forget2_37 {prog : Program} {w : World} {A : Around} {Q : Bool → Shared → Prop} {E : Value → Shared → Prop} {s : Shared} (h : wpAny (model prog w) A (truthy (.bool true)) Q E s) : wpAny (model prog w) A (truthy (.bool true)) Q E s := by
  first | (walk1; fail) | exact h
end
noncomputable section
open Bi
def stepS (st : List Str × List Str) (x : Str) : List Str × List Str := (st.1 ++ st.2.reverse.takeWhile (fun y => !mtch x y), (st.2.reverse.dropWhile (fun y => !mtch x y)).reverse ++ [x])
def stateS (l : List Str) : List Str × List Str := l.foldl stepS ([], [])
theorem stateS_snoc (l : List Str) (i : Nat) {x : Str} (h : l[i]? = some x) : stateS (l.take (i + 1)) = stepS (stateS (l.take i)) x := by
  unfold stateS
  rw [List.take_add_one, h, List.foldl_append]
  rfl
theorem stepS_len (st : List Str × List Str) (x : Str) : (stepS st x).1.length + (stepS st x).2.length = st.1.length + st.2.length + 1 := by
  unfold stepS
  have := congrArg List.length (List.takeWhile_append_dropWhile (p := fun y => !mtch x y) (l := st.2.reverse))
  simp only [List.length_append, List.length_reverse, List.length_singleton] at this ⊢
  omega
theorem foldS_len (l : List Str) : ∀ st, (l.foldl stepS st).1.length + (l.foldl stepS st).2.length = st.1.length + st.2.length + l.length := by
  induction l with
  | nil => intro st; rfl
  | cons x r ih => intro st; rw [List.foldl_cons, ih, stepS_len, List.length_cons]; omega
theorem stateS_len (l : List Str) : (stateS l).1.length + (stateS l).2.length = l.length := by
  have := foldS_len l ([], [])
  simpa [stateS] using this
theorem foldS_mem {P : Str → Prop} (l : List Str) : ∀ st : List Str × List Str, (∀ y ∈ st.2, P y) → (∀ y ∈ l, P y) → ∀ y ∈ (l.foldl stepS st).2, P y := by
  induction l with
  | nil => intro st h _; exact h
  | cons x r ih =>
    intro st h hl
    rw [List.foldl_cons]
    refine ih _ ?_ fun y hy => hl y (.tail _ hy)
    intro y hy
    rcases List.mem_append.mp hy with hy | hy
    · exact h y (List.mem_reverse.mp ((List.dropWhile_sublist _).subset (List.mem_reverse.mp hy)))
    · rw [List.mem_singleton.mp hy]; exact hl x (.head _)
abbrev m6o (l nl ol p fl : Addr) (u v : Option Value) (i : Int) (t : Tok) (a b c e : Option Value) : Str → Option Value := fun y =>
  if y = Str.ofString "text" then a else if y = Str.ofString "chain" then b else if y = Str.ofString "rule" then c else if y = Str.ofString "name" then e else m5 l nl ol p fl u v i t y
theorem m5_o (l nl ol p fl : Addr) (u v : Option Value) (i : Int) (t : Tok) : m5 l nl ol p fl u v i t = m6o l nl ol p fl u v i t none none none u := by
  funext y
  by_cases h1 : y = Str.ofString "text"
  · subst h1; rfl
  · by_cases h2 : y = Str.ofString "chain"
    · subst h2; rfl
    · by_cases h3 : y = Str.ofString "rule"
      · subst h3; rfl
      · by_cases h4 : y = Str.ofString "name"
        · subst h4; rfl
        · simp [m6o, h1, h2, h3, h4]
theorem m6o_name {l nl ol p fl : Addr} {u v : Option Value} {i : Int} {t : Tok} {a b c e : Option Value} {z : Value} : (fun y => if y = Str.ofString "name" then some z else m6o l nl ol p fl u v i t a b c e y) = m6 l nl ol p fl u v i t a b c z := by
  funext y
  by_cases h1 : y = Str.ofString "name"
  · subst h1; rfl
  · simp [m6o, m6, h1]
section
variable {w : World} {st : Stmt} {rest : List Stmt} {G : Heap → Prop} {Pre Post : (Str → Option Value) → List (Addr × Obj) → Prop}
theorem seg_run (h : Seg w st G Pre Post) {mean : ExcName → Option Value} {mg mb : Str → Option Value} {loose : List Str} {dp un : Nat} {gd : Option (List Code)} {fa : Addr} {cdv : Value} {outer : List Env} {A₀ : Around} {base h₀ : Heap} {L : Addr} {m : Str → Option Value} {news : List (Addr × Obj)} {s : Shared} {Q : Flow → Shared → Prop}
    (hG : G h₀) (hPre : Pre m news) (hB : Below A₀ base outer h₀) (hF : Fr h₀ L s.heap m) (hX : (hd.heap_39 w.params).In h₀) (hN : News h₀ L s.heap news) (hT : Top topProg loose mean mg mb h₀) (hdp : dp + 10 < recursionLimit) (hun : un + 1000 < cLine) (hAB : AllBare s.gens)
    (hret : ∀ m' news' s', Post m' news' → Fr h₀ L s'.heap m' → News h₀ L s'.heap news' → AllBare s'.gens → s'.os = s.os → s'.drawn = s.drawn →
      wpAny (model PySem.Challenge.rw_qu0014_01.row.prog w) (ktrTop dp un gd (Str.ofString "law") (lawSc w) L fa cdv [] outer) (execs rest (lawEnv w L fa cdv)) Q Nv s') :
    wpAny (model PySem.Challenge.rw_qu0014_01.row.prog w) (ktrTop dp un gd (Str.ofString "law") (lawSc w) L fa cdv [] outer) (execs (st :: rest) (lawEnv w L fa cdv)) Q Nv s := by
  refine wpAny_execs_cons ?_
  exact h mean mg mb loose dp un gd fa cdv outer A₀ base h₀ L m news s _ hG hPre hB hF hX hN hT hdp hun hAB fun m' news' s' a1 a2 a3 a4 a5 a6 => hret m' news' s' a1 a2 a3 a4 a5 a6
end
abbrev Jx (c : Cx) (i : Nat) (m : Str → Option Value) (hs : List (Addr × Obj)) : Prop :=
  ∃ fvs kf tvs n ps1 ps2 a b r e, m = m6o c.l c.nl c.ol c.p c.fl c.u c.v c.i c.t a b r e ∧ hs = HD c.fl fvs kf c.p c.d tvs n ps1 ps2 ∧ StrsAre fvs (stateS (c.os.take i)).1 ∧ Pairs tvs (stateS (c.os.take i)).2 ∧ tabF posLen ps1 ∧ tabF posStr ps2 ∧ (hs.map (·.1)).Nodup
theorem turn_body {w : World} (G : Heap → Prop) (c : Cx) (x : Str) (tx : Tok) (i : Nat) (hi : c.os[i]? = some x) (rest : List (Addr × Obj)) (ok : CxOk c rest) (hpl : (stateS (c.os.take (i + 1))).2 = chainS x c.os) (hmet : metS 4 (Txt.lower x) c.os = dotF (chainS x c.os))
    {mean : ExcName → Option Value} {mg mb : Str → Option Value} {loose : List Str} {dp un : Nat} {gd : Option (List Code)} {fa : Addr} {cdv : Value} {outer : List Env} {A₀ : Around} {base h₀ : Heap} {L : Addr} {m₁ : Str → Option Value} {hs : List (Addr × Obj)} {s : Shared} {Q : Flow → Shared → Prop}
    (hG : G h₀) (hJ : Jx c i m₁ hs) (hsep : ∀ p ∈ rest, p.1 ∉ hs.map (·.1)) (hB : Below A₀ base outer h₀) (hF : Fr h₀ L s.heap (fun y => if y = Str.ofString "name" then some (.str x tx) else m₁ y)) (hX : (hd.heap_39 w.params).In h₀) (hN : News h₀ L s.heap (hs ++ rest)) (hT : Top topProg loose mean mg mb h₀) (hdp : dp + 10 < recursionLimit) (hun : un + 1000 < cLine) (hAB : AllBare s.gens)
    (hret : ∀ m' hs' s', Jx c (i + 1) m' hs' → (∀ p ∈ rest, p.1 ∉ hs'.map (·.1)) → Fr h₀ L s'.heap m' → News h₀ L s'.heap (hs' ++ rest) → AllBare s'.gens → s'.os = s.os → s'.drawn = s.drawn → Q .next s') :
    wpAny (model PySem.Challenge.rw_qu0014_01.row.prog w) (ktrTop dp un gd (Str.ofString "law") (lawSc w) L fa cdv [] outer) (execs [bodySt w 0, bodySt w 1, bodySt w 2, bodySt w 3, bodySt w 4, bodySt w 5, bodySt w 6, bodySt w 7] (lawEnv w L fa cdv)) Q Nv s := by
  have hx : x ∈ c.os := List.mem_of_getElem? hi
  have hsl := stateS_len (c.os.take i)
  have hos := ok.nm.len
  have hsm : ∀ y ∈ (stateS (c.os.take i)).2, y ∈ c.os := foldS_mem (P := fun y => y ∈ c.os) _ ([], []) (fun y hy => by cases hy) fun y hy => List.mem_of_mem_take hy
  have hsn := stateS_snoc c.os i hi
  rw [List.length_take] at hsl
  obtain ⟨fvs, kf, tvs, n, ps1, ps2, a, b, r, e, rfl, rfl, hf, hpr, h1, h2, hnd⟩ := hJ
  rw [m6o_name] at hF
  revert hsl hsm hsn hf hpr
  generalize stateS (c.os.take i) = sp
  obtain ⟨offs, ns⟩ := sp
  intro hsl hsm hsn hf hpr
  dsimp only at hsl hsm hf hpr
  have st0 : PileSt c x tx r offs ns (m6 c.l c.nl c.ol c.p c.fl c.u c.v c.i c.t a b r (.str x tx)) [] rest (HD c.fl fvs kf c.p c.d tvs n ps1 ps2 ++ rest) :=
    ⟨⟨a, b, fvs, kf, tvs, n, ps1, ps2, rfl, rfl, hf, hpr, h1, h2, hnd, hsep⟩, hsm, by omega, by omega⟩
  refine seg_run (body0 G c x tx offs ns rest ok) hG ⟨r, [], st0⟩ hB hF hX hN hT hdp hun hAB ?_
  rintro m1' news1 s1 ⟨ra, extra1, st1, hr1⟩ F1 N1 G1 os1 dr1
  have hcur : (curL ns.getLast? ns.dropLast).length = ns.length := by rw [curL_pop, List.length_reverse]
  refine seg_run (body1 G c x tx offs ns.reverse rest ok hx) hG ⟨ra, extra1, offs, ns.getLast?, ns.dropLast, st1, hr1, ⟨by rw [curL_pop], by rw [curL_pop], fun e => by rw [List.getLast?_eq_none_iff] at e; rw [e]; rfl⟩, fun y hy => hsm y (List.mem_of_getLast? hy), by omega, by rw [List.length_dropLast]; omega⟩ hB F1 hX N1 hT hdp hun G1 ?_
  rintro m2' news2 s2 ⟨ra2, extra2, cur, rs, st2, hr2, hcm, hdr, hl2, hl2'⟩ F2 N2 G2 os2 dr2
  have hle : (curL cur rs).length ≤ ns.length := by
    rw [← hdr]
    have := (List.dropWhile_sublist (l := ns.reverse) (fun y => !mtch x y)).length_le
    rwa [List.length_reverse] at this
  have hcl : (curL cur rs).length = cur.toList.length + rs.length := by simp [curL]
  refine seg_run (body2 G c x tx _ cur rs rest ok hcm (by omega) (by omega)) hG ⟨ra2, extra2, st2, hr2⟩ hB F2 hX N2 hT hdp hun G2 ?_
  rintro m3' news3 s3 ⟨ru3, extra3, st3⟩ F3 N3 G3 os3 dr3
  have hkept : rs ++ cur.toList = (ns.reverse.dropWhile (fun y => !mtch x y)).reverse := by
    rw [hdr]; unfold curL
    cases cur <;> simp
  have hkl : (rs ++ cur.toList).length = (curL cur rs).length := by rw [hcl, List.length_append]; omega
  refine seg_run (body3 G c x tx _ (rs ++ cur.toList) rest ok hx (by omega) (by omega)) hG ⟨ru3, extra3, st3⟩ hB F3 hX N3 hT hdp hun G3 ?_
  rintro m4' news4 s4 ⟨ru4, extra4, st4⟩ F4 N4 G4 os4 dr4
  have hchain : rs ++ cur.toList ++ [x] = chainS x c.os := by rw [← hpl, hsn, stepS, hkept]
  rw [hchain] at st4
  refine seg_run (body4 G c x tx _ (chainS x c.os) rest ok hx) hG ⟨ru4, extra4, st4⟩ hB F4 hX N4 hT hdp hun G4 ?_
  rintro m5' news5 s5 ⟨a5, ru5, extra5, ca5, cvs5, cn5, st5, hce5, hcs5⟩ F5 N5 G5 os5 dr5
  refine seg_run (body5 G c x tx _ (chainS x c.os) rest ok hx) hG ⟨a5, ru5, extra5, ca5, cvs5, cn5, st5, hce5, hcs5⟩ hB F5 hX N5 hT hdp hun G5 ?_
  rintro m6' news6 s6 ⟨a6, ru6, extra6, ca6, cvs6, cn6, st6, hce6, hcs6⟩ F6 N6 G6 os6 dr6
  refine seg_run (body6 G c x tx _ rest ok hx) hG ⟨a6, ru6, extra6, ca6, cvs6, cn6, st6, hce6, hcs6⟩ hB F6 hX N6 hT hdp hun G6 ?_
  rintro m7' news7 s7 ⟨a7, ru7, extra7, ca7, cvs7, cn7, st7, hce7, hcs7⟩ F7 N7 G7 os7 dr7
  refine seg_run (body7 G c x tx _ (chainS x c.os) rest ok hx hmet) hG ⟨a7, ru7, extra7, ca7, cvs7, cn7, st7, hce7, hcs7⟩ hB F7 hX N7 hT hdp hun G7 ?_
  rintro m8' news8 s8 ⟨ru8, extra8, st8⟩ F8 N8 G8 os8 dr8
  refine wpAny_execs_nil ?_
  obtain ⟨⟨a', b', fvs', kf', tvs', n', ps1', ps2', rfl, rfl, hf', hpr', h1', h2', hnd', hsep'⟩, _, _, _⟩ := st8
  refine hret _ (HD c.fl fvs' kf' c.p c.d tvs' n' ps1' ps2') s8 ⟨fvs', kf', tvs', n', ps1', ps2', a', b', ru8, some (.str x tx), rfl, rfl, ?_, ?_, h1', h2', hnd'⟩ (fun q hq => hsep' q (List.mem_append_right _ hq)) F8 (news_sub N8 fun q hq => ?_) G8 ?_ ?_
  · rw [hsn]; exact hf'
  · rw [hpl]; exact hpr'
  · rcases List.mem_append.mp hq with hq | hq
    · exact List.mem_append_left _ hq
    · exact List.mem_append_right _ (List.mem_append_right _ hq)
  · rw [os8, os7, os6, os5, os4, os3, os2, os1]
  · rw [dr8, dr7, dr6, dr5, dr4, dr3, dr2, dr1]
end
section
local macro_rules | `(tactic| walk_at "zz") => `(tactic| fail)
theorem forget1_38 {prog : Program} {w : World} {A : Around} {Q : Bool → Shared → Prop} {E : Value → Shared → Prop} {s : Shared} (h : wpAny (model prog w) A (truthy (.bool true)) Q E s) : wpAny (model prog w) A (truthy (.bool true)) Q E s := by
  w_top off
  first | (walk1; fail) | exact h
local macro_rules | `(tactic| walk_at "zz") => `(tactic| fail)
theorem forget2_38 {prog : Program} {w : World} {A : Around} {Q : Bool → Shared → Prop} {E : Value → Shared → Prop} {s : Shared} (h : wpAny (model prog w) A (truthy (.bool true)) Q E s) : wpAny (model prog w) A (truthy (.bool true)) Q E s := by
  first | (walk1; fail) | exact h
end
noncomputable section
open Bi
abbrev TC (c : Cx) : List (Addr × Obj) := [(c.d, dictOf c.es c.nd), (c.ol, lobj c.ovs c.ko), (c.nl, lobj c.nvs c.kn)]
abbrev tl0 : List (Addr × Obj) := [(120, tabO #[]), (113, tabO #[])]
def Good6 (os : List Str) : Prop := Names os ∧ ∀ (i : Nat) (x : Str), os[i]? = some x → (stateS (os.take (i + 1))).2 = chainS x os ∧ metS 4 (Txt.lower x) os = dotF (chainS x os)
def P6 (l nl : Addr) (ns : List Int) (ss : List Str) (m : Str → Option Value) (news : List (Addr × Obj)) : Prop :=
  ∃ c : Cx, c.l = l ∧ c.nl = nl ∧ c.i = firstS ns ∧ c.ss = ss ∧ c.os.Perm ss ∧ c.os.Pairwise (fun a b => ltS (behindS a) (behindS b) = true) ∧ CxOk c (TC c) ∧ ∃ hs, Jx c c.os.length m hs ∧ news = hs ++ TC c ∧ ∀ p ∈ TC c, p.1 ∉ hs.map (·.1)
theorem wp_cong {M : Model} {A A' : Around} {b b' : List Stmt} {env env' : Env} {Q : Flow → Shared → Prop} {E : Value → Shared → Prop} {s : Shared} (hA : A' = A) (hb : b' = b) (he : env' = env) (h : wpAny M A' (execs b' env') Q E s) : wpAny M A (execs b env) Q E s := by
  subst hA hb he; exact h
local macro_rules | `(tactic| walk_at "Stop") => `(tactic| (fail "stop"))
local macro_rules | `(tactic| walk_at "pyIter ref") => `(tactic| (refine stopHere ?_))
local macro_rules | `(tactic| walk_at "exec For") => `(tactic| (refine wpAny_For ?_))
theorem seg6 {w : World} (l : Addr) (vs : List Value) (ns : List Int) (nl : Addr) (ss : List Str) (h120 : 120 < nl) (H : ∀ os : List Str, os.Perm ss → os.Pairwise (fun a b => ltS (behindS a) (behindS b) = true) → Good6 os) :
    Seg w (lawSt w 6) (GS l vs ns) (P5 l nl ns ss tl0) (P6 l nl ns ss) := by
  walk_at "m.introSeg"
  obtain ⟨u, v, nvs, k, ol, ovs, co, os, t, p, d, n, es, nd, fl, rfl, rfl, hss, hos, hp, hpw, hPD, ho, h1, h2, h3⟩ := hPre
  obtain ⟨hnm, hgood⟩ := H os hp hpw
  refine wpAny_For ?_
  walk1
  have q0 : @LT.lt Nat _ 120 nl := h120
  have q1 : @LT.lt Nat _ nl ol := ho
  have q2 : @LT.lt Nat _ ol d := h1
  have q3 : @LT.lt Nat _ d p := h2
  have q4 : @LT.lt Nat _ p fl := h3
  let c : Cx := ⟨l, nl, ol, p, d, fl, u, v, firstS ns, t, nvs, ovs, k, co, es, nd, ss, os⟩
  have hN' : News h₀ L s.heap (HD fl [] 0 p d [] n #[] #[] ++ TC c) := news_sub hN fun q hq => by
    simp only [HD, tups, refs, TC, tl0, List.map_nil, List.mem_cons, List.mem_append, List.cons_append, List.nil_append, List.not_mem_nil, or_false] at hq ⊢
    grind
  have ok : ∀ rest, (∀ q ∈ TC c, q ∈ rest) → CxOk c rest := fun rest hr => ⟨hnm, hPD, hos, hss, hr _ (.head _), hr _ (.tail _ (.head _))⟩
  have hJ0 : Jx c 0 (m5 l nl ol p fl u v (firstS ns) t) (HD fl [] 0 p d [] n #[] #[]) := by
    refine ⟨[], 0, [], n, #[], #[], none, none, none, u, m5_o .., rfl, .nil, ⟨rfl, fun i t h => by simp at h⟩, .inl rfl, .inl rfl, ?_⟩
    rw [addr_hd]
    simp only [List.map_nil, List.nodup_cons, List.mem_cons, List.not_mem_nil, or_false, not_or, List.nodup_nil, not_false_eq_true, and_true]
    refine ⟨⟨?_, ?_, ?_⟩, ⟨?_, ?_⟩, ?_⟩ <;> (intro e; have e' : @Eq Nat _ _ := e; omega)
  have hsep0 : ∀ q ∈ TC c, q.1 ∉ (HD fl [] 0 p d [] n #[] #[]).map (·.1) := by
    rw [addr_hd]
    intro q hq
    simp only [TC, List.mem_cons, List.not_mem_nil, or_false] at hq
    simp only [List.map_nil, List.mem_cons, List.not_mem_nil, or_false, not_or]
    rcases hq with rfl | rfl | rfl <;> (refine ⟨?_, ?_, ?_, ?_⟩ <;> (intro e; have e' : @Eq Nat _ _ := e; simp only [c] at e'; omega))
  refine loopH (hs₀ := HD fl [] 0 p d [] n #[] #[]) (tl := TC c) (l := ol) (vs := ovs) (nl := co) (fun i m hs g => AllBare g ∧ Jx c i m hs) rfl rfl rfl hF hN' (.tail _ (.head _)) hsep0 ⟨hAB, hJ0⟩ ?_ ?_
  · rintro i v₁ m₁ hs s₁ rest hv ⟨hg, hJ⟩ hsep hsub hos1 hdr1 F N
    obtain ⟨x, tx, rfl, hxi⟩ := hos.item i v₁ hv
    obtain ⟨g1, g2⟩ := hgood i x hxi
    refine wp_cong (A' := ktrTop dp un gd (Str.ofString "law") (lawSc w) (lawEnv w L fa cdv).locals fa cdv [] outer) (b' := [bodySt w 0, bodySt w 1, bodySt w 2, bodySt w 3, bodySt w 4, bodySt w 5, bodySt w 6, bodySt w 7]) (env' := lawEnv w L fa cdv) ?_ ?_ ?_ ?_
    · dsimp only [lawEnv]; rw [lawSc_eq]; rfl
    · simp only [bodySt_eq]; rfl
    · dsimp only [lawEnv]; rw [lawSc_eq]; rfl
    refine turn_body (GS l vs ns) c x tx i hxi rest (ok rest hsub) g1 g2 hG hJ hsep hB F hX N hT hdp hun hg ?_
    intro m' hs' s' hJ' hsep' F' N' G' o' d'
    exact ⟨m', hs', o'.trans hos1, d'.trans hdr1, ⟨G', hJ'⟩, hsep', F', N'⟩
  · rintro m₁ hs s₁ ⟨hg, hJ⟩ hos1 hdr1 hsep F N
    rw [hos.len_eq] at hJ
    exact hret _ _ _ ⟨c, rfl, rfl, rfl, rfl, hp, hpw, ok _ fun q hq => hq, hs, hJ, rfl, hsep⟩ F N hg hos1 hdr1
end
section
local macro_rules | `(tactic| walk_at "zz") => `(tactic| fail)
theorem forget1_39 {prog : Program} {w : World} {A : Around} {Q : Bool → Shared → Prop} {E : Value → Shared → Prop} {s : Shared} (h : wpAny (model prog w) A (truthy (.bool true)) Q E s) : wpAny (model prog w) A (truthy (.bool true)) Q E s := by
  w_top off
  first | (walk1; fail) | exact h
local macro_rules | `(tactic| walk_at "zz") => `(tactic| fail)
theorem forget2_39 {prog : Program} {w : World} {A : Around} {Q : Bool → Shared → Prop} {E : Value → Shared → Prop} {s : Shared} (h : wpAny (model prog w) A (truthy (.bool true)) Q E s) : wpAny (model prog w) A (truthy (.bool true)) Q E s := by
  first | (walk1; fail) | exact h
end
noncomputable section
open Bi
theorem pairs_rev {tvs : List (Addr × Value × Value)} {ns : List Str} (h : Pairs tvs ns) : Pairs tvs.reverse ns.reverse := by
  refine ⟨by rw [List.length_reverse, List.length_reverse, h.1], fun i t hi => ?_⟩
  have hlt : i < tvs.length := by have := (List.getElem?_eq_some_iff.mp hi).1; rwa [List.length_reverse] at this
  rw [List.getElem?_reverse hlt] at hi
  obtain ⟨tx, ty, h1, h2⟩ := h.2 _ t hi
  refine ⟨tx, ty, h1, ?_⟩
  rw [h2, List.getD_eq_getElem?_getD, List.getD_eq_getElem?_getD, List.getElem?_reverse (by rw [← h.1]; exact hlt), h.1]
section
variable {prog : Program} {w : World} {A : Around} {E : Value → Shared → Prop} {s : Shared} {h₀ : Heap} {L : Addr} {m : Str → Option Value} {env : Env} {elt : Expr} {x x₂ : Str} {scope : Scope} {cl : List (Str × Addr)} {S : List (Addr × Obj) → Prop} {Fin : List Value → List (Addr × Obj) → Prop} {news : List (Addr × Obj)}
theorem restP {tvs : List (Addr × Value × Value)} {ss : List Str} (hp : Pairs tvs ss) (hm : ∀ t ∈ tvs, (t.1, tobj t.2.1 t.2.2) ∈ news)
    (turn : ∀ y tx ty I oI C oC D m₂ ys h tk (E' : Value → Shared → Prop), y ∈ ss → LCg.NsObj oC m₂ → m₂ x = some (.str (Str.ofString ".") tx) → m₂ x₂ = some (.str y ty) → Fr h₀ L h m → News h₀ L h ((I, oI) :: (C, oC) :: (D, LCg.lst ys) :: news) → LCg.Off3 I C D news → ((@Ne Nat I C) ∧ (@Ne Nat I D) ∧ (@Ne Nat C D)) →
      wpAny (model prog w) A (eval elt (compEnvC scope cl C env)) (LCg.CompEnd h₀ L m { s with heap := h, toks := tk } I oI C oC D (LCg.lst ys) S (fun v nw => nw = news ∧ ∃ t', v = .str y t')) E' { s with heap := h, toks := tk })
    (fin : ∀ ys, StrsAre ys ss → Fin ys news) : LCp.CompRestP prog w A h₀ L m env elt x x₂ scope cl s S (fun i v => (refs tvs).toArray[i]? = some v) Fin (refs tvs).toArray.size 0 [] news := by
  have hn : (refs tvs).toArray.size = ss.length := by simp [refs, hp.1]
  rw [hn]
  have key : ∀ (j i : Nat) (ys : List Value), i + j = ss.length → StrsAre ys (ss.take i) → LCp.CompRestP prog w A h₀ L m env elt x x₂ scope cl s S (fun i v => (refs tvs).toArray[i]? = some v) Fin j i ys news := by
    intro j
    induction j with
    | zero =>
      intro i ys he hy
      rw [List.take_of_length_le (by omega)] at hy
      exact LCp.CompRestP.zero (fin ys hy)
    | succ j ih =>
      intro i ys he hy
      refine LCp.CompRestP.succ ?_
      intro v hv
      obtain ⟨t, ht, rfl⟩ : ∃ t, tvs[i]? = some t ∧ .ref t.1 = v := by
        have : (refs tvs)[i]? = some v := by simpa using hv
        rw [List.getElem?_map] at this
        exact Option.map_eq_some_iff.mp this
      obtain ⟨tx, ty, e1, e2⟩ := hp.2 i t ht
      have hi : i < ss.length := by omega
      have hyi : ss[i]? = some (ss.getD i (Str.ofString "")) := by rw [List.getD_eq_getElem?_getD, List.getElem?_eq_getElem hi]; rfl
      refine ⟨t.1, tobj t.2.1 t.2.2, t.2.1, t.2.2, 0, rfl, hm t (List.mem_of_getElem? ht), rfl, rfl, ?_⟩
      intro I oI C oC D m₂ h tk E' hC hx1 hx2 F N off ne
      rw [e1] at hx1
      rw [e2] at hx2
      refine wpAny_mono (turn _ tx ty I oI C oC D m₂ ys h tk E' (List.mem_of_getElem? hyi) hC hx1 hx2 F N off ne) (fun z s₂ hq => ?_) fun _ _ e => e
      obtain ⟨h', tk', nw, e, F', N', off', hS, hnw, t', hz⟩ := hq
      rw [hnw] at N' off' hS
      refine ⟨h', tk', news, e, F', N', off', hS, ?_⟩
      rw [hz]
      refine ih (i + 1) _ (by omega) ?_
      rw [List.take_add_one, hyi]
      exact hy.append' (.cons _ _ .nil)
  exact key ss.length 0 [] (by omega) (by simpa using .nil)
end
abbrev m7 (c : Cx) (a b r e : Option Value) (xr : Addr) : Str → Option Value := fun y => if y = Str.ofString "rest" then some (.ref xr) else m6o c.l c.nl c.ol c.p c.fl c.u c.v c.i c.t a b r e y
structure Cx7 (c : Cx) (l nl : Addr) (ns : List Int) (ss : List Str) : Prop where
  hl : c.l = l
  hnl : c.nl = nl
  hi : c.i = firstS ns
  hss : c.ss = ss
  perm : c.os.Perm ss
  pw : c.os.Pairwise (fun a b => ltS (behindS a) (behindS b) = true)
  ok : CxOk c (TC c)
def P7 (l nl : Addr) (ns : List Int) (ss : List Str) (m : Str → Option Value) (news : List (Addr × Obj)) : Prop :=
  ∃ c : Cx, Cx7 c l nl ns ss ∧ ∃ a b r e xr n2 fvs kf tvs n ps1 ps2, m = m7 c a b r e xr ∧ news = HD c.fl fvs kf c.p c.d [] n ps1 ps2 ++ ((xr, lobj (refs tvs) n2) :: (tups tvs ++ TC c)) ∧ StrsAre fvs (stateS c.os).1 ∧ Pairs tvs (stateS c.os).2 ∧ tabF posLen ps1 ∧ tabF posStr ps2 ∧ Sep (HD c.fl fvs kf c.p c.d [] n ps1 ps2) ((xr, lobj (refs tvs) n2) :: (tups tvs ++ TC c))
local macro_rules | `(tactic| walk_at "Stop") => `(tactic| (fail "stop"))
local macro_rules | `(tactic| k_inst) => `(tactic| (refine inst_pile (by k_asm) (by walk_at "m.mem") (by walk_at "m.mem")))
local macro_rules | `(tactic| walk_at "m.mem") => `(tactic| (first | assumption | (refine List.Mem.tail _ ?_; assumption)))
local macro_rules | `(tactic| walk_at "getMethod ref") => `(tactic| (refine gm_any (f := .ref 103) (Frag.In.keeps (by k_asm) (Fr.keep (by k_asm))) (by k_inst) (by kernel_rfl) (looks_typeIn (Frag.In.keeps (by k_asm) (Fr.keep (by k_asm))) (by kernel_rfl)) (.inl rfl) (by assumption) ?_; (try dsimp only)))
local macro_rules | `(tactic| walk_at "call ref") => `(tactic| (refine stopHere ?_))
theorem seg7 {w : World} (l : Addr) (vs : List Value) (ns : List Int) (nl : Addr) (ss : List Str) (h13 : ss.length ≤ 13) :
    Seg w (lawSt w 7) (GS l vs ns) (P6 l nl ns ss) (P7 l nl ns ss) := by
  walk_at "m.introSeg"
  obtain ⟨c, e1, e2, e3, e4, hperm, hpw, ok, hs, ⟨fvs, kf, tvs, n, ps1, ps2, a, b, r, e, rfl, rfl, hf, hpr, h1, h2, hnd⟩, hnews, hsep⟩ := hPre
  have hlen := hperm.length_eq
  have hsl := stateS_len (c.os.take c.os.length)
  rw [List.take_of_length_le (Nat.le_refl _)] at hf hpr hsl
  have hp : (c.p, pobj c.d (refs tvs) n) ∈ news := by rw [hnews]; exact .tail _ (.head _)
  have hrd : (c.d, dictOf c.es c.nd) ∈ news := by rw [hnews]; exact List.mem_append_right _ ok.rd
  have hm5 := ok.pd.m5
  rw [addr_hd] at hnd hsep
  have hnn : ((113 : Nat) ≠ c.p ∧ (120 : Nat) ≠ c.p ∧ c.fl ≠ c.p) ∧ (∀ q ∈ tvs, q.1 ≠ c.p) ∧ (c.fl :: c.p :: 113 :: [120]).Nodup ∧ (∀ q ∈ tvs, q.1 ∉ (c.fl :: c.p :: 113 :: [120])) := by
    simp only [List.nodup_cons, List.mem_cons, List.mem_map, not_or, List.not_mem_nil] at hnd ⊢
    grind
  k_steps
  unfold Stop
  refine from_call news ((c.fl, lobj fvs kf) :: (113, tabO ps1) :: (120, tabO ps2) :: (tups tvs ++ TC c)) c.p c.d (refs tvs) n (dictOf c.es c.nd) ?_ ?_ (by have := hpr.1; simp only [refs, List.length_map]; omega) hrd mean mg mb loose dp un gd (Str.ofString "law") _ fa cdv [] outer A₀ base h₀ L _ _ _ _ hB hF hX hN hT rfl (by omega) (by omega) ?_
  · intro q hq
    rw [hnews]
    simp only [HD, List.mem_cons, List.mem_append, List.cons_append] at hq ⊢
    grind
  · intro q hq
    rcases List.mem_cons.mp hq with rfl | hq
    · exact hnn.1.2.2
    · rcases List.mem_cons.mp hq with rfl | hq
      · exact hnn.1.1
      · rcases List.mem_cons.mp hq with rfl | hq
        · exact hnn.1.2.1
        · rcases List.mem_append.mp hq with hq | hq
          · obtain ⟨q', hq', rfl⟩ := List.mem_map.mp hq
            exact hnn.2.1 q' hq'
          · exact fun e => hsep q hq (by rw [e]; exact .tail _ (.head _))
  · rintro r' news' h' tk' ⟨xr, n', n2, rfl, rfl, hlt⟩ F N
    have hxr : xr ∉ (c.fl :: c.p :: 113 :: [120]) := by
      intro hm
      have hm' : xr ∈ (HD c.fl fvs kf c.p c.d tvs n ps1 ps2).map (·.1) := by
        rw [addr_hd]
        simp only [List.mem_cons, List.not_mem_nil, or_false] at hm ⊢
        grind
      obtain ⟨q, hq, e⟩ := List.mem_map.mp hm'
      exact Nat.ne_of_lt (hlt q (by rw [hnews]; exact List.mem_append_left _ hq)) e
    clear hp hrd hN hF
    k_steps
    refine hret _ (HD c.fl fvs kf c.p c.d [] n' ps1 ps2 ++ ((xr, lobj (refs tvs) n2) :: (tups tvs ++ TC c))) _ ⟨c, ⟨e1, e2, e3, e4, hperm, hpw, ok⟩, a, b, r, e, xr, n2, fvs, kf, tvs, n', ps1, ps2, rfl, rfl, hf, hpr, h1, h2, sep_iff.mpr ⟨by simpa using hnn.2.2.1, ?_⟩⟩ (by k_asm) (news_sub (by k_asm) fun q hq => ?_) hAB rfl rfl
    · intro q hq
      simp only [List.map_nil]
      rcases List.mem_cons.mp hq with rfl | hq
      · exact hxr
      · rcases List.mem_append.mp hq with hq | hq
        · obtain ⟨q', hq', rfl⟩ := List.mem_map.mp hq
          exact hnn.2.2.2 q' hq'
        · intro hm
          refine hsep q hq ?_
          simp only [List.mem_cons, List.not_mem_nil, or_false] at hm ⊢
          grind
    · simp only [HD, tups, refs, List.map_nil, List.mem_cons, List.mem_append, List.cons_append, List.nil_append] at hq ⊢
      grind
abbrev offF (c : Cx) : List Str := (stateS c.os).1 ++ (stateS c.os).2.reverse
def P8 (l nl : Addr) (ns : List Int) (ss : List Str) (m : Str → Option Value) (news : List (Addr × Obj)) : Prop :=
  ∃ c : Cx, Cx7 c l nl ns ss ∧ ∃ a b r e xr fvs kf n ps1 ps2, m = m7 c a b r e xr ∧ news = HD c.fl fvs kf c.p c.d [] n ps1 ps2 ++ ([] ++ TC c) ∧ StrsAre fvs (offF c) ∧ tabF posLen ps1 ∧ tabF posStr ps2 ∧ Sep (HD c.fl fvs kf c.p c.d [] n ps1 ps2) (TC c)
local macro_rules | `(tactic| walk_at "getMethod ref") => `(tactic| (fail "own"))
local macro_rules | `(tactic| walk_at "eval ListComp") => `(tactic| (refine stopHere ?_))
local macro_rules | `(tactic| walk_at "subscriptTail") => `(tactic| (refine stopHere ?_))
local macro_rules | `(tactic| walk_at "call builtin:list.extend") => `(tactic| (refine stopHere ?_))
theorem seg8 {w : World} (l : Addr) (vs : List Value) (ns : List Int) (nl : Addr) (ss : List Str) (h13 : ss.length ≤ 13) :
    Seg w (lawSt w 8) (GS l vs ns) (P7 l nl ns ss) (P8 l nl ns ss) := by
  walk_at "m.introSeg"
  obtain ⟨c, hc, a, b, r, e, xr, n2, fvs, kf, tvs, n, ps1, ps2, rfl, hnews, hf, hpr, h1, h2, hsep⟩ := hPre
  have hlen := hc.perm.length_eq
  have hsl := stateS_len c.os
  have hpl := hpr.1
  have hxr : (xr, lobj (refs tvs) n2) ∈ news := by rw [hnews]; exact List.mem_append_right _ (.head _)
  have htv : ∀ t ∈ tvs.reverse, (t.1, tobj t.2.1 t.2.2) ∈ news := fun t ht => by
    rw [hnews]; exact List.mem_append_right _ (.tail _ (List.mem_append_left _ (List.mem_map.mpr ⟨t, List.mem_reverse.mp ht, rfl⟩)))
  have hfl : (c.fl, lobj fvs kf) ∈ news := by rw [hnews]; exact .head _
  have N1 : News h₀ L s.heap ((c.fl, lobj fvs kf) :: news) := List.forall_mem_cons.mpr ⟨hN _ hfl, hN⟩
  clear hN
  rw [sep_iff] at hsep
  have hnn : ((113 : Nat) ≠ c.fl ∧ (120 : Nat) ≠ c.fl ∧ c.p ≠ c.fl) := by
    have h := hsep.1
    simp only [List.nodup_cons, List.mem_cons, List.map_nil, List.not_mem_nil, not_or] at h
    grind
  k_steps
  unfold Stop
  refine LCp.ListComp_P (F₀ := hF) (by with_unfolding_all rfl) (by decide) (by rfl) (by decide) (by rfl) (by rfl) (by decide) ?_
  k_steps
  unfold Stop
  refine sl_rev hF N1 (.tail _ hxr) (by simp only [refs, List.length_map]; omega) (by with_unfolding_all rfl) ?_
  intro D2 h2' F2 N2 l2
  have erv : (refs tvs).reverse = refs tvs.reverse := by simp [refs, List.map_reverse]
  rw [erv] at N2
  refine LCp.SrcLP.ledger rfl F2 N2 (.head _) (by rw [List.size_toArray]; simp only [refs, List.length_map, List.length_reverse, sizeLine]; omega) ?_
  intro g6
  clear hF N1
  refine restP (pairs_rev hpr) (fun t ht => .tail _ (.tail _ (htv t ht))) ?_ ?_
  · intro y1 tx ty I oI C oC D m₂ ys h tk8 E' hy1 hC hx1 hx2 F N off ne
    clear F2 N2
    k_steps
    exact LCg.CompEnd.intro F N _ (fun p hp => hp) off (.inr ⟨_, .head _, rfl, _, rfl⟩) ⟨rfl, _, rfl⟩
  · intro ys hys
    unfold LCg.FinE
    intro D h7 tk7 F7 N7 off7
    clear F2 N2
    (try dsimp only)
    k_steps
    unfold Stop
    have hyl := hys.len_eq
    rw [List.length_reverse] at hyl
    refine ext_drop (zs := ys) (n2 := ys.length) (us := fvs) (k := kf) (tl := (c.p, pobj c.d (refs []) n) :: (113, tabO ps1) :: (120, tabO ps2) :: TC c) F7 N7 (.head _) ?_ ?_ (by rw [hf.len_eq]; omega) ?_
    · intro q hq
      refine .tail _ (.tail _ (.tail _ ?_))
      rw [hnews]
      rcases List.mem_cons.mp hq with rfl | hq
      · exact .head _
      · rcases List.mem_cons.mp hq with rfl | hq
        · exact .tail _ (.head _)
        · rcases List.mem_cons.mp hq with rfl | hq
          · exact .tail _ (.tail _ (.head _))
          · rcases List.mem_cons.mp hq with rfl | hq
            · exact .tail _ (.tail _ (.tail _ (.head _)))
            · exact List.mem_append_right _ (.tail _ (List.mem_append_right _ hq))
    · intro q hq
      rcases List.mem_cons.mp hq with rfl | hq
      · exact hnn.2.2
      · rcases List.mem_cons.mp hq with rfl | hq
        · exact hnn.1
        · rcases List.mem_cons.mp hq with rfl | hq
          · exact hnn.2.1
          · exact fun e => hsep.2 q (.tail _ (List.mem_append_right _ hq)) (by rw [e]; exact .head _)
    · intro h9 k9 F9 N9
      clear F7 N7
      k_steps
      refine hret _ (HD c.fl (fvs ++ ys) k9 c.p c.d [] n ps1 ps2 ++ ([] ++ TC c)) _ ⟨c, hc, a, b, r, e, xr, fvs ++ ys, k9, n, ps1, ps2, rfl, rfl, hf.append' hys, h1, h2, sep_iff.mpr ⟨hsep.1, fun q hq => hsep.2 q (.tail _ (List.mem_append_right _ hq))⟩⟩ (by k_asm) (news_sub N9 fun q hq => ?_) hAB rfl rfl
      simpa using hq
end
section
local macro_rules | `(tactic| walk_at "zz") => `(tactic| fail)
theorem forget1_40 {prog : Program} {w : World} {A : Around} {Q : Bool → Shared → Prop} {E : Value → Shared → Prop} {s : Shared} (h : wpAny (model prog w) A (truthy (.bool true)) Q E s) : wpAny (model prog w) A (truthy (.bool true)) Q E s := by
  w_top off
  first | (walk1; fail) | exact h
local macro_rules | `(tactic| walk_at "zz") => `(tactic| fail)
theorem forget2_40 {prog : Program} {w : World} {A : Around} {Q : Bool → Shared → Prop} {E : Value → Shared → Prop} {s : Shared} (h : wpAny (model prog w) A (truthy (.bool true)) Q E s) : wpAny (model prog w) A (truthy (.bool true)) Q E s := by
  first | (walk1; fail) | exact h
end
noncomputable section
open Bi
local macro_rules | `(tactic| walk_at "Stop") => `(tactic| (fail "stop"))
local macro_rules | `(tactic| k_inst) => `(tactic| (refine inst_pile (by k_asm) (by walk_at "m.mem") (by walk_at "m.mem")))
local macro_rules | `(tactic| walk_at "m.mem") => `(tactic| (first | assumption | (refine List.Mem.tail _ ?_; assumption)))
local macro_rules | `(tactic| walk_at "getMethod ref") => `(tactic| (refine gm_any (f := .ref 148) (Frag.In.keeps (by k_asm) (Fr.keep (by k_asm))) (by k_inst) (by kernel_rfl) (looks_typeIn (Frag.In.keeps (by k_asm) (Fr.keep (by k_asm))) (by kernel_rfl)) (.inl rfl) (by assumption) ?_; (try dsimp only)))
local macro_rules | `(tactic| walk_at "call ref") => `(tactic| (refine stopHere ?_))
local macro_rules | `(tactic| walk_at "call builtin:sorted") => `(tactic| (refine stopHere ?_))
local macro_rules | `(tactic| walk_at "call builtin:len") => `(tactic| (refine stopHere ?_))
local macro_rules | `(tactic| walk_at "compareOp Eq ref ref") => `(tactic| (refine stopHere ?_))
theorem seg9 {w : World} (l : Addr) (nl : Addr) (ns : List Int) (ss : List Str) (h1 : 1 ≤ ss.length) (h13 : ss.length ≤ 13) (O : LtOk ss.length (ltG leftS ss))
    (H : ∀ os ts : List Str, os.Perm ss → os.Pairwise (fun a b => ltS (behindS a) (behindS b) = true) → ts.Perm ss → ts.Pairwise (fun a b => ltS (leftS a) (leftS b) = true) → (stateS os).1 ++ (stateS os).2.reverse = ts) :
    ∀ (mean : ExcName → Option Value) (mg mb : Str → Option Value) (loose : List Str) (dp un : Nat) (gd : Option (List Code)) (fa : Addr) (cdv : Value) (outer : List Env) (A₀ : Around) (base h₀ : Heap) (L : Addr) (m : Str → Option Value) (news : List (Addr × Obj)) (s : Shared) (Q : Flow → Shared → Prop),
      P8 l nl ns ss m news → Below A₀ base outer h₀ → Fr h₀ L s.heap m → (hd.heap_39 w.params).In h₀ → News h₀ L s.heap news → Top topProg loose mean mg mb h₀ → dp + 10 < recursionLimit → un + 1000 < cLine → AllBare s.gens →
      (∀ s', h₀.StaysIn s'.heap → (∃ ps, s'.heap.get? 113 = some (tabO ps)) → (∃ ps, s'.heap.get? 120 = some (tabO ps)) → AllBare s'.gens → s'.os = s.os → s'.drawn = s.drawn → Q (.ret (.bool true)) s') →
        wpAny (model PySem.Challenge.rw_qu0014_01.row.prog w) (ktrTop dp un gd (Str.ofString "law") (lawSc w) L fa cdv [] outer) (exec (lawSt w 9) (lawEnv w L fa cdv)) Q Nv s := by
  dsimp only [lawEnv]
  conv in (lawSt _ _) => (rw [lawSt_eq]; whnf)
  conv in (occs := *) (lawSc _) => all_goals (rw [lawSc_eq]; whnf)
  k_fill
  intro mean mg mb loose dp un gd fa cdv outer A₀ base h₀ L m news s Q hPre hB hF hX hN hT hdp hun hAB hret
  obtain ⟨c, hc, a, b, r, e, xr, fvs, kf, n, ps1, ps2, rfl, hnews, hf, hp1, hp2, hsep⟩ := hPre
  have hnlm : (c.nl, lobj c.nvs c.kn) ∈ news := by rw [hnews]; exact List.mem_append_right _ (.tail _ (.tail _ (.head _)))
  have hnv : StrsAre c.nvs ss := by rw [← hc.hss]; exact hc.ok.hn
  have hfl : (c.fl, lobj fvs kf) ∈ news := by rw [hnews]; exact .head _
  have hpm : (c.p, pobj c.d (refs []) n) ∈ news := by rw [hnews]; exact .tail _ (.head _)
  have hrd : (c.d, dictOf c.es c.nd) ∈ news := by rw [hnews]; exact List.mem_append_right _ hc.ok.rd
  have hsm : ∀ x ∈ ss, x ∈ c.os := fun x hx => (hc.perm.mem_iff).mpr hx
  have hcl : c.os.length = ss.length := hc.perm.length_eq
  have hsl := stateS_len c.os
  have hm1 := hc.ok.pd.m1
  have hpi := hc.ok.pd.small
  k_steps
  unfold Stop
  refine sorted_all hF hN hnlm hnv h1 (by omega) (by show un + 1 + 1 < cLine; omega) ?_ O ?_
  · intro x t news s Q hx F N hq
    have gx := hc.ok.nm.gd x (hsm x hx)
    obtain ⟨y, ys, hb⟩ : ∃ y ys, behindS x = y :: ys := by
      have := gx.bp
      cases hq' : behindS x with
      | nil => rw [hq'] at this; simp at this
      | cons y ys => exact ⟨y, ys, rfl⟩
    refine' left_call news x t gx.len y ys hb gx.bl mean mg mb loose dp (un + 2) gd (Str.ofString "law") _ fa cdv [] outer A₀ base h₀ L _ s Q (fun _ _ => False) hB F hX N hT rfl ?_ ?_ hq
    · omega
    · omega
  · intro D us cD ts h' tk' hus hp hpw F N lD
    have hts := H c.os ts hc.perm hc.pw hp hpw
    have hf' : StrsAre fvs ts := by rw [← hts]; exact hf
    have hok : ∀ y ∈ ts, PyData.strOk y = true := fun y hy => hc.ok.nm.ok y (hsm y ((hp.mem_iff).mp hy))
    k_steps
    unfold Stop
    refine eq_strs (isList_mem N (.tail _ hfl)) (isList_mem N (.head _)) hf' hus hok hok (by show un + 64 < cLine; omega) ?_
    rw [show decide (ts = ts) = true by simp]
    have N2 := news_tail N
    clear N hF hN
    k_steps
    unfold Stop
    refine partc_call news c.p c.d (refs []) n c.es c.nd hpm hrd mean mg mb loose dp un gd (Str.ofString "law") _ fa cdv [] outer A₀ base h₀ L _ _ _ _ hB F hX N2 hT rfl (by omega) (by omega) ?_
    intro t3 h3 tk3 F3 N3
    clear F N2
    dsimp only [refs, List.map_nil, List.length_nil]
    k_steps
    unfold Stop
    have stx : PileX c (Str.ofString "") 0 none none none (offF c) [] (m6 c.l c.nl c.ol c.p c.fl c.u c.v c.i c.t none none none (.str (Str.ofString "") 0)) [] (TC c) news := by
      refine ⟨⟨fvs, kf, [], n, ps1, ps2, rfl, hnews, hf, ⟨rfl, fun i t h => by simp at h⟩, hp1, hp2, hsep⟩, fun y hy => absurd hy List.not_mem_nil, ?_, Nat.zero_le _⟩
      simp only [List.length_append, List.length_reverse, List.length_nil]
      omega
    refine plen_step hc.ok stx hB F3 hX N3 hT rfl (by omega) (by omega) hAB ?_
    intro t2 news2 s2 st2 F4 N4 G2 hos2 hdr2
    have hl0 : lenP [] = 0 := rfl
    rw [hl0, Int.add_zero]
    clear F3 N3
    obtain ⟨fvs', kf', tvs', n', ps1', ps2', hm', hnews', _⟩ := st2.ex
    have M1 : ((113 : Addr), tabO ps1') ∈ news2 := by rw [hnews']; simp [HD]
    have M2 : ((120 : Addr), tabO ps2') ∈ news2 := by rw [hnews']; simp [HD]
    k_steps
    rw [show (c.i == c.i) = true by simp]
    exact hret s2 F4.keep ⟨ps1', (N4 _ M1).1⟩ ⟨ps2', (N4 _ M2).1⟩ G2 hos2 hdr2
end
section
local macro_rules | `(tactic| walk_at "zz") => `(tactic| fail)
theorem forget1_41 {prog : Program} {w : World} {A : Around} {Q : Bool → Shared → Prop} {E : Value → Shared → Prop} {s : Shared} (h : wpAny (model prog w) A (truthy (.bool true)) Q E s) : wpAny (model prog w) A (truthy (.bool true)) Q E s := by
  w_top off
  first | (walk1; fail) | exact h
local macro_rules | `(tactic| walk_at "zz") => `(tactic| fail)
theorem forget2_41 {prog : Program} {w : World} {A : Around} {Q : Bool → Shared → Prop} {E : Value → Shared → Prop} {s : Shared} (h : wpAny (model prog w) A (truthy (.bool true)) Q E s) : wpAny (model prog w) A (truthy (.bool true)) Q E s := by
  first | (walk1; fail) | exact h
end
noncomputable section
theorem str_ext {x y : Str} (h : x.cps.toList = y.cps.toList) : x = y := by cases x; cases y; exact congrArg Str.mk (Array.toList_inj.mp h)
theorem ltS_cons (x y : Str) (r t : List Str) : ltS (x :: r) (y :: t) = if x = y then ltS r t else decide (x.cps.toList < y.cps.toList) := rfl
theorem ltS_trans : ∀ (a b c : List Str), ltS a b = true → ltS b c = true → ltS a c = true
  | _, [], [], _, h => by simp [ltS] at h
  | [], _, [], _, h => by cases ‹List Str› <;> simp [ltS] at h
  | _ :: _, [], _, h, _ => by simp [ltS] at h
  | [], _, _ :: _, _, _ => rfl
  | _ :: _, _ :: _, [], _, h => by simp [ltS] at h
  | x :: r, y :: s, z :: t, h1, h2 => by
    rw [ltS_cons] at h1 h2 ⊢
    by_cases e1 : x = y
    · subst e1
      by_cases e2 : x = z
      · subst e2
        rw [if_pos rfl] at h1 h2 ⊢
        exact ltS_trans r s t h1 h2
      · rw [if_neg e2] at h2 ⊢
        exact h2
    · rw [if_neg e1] at h1
      by_cases e2 : y = z
      · subst e2
        rw [if_neg e1]
        exact h1
      · rw [if_neg e2] at h2
        have q1 := of_decide_eq_true h1
        have q2 := of_decide_eq_true h2
        have q := List.lt_trans q1 q2
        rw [if_neg (fun e => by rw [e] at q; exact List.lt_irrefl _ q)]
        exact decide_eq_true q
theorem ltS_irr : ∀ a : List Str, ltS a a = false
  | [] => rfl
  | x :: r => by rw [ltS_cons, if_pos rfl]; exact ltS_irr r
theorem ltS_asym {a b : List Str} (h : ltS a b = true) : ltS b a = false := by
  cases e : ltS b a with
  | false => rfl
  | true => have := ltS_trans _ _ _ h e; rw [ltS_irr] at this; cases this
theorem ltS_tot : ∀ a b : List Str, a ≠ b → ltS a b = false → ltS b a = true
  | [], [], h, _ => absurd rfl h
  | [], _ :: _, _, h => by simp [ltS] at h
  | _ :: _, [], _, _ => rfl
  | x :: r, y :: t, hn, h => by
    rw [ltS_cons] at h ⊢
    by_cases e : x = y
    · subst e
      rw [if_pos rfl] at h ⊢
      exact ltS_tot r t (fun q => hn (by rw [q])) h
    · rw [if_neg e] at h
      rw [if_neg (Ne.symm e)]
      have h1 : ¬ x.cps.toList < y.cps.toList := of_decide_eq_false h
      refine decide_eq_true ?_
      rcases Std.le_total (a := x.cps.toList) (b := y.cps.toList) with q | q
      · exact absurd (str_ext (Std.le_antisymm q (List.not_lt.mp h1))) e
      · refine Std.lt_of_le_of_ne q fun q2 => e (str_ext q2.symm)
theorem ltS_pfx {a b : List Str} : a <+: b → a ≠ b → ltS a b = true := by
  induction a generalizing b with
  | nil => intro _ h; cases b with
    | nil => exact absurd rfl h
    | cons y t => rfl
  | cons x r ih =>
    intro h hn
    obtain ⟨c, rfl⟩ := h
    rw [List.cons_append, ltS_cons, if_pos rfl]
    exact ih ⟨c, rfl⟩ fun e => hn (by rw [List.cons_append, ← e])
theorem pfx_not_lt {a b : List Str} (h : a <+: b) : ltS b a = false := by
  by_cases e : a = b
  · subst e; exact ltS_irr a
  · exact ltS_asym (ltS_pfx h e)
theorem ltS_app : ∀ (a b u v : List Str), ltS a b = true → ¬ a <+: b → ltS (a ++ u) (b ++ v) = true
  | [], b, _, _, _, h => absurd (List.nil_prefix) h
  | _ :: _, [], _, _, h, _ => by simp [ltS] at h
  | x :: r, y :: t, u, v, h, hp => by
    rw [ltS_cons] at h
    rw [List.cons_append, List.cons_append, ltS_cons]
    by_cases e : x = y
    · subst e
      rw [if_pos rfl] at h ⊢
      exact ltS_app r t u v h fun q => hp (List.cons_prefix_cons.mpr ⟨rfl, q⟩)
    · rw [if_neg e] at h ⊢
      exact h
theorem ltS_tilde {c : Str} : ∀ (a b : List Str) (u v : List Str), a <+: b → a ≠ b → (∀ z ∈ b, z.cps.toList < c.cps.toList) → ltS (b ++ v) (a ++ c :: u) = true
  | [], [], _, _, _, h, _ => absurd rfl h
  | [], y :: t, u, v, _, _, hc => by
    have q := hc y (.head _)
    rw [List.nil_append, List.cons_append, ltS_cons, if_neg (fun e => by rw [e] at q; exact List.lt_irrefl _ q)]
    exact decide_eq_true q
  | x :: r, [], _, _, h, _, _ => by simp at h
  | x :: r, y :: t, u, v, h, hn, hc => by
    obtain ⟨e, h'⟩ := List.cons_prefix_cons.mp h
    subst e
    rw [List.cons_append, List.cons_append, ltS_cons, if_pos rfl]
    exact ltS_tilde r t u v h' (fun e => hn (by rw [e])) fun z hz => hc z (.tail _ hz)
theorem pfx_mid : ∀ (a p x : List Str), a <+: x → (a = p ∨ ltS a p = true) → ltS p x = true → a <+: p
  | [], _, _, _, _, _ => List.nil_prefix
  | a :: r, [], _, _, h, _ => by simp [ltS] at h
  | a :: r, b :: s, [], h, _, _ => by simp at h
  | a :: r, b :: s, y :: t, h, h1, h2 => by
    obtain ⟨e, h'⟩ := List.cons_prefix_cons.mp h
    subst e
    rw [ltS_cons] at h2
    by_cases e : b = a
    · subst e
      rw [if_pos rfl] at h2
      refine List.cons_prefix_cons.mpr ⟨rfl, pfx_mid r s t h' ?_ h2⟩
      rcases h1 with q | q
      · left; simpa using q
      · right; rw [ltS_cons, if_pos rfl] at q; exact q
    · rw [if_neg e] at h2
      rcases h1 with q | q
      · cases q; exact absurd rfl e
      · rw [ltS_cons, if_neg (Ne.symm e)] at q
        have := List.lt_trans (of_decide_eq_true q) (of_decide_eq_true h2)
        exact absurd this (List.lt_irrefl _)
theorem pfx_both {a b p : List Str} (h1 : a <+: p) (h2 : b <+: p) (h : ltS b a = false) : a <+: b := by
  rcases List.prefix_or_prefix_of_prefix h1 h2 with q | q
  · exact q
  · by_cases e : b = a
    · rw [e]; exact List.prefix_refl _
    · rw [ltS_pfx q e] at h; cases h
theorem filter_two {α : Type} {P Q : α → Bool} : ∀ {l : List α}, l.Pairwise (fun a b => Q a = true → P b = false) → (∀ a ∈ l, P a = true → Q a = false) → l.filter (fun a => P a || Q a) = l.filter P ++ l.filter Q
  | [], _, _ => rfl
  | a :: l, h, hd => by
    have hp := List.pairwise_cons.mp h
    have ih := filter_two (P := P) (Q := Q) (l := l) hp.2 fun b hb => hd b (.tail _ hb)
    cases e1 : P a with
    | true => rw [List.filter_cons_of_pos (by rw [e1]; rfl), List.filter_cons_of_pos (by rw [e1]), List.filter_cons_of_neg (by rw [hd a (.head _) e1]; exact Bool.false_ne_true), ih, List.cons_append]
    | false =>
      cases e2 : Q a with
      | true =>
        have : l.filter P = [] := List.filter_eq_nil_iff.mpr fun b hb => by rw [hp.1 b hb e2]; exact Bool.false_ne_true
        rw [List.filter_cons_of_pos (by rw [e2, Bool.or_true]), List.filter_cons_of_neg (by rw [e1]; exact Bool.false_ne_true), List.filter_cons_of_pos (by rw [e2]), ih, this]
        rfl
      | false => rw [List.filter_cons_of_neg (by rw [e1, e2]; exact Bool.false_ne_true), List.filter_cons_of_neg (by rw [e1]; exact Bool.false_ne_true), List.filter_cons_of_neg (by rw [e2]; exact Bool.false_ne_true), ih]
theorem drop_filter {α : Type} {P : α → Bool} : ∀ {l : List α}, l.Pairwise (fun a b => P b = true → P a = true) → (l.reverse.dropWhile (fun y => !P y)).reverse = l.filter P := by
  intro l h
  have key : ∀ r : List α, r.Pairwise (fun a b => P a = true → P b = true) → r.dropWhile (fun y => !P y) = r.filter P := by
    intro r
    induction r with
    | nil => intro _; rfl
    | cons a r ih =>
      intro h
      have hp := List.pairwise_cons.mp h
      cases e : P a with
      | true =>
        rw [List.dropWhile_cons_of_neg (by simp [e]), List.filter_cons_of_pos e]
        congr 1
        exact (List.filter_eq_self.mpr fun b hb => hp.1 b hb e).symm
      | false => rw [List.dropWhile_cons_of_pos (by simp [e]), List.filter_cons_of_neg (by simp [e])]; exact ih hp.2
  rw [key _ (List.pairwise_reverse.mpr h), List.filter_reverse, List.reverse_reverse]
end
section
local macro_rules | `(tactic| walk_at "zz") => `(tactic| fail)
theorem forget1_42 {prog : Program} {w : World} {A : Around} {Q : Bool → Shared → Prop} {E : Value → Shared → Prop} {s : Shared} (h : wpAny (model prog w) A (truthy (.bool true)) Q E s) : wpAny (model prog w) A (truthy (.bool true)) Q E s := by
  w_top off
  first | (walk1; fail) | exact h
local macro_rules | `(tactic| walk_at "zz") => `(tactic| fail)
theorem forget2_42 {prog : Program} {w : World} {A : Around} {Q : Bool → Shared → Prop} {E : Value → Shared → Prop} {s : Shared} (h : wpAny (model prog w) A (truthy (.bool true)) Q E s) : wpAny (model prog w) A (truthy (.bool true)) Q E s := by
  first | (walk1; fail) | exact h
end
noncomputable section
def labsU : List Str := [Str.ofString "a", Str.ofString "ba", Str.ofString "7"]
def keysU : Nat → List (List Str)
  | 0 => [[]]
  | n + 1 => (keysU n).flatMap fun k => labsU.map fun l => l :: k
def keys4 : List (List Str) := keysU 1 ++ keysU 2 ++ keysU 3 ++ keysU 4
def nmK (k : List Str) : Str := Txt.join (Str.ofString ".") k.reverse
theorem keysU_mem : ∀ (k : List Str), (∀ l ∈ k, l ∈ labsU) → k ∈ keysU k.length
  | [], _ => .head _
  | l :: k, h => List.mem_flatMap.mpr ⟨k, keysU_mem k fun z hz => h z (.tail _ hz), List.mem_map.mpr ⟨l, h l (.head _), rfl⟩⟩
theorem keysU_of : ∀ (n : Nat) (k : List Str), k ∈ keysU n → k.length = n ∧ ∀ l ∈ k, l ∈ labsU
  | 0, k, h => by rw [List.mem_singleton.mp h]; exact ⟨rfl, fun l hl => absurd hl List.not_mem_nil⟩
  | n + 1, k, h => by
    obtain ⟨k', hk', h2⟩ := List.mem_flatMap.mp h
    obtain ⟨l, hl, rfl⟩ := List.mem_map.mp h2
    obtain ⟨e, r⟩ := keysU_of n k' hk'
    exact ⟨by rw [List.length_cons, e], List.forall_mem_cons.mpr ⟨hl, r⟩⟩
theorem keys4_iff {k : List Str} : k ∈ keys4 ↔ (1 ≤ k.length ∧ k.length ≤ 4) ∧ ∀ l ∈ k, l ∈ labsU := by
  unfold keys4
  simp only [List.mem_append]
  constructor
  · rintro (((h | h) | h) | h) <;> (have := keysU_of _ _ h; exact ⟨by omega, this.2⟩)
  · rintro ⟨h, hl⟩
    have h1 := keysU_mem k hl
    have : k.length = 1 ∨ k.length = 2 ∨ k.length = 3 ∨ k.length = 4 := by omega
    rcases this with e | e | e | e <;> rw [e] at h1 <;> simp [h1]
def KNm (x : Str) : Prop := ∃ k ∈ keys4, x = nmK k ∨ x = Txt.upper (nmK k)
theorem labS_in (x : Int) (d : Nat) : labS x d ∈ labsU := by
  unfold labS
  have h : (x / 4 ^ (d + 1) % 4).toNat < 4 := by omega
  generalize (x / 4 ^ (d + 1) % 4).toNat = k at h
  match k, h with
  | 0, _ => exact .head _
  | 1, _ => exact .tail _ (.head _)
  | 2, _ => exact .head _
  | 3, _ => exact .tail _ (.tail _ (.head _))
theorem nameS_K (x : Int) : KNm (nameS x) := by
  refine ⟨((List.range (1 + x % 4).toNat).map (labS x)).reverse, keys4_iff.mpr ⟨?_, ?_⟩, ?_⟩
  · rw [List.length_reverse, List.length_map, List.length_range]; omega
  · intro l hl
    obtain ⟨d, _, rfl⟩ := List.mem_map.mp (List.mem_reverse.mp hl)
    exact labS_in x d
  · have e : nmK ((List.range (1 + x % 4).toNat).map (labS x)).reverse = joinS x := by unfold nmK joinS; rw [List.reverse_reverse]
    rw [e]
    unfold nameS
    split
    · exact .inr rfl
    · exact .inl rfl
def asc (x : Str) : Bool := x.cps.all fun c => decide (c < 128)
def loF (x : Str) : Str := ⟨x.cps.map lo1⟩
def upF (x : Str) : Str := ⟨x.cps.map up1⟩
abbrev dotS : Str := Str.ofString "."
def s7 (k : List Str) : Bool := k.getD (Int.toNat 0) Str.empty == Str.ofString "7"
theorem asc_lo {x : Str} (h : asc x = true) : Txt.lower x = loF x := lower_ascii fun c hc => of_decide_eq_true (Array.all_eq_true_iff_forall_mem.mp h c (Array.mem_toList_iff.mp hc))
theorem asc_up {x : Str} (h : asc x = true) : Txt.upper x = upF x := upper_ascii fun c hc => of_decide_eq_true (Array.all_eq_true_iff_forall_mem.mp h c (Array.mem_toList_iff.mp hc))
def chkA (k : List Str) : Bool :=
  let n := nmK k
  let u := upF n
  asc n && asc u && loF n == n && loF u == n && asc (dotS ++ n) && asc (dotS ++ u) && loF (dotS ++ n) == dotS ++ n && loF (dotS ++ u) == dotS ++ n && decide (n.length ≤ 50) && decide (u.length ≤ 50) && PyData.strOk n && PyData.strOk u && Txt.contains n dotS == decide (2 ≤ k.length) && Txt.contains u dotS == decide (2 ≤ k.length)
def chkB (k : List Str) : Bool :=
  (Txt.split (nmK k) dotS).reverse == k && foundX (nmK k) == some (decide (2 ≤ k.length) && s7 k) && foundX (dotS ++ nmK k) == some (s7 k)
def chkC (k : List Str) : Bool :=
  (reachS (nmK k) (decide (2 ≤ k.length) && s7 k) == if decide (3 ≤ k.length) && !s7 k then dotS ++ nmK k.dropLast else nmK k) && Txt.slice (dotS ++ nmK k) (some 1) none == nmK k && !(nmK k == dotS ++ nmK k.dropLast)
theorem all_cut {α : Type} {p : α → Bool} {l : List α} (n : Nat) (h1 : (l.take n).all p = true) (h2 : (l.drop n).all p = true) : l.all p = true := by
  rw [← List.take_append_drop n l, List.all_append, h1, h2]; rfl
theorem chkA_0 : (((keys4).take 30).all chkA) = true := by decide +kernel
theorem chkA_1 : ((((keys4).drop 30).take 30).all chkA) = true := by decide +kernel
theorem chkA_2 : (((((keys4).drop 30).drop 30).take 30).all chkA) = true := by decide +kernel
theorem chkA_3 : ((((((keys4).drop 30).drop 30).drop 30).take 30).all chkA) = true := by decide +kernel
theorem chkA_all : (keys4.all chkA) = true := all_cut 30 chkA_0 (all_cut 30 chkA_1 (all_cut 30 chkA_2 (all_cut 30 chkA_3 ((by decide +kernel)))))
theorem chkB_0 : (((keys4).take 40).all chkB) = true := by decide +kernel
theorem chkB_1 : ((((keys4).drop 40).take 40).all chkB) = true := by decide +kernel
theorem chkB_all : (keys4.all chkB) = true := all_cut 40 chkB_0 (all_cut 40 chkB_1 (by decide +kernel))
theorem chkC_0 : (((keys4).take 40).all chkC) = true := by decide +kernel
theorem chkC_1 : ((((keys4).drop 40).take 40).all chkC) = true := by decide +kernel
theorem chkC_2 : (((((keys4).drop 40).drop 40).take 40).all chkC) = true := by decide +kernel
theorem chkC_all : (keys4.all chkC) = true := all_cut 40 chkC_0 (all_cut 40 chkC_1 (all_cut 40 chkC_2 ((by decide +kernel))))
theorem nmK_dot0 : (keys4.all fun k => (nmK k).cps.toList.head? != some 46) = true := by decide +kernel
end
section
local macro_rules | `(tactic| walk_at "zz") => `(tactic| fail)
theorem forget1_43 {prog : Program} {w : World} {A : Around} {Q : Bool → Shared → Prop} {E : Value → Shared → Prop} {s : Shared} (h : wpAny (model prog w) A (truthy (.bool true)) Q E s) : wpAny (model prog w) A (truthy (.bool true)) Q E s := by
  w_top off
  first | (walk1; fail) | exact h
local macro_rules | `(tactic| walk_at "zz") => `(tactic| fail)
theorem forget2_43 {prog : Program} {w : World} {A : Around} {Q : Bool → Shared → Prop} {E : Value → Shared → Prop} {s : Shared} (h : wpAny (model prog w) A (truthy (.bool true)) Q E s) : wpAny (model prog w) A (truthy (.bool true)) Q E s := by
  first | (walk1; fail) | exact h
end
noncomputable section
structure KF (x : Str) (k : List Str) : Prop where
  k4 : k ∈ keys4
  low : Txt.lower x = nmK k
  lowd : Txt.lower (dotS ++ x) = dotS ++ nmK k
  len : x.length ≤ 50
  ok : PyData.strOk x = true
  dot : Txt.contains x dotS = decide (2 ≤ k.length)
theorem kf_of {x : Str} (h : KNm x) : ∃ k, KF x k := by
  obtain ⟨k, hk, h⟩ := h
  have c := List.all_eq_true.mp chkA_all k hk
  simp only [chkA, Bool.and_eq_true, beq_iff_eq, decide_eq_true_eq] at c
  obtain ⟨⟨⟨⟨⟨⟨⟨⟨⟨⟨⟨⟨⟨c1, c2⟩, c3⟩, c4⟩, c5⟩, c6⟩, c7⟩, c8⟩, c9⟩, c10⟩, c11⟩, c12⟩, c13⟩, c14⟩ := c
  refine ⟨k, ?_⟩
  rcases h with rfl | rfl
  · exact ⟨hk, by rw [asc_lo c1, c3], by rw [asc_lo c5, c7], c9, c11, c13⟩
  · rw [asc_up c1]
    exact ⟨hk, by rw [asc_lo c2, c4], by rw [asc_lo c6, c8], c10, c12, c14⟩
theorem chkB_of {k : List Str} (hk : k ∈ keys4) : (Txt.split (nmK k) dotS).reverse = k ∧ foundRe (nmK k) = some (decide (2 ≤ k.length) && s7 k) ∧ foundRe (dotS ++ nmK k) = some (s7 k) := by
  have c := List.all_eq_true.mp chkB_all k hk
  simp only [chkB, Bool.and_eq_true, beq_iff_eq] at c
  exact ⟨c.1.1, foundX_eq c.1.2, foundX_eq c.2⟩
theorem chkC_of {k : List Str} (hk : k ∈ keys4) : (reachR (nmK k) = if decide (3 ≤ k.length) && !s7 k then dotS ++ nmK k.dropLast else nmK k) ∧ Txt.slice (dotS ++ nmK k) (some 1) none = nmK k ∧ nmK k ≠ dotS ++ nmK k.dropLast := by
  have c := List.all_eq_true.mp chkC_all k hk
  simp only [chkC, Bool.and_eq_true, beq_iff_eq, Bool.not_eq_true', beq_eq_false_iff_ne] at c
  refine ⟨?_, c.1.2, c.2⟩
  unfold reachR
  rw [(chkB_of hk).2.1]
  simp only [Option.getD_some, Bool.and_eq_true, Bool.not_eq_true']
  exact c.1.1
section
variable {x : Str} {k : List Str}
theorem KF.key (h : KF x k) : behindS x = k := by
  unfold behindS
  rw [h.low]
  exact (chkB_of h.k4).1
theorem nmK_inj {k k' : List Str} (h : k ∈ keys4) (h' : k' ∈ keys4) (e : nmK k = nmK k') : k = k' := by
  rw [← (chkB_of h).1, ← (chkB_of h').1, e]
theorem labs_ok : ∀ l ∈ labsU, PyData.strOk l = true ∧ l.cps.toList < (Str.ofString "~").cps.toList ∧ 46 ∉ l.cps.toList := by decide +kernel
theorem key_labs (h : k ∈ keys4) : ∀ l ∈ k, PyData.strOk l = true ∧ l.cps.toList < (Str.ofString "~").cps.toList ∧ 46 ∉ l.cps.toList := fun l hl => labs_ok l ((keys4_iff.mp h).2 l hl)
theorem key_drop (h : k ∈ keys4) (h2 : 2 ≤ k.length) : k.dropLast ∈ keys4 := by
  have q := keys4_iff.mp h
  exact keys4_iff.mpr ⟨by rw [List.length_dropLast]; omega, fun l hl => q.2 l (List.dropLast_subset _ hl)⟩
theorem s7_pfx {a b : List Str} (h : a <+: b) (h1 : 1 ≤ a.length) : s7 a = s7 b := by
  obtain ⟨c, rfl⟩ := h
  cases a with
  | nil => simp at h1
  | cons y r => rfl
theorem key_ne (h : k ∈ keys4) : 1 ≤ k.length ∧ k.length ≤ 4 := (keys4_iff.mp h).1
theorem KF.gd (h : KF x k) : Gd x := ⟨by have := h.len; omega, by rw [h.key]; have := key_ne h.k4; omega, by rw [h.key]; exact (key_ne h.k4).1, by rw [h.key]; exact fun l hl => (key_labs h.k4 l hl).1⟩
theorem hosts_k : ∀ (n : Nat) (k : List Str), k ∈ keys4 → k.length ≤ n + 2 → Hosts n (nmK k) = true := by
  intro n
  have base : ∀ k : List Str, k ∈ keys4 → ((foundRe (nmK k)).isSome && decide ((nmK k).length ≤ 100) && decide ((reachR (nmK k)).length ≤ 100)) = true := by
    intro k hk
    have l : ∀ k : List Str, k ∈ keys4 → (nmK k).length ≤ 50 := fun k hk => by
      have c := List.all_eq_true.mp chkA_all k hk
      simp only [chkA, Bool.and_eq_true, decide_eq_true_eq] at c
      exact c.1.1.1.1.1.2
    have l1 := l k hk
    have l2 : (reachR (nmK k)).length ≤ 100 := by
      rw [(chkC_of hk).1]
      split
      · rename_i hc
        simp only [Bool.and_eq_true, decide_eq_true_eq] at hc
        have := l _ (key_drop hk (by omega))
        rw [PySem.Str.length_append]
        have : (dotS).length = 1 := by decide
        omega
      · omega
    rw [(chkB_of hk).2.1]
    simp only [Option.isSome_some, Bool.true_and, Bool.and_eq_true, decide_eq_true_eq]
    omega
  induction n with
  | zero =>
    intro k hk hl
    unfold Hosts
    rw [base k hk, (chkC_of hk).1, if_neg (by simp; omega)]
    simp
  | succ n ih =>
    intro k hk hl
    unfold Hosts
    rw [base k hk, Bool.true_and]
    by_cases hc : (decide (3 ≤ k.length) && !s7 k) = true
    · have hc' := hc
      simp only [Bool.and_eq_true, decide_eq_true_eq] at hc'
      have hd := key_drop hk (by omega)
      have e : nextR (nmK k) = nmK k.dropLast := by
        unfold nextR
        rw [(chkC_of hk).1, if_pos hc, (chkC_of hd).2.1]
      rw [e, ih _ hd (by rw [List.length_dropLast]; omega), Bool.or_true]
    · rw [(chkC_of hk).1, if_neg hc]; simp
theorem KF.names {os : List Str} (hl : os.length ≤ 13) (h : ∀ o ∈ os, KNm o) : Names os where
  len := hl
  gd := fun o ho => let ⟨_, q⟩ := kf_of (h o ho); q.gd
  l50 := fun o ho => let ⟨_, q⟩ := kf_of (h o ho); q.len
  fr := fun o ho => let ⟨_, q⟩ := kf_of (h o ho); ⟨_, by rw [q.low]; exact (chkB_of q.k4).2.1⟩
  fd := fun o ho => let ⟨_, q⟩ := kf_of (h o ho); ⟨_, by rw [q.lowd]; exact (chkB_of q.k4).2.2⟩
  hosts := fun o ho => let ⟨_, q⟩ := kf_of (h o ho); by rw [q.low]; exact hosts_k 4 _ q.k4 (by have := key_ne q.k4; omega)
  ok := fun o ho => let ⟨_, q⟩ := kf_of (h o ho); q.ok
end
def rK (k : List Str) : List Nat := (nmK k).cps.toList.reverse
theorem join_snoc (d l : Str) : ∀ (r : List Str), r ≠ [] → Str.join d (r ++ [l]) = Str.join d r ++ d ++ l
  | [], h => absurd rfl h
  | [y], _ => rfl
  | y :: z :: t, _ => by
    show y ++ d ++ Str.join d (z :: t ++ [l]) = (y ++ d ++ Str.join d (z :: t)) ++ d ++ l
    rw [join_snoc d l (z :: t) (by simp)]
    refine str_ext ?_
    simp only [KT.app_list, List.append_assoc]
theorem rK_one (l : Str) : rK [l] = l.cps.toList.reverse := by
  unfold rK nmK Txt.join
  rw [StrLaws.glued_eq_join]
  rfl
theorem rK_cons (l : Str) {k : List Str} (h : k ≠ []) : rK (l :: k) = l.cps.toList.reverse ++ 46 :: rK k := by
  unfold rK nmK Txt.join
  rw [StrLaws.glued_eq_join, StrLaws.glued_eq_join, List.reverse_cons, join_snoc _ _ _ (by simpa using h)]
  simp only [KT.app_list, List.reverse_append]
  rfl
theorem cut_dot : ∀ {l l' u v : List Nat}, 46 ∉ l → 46 ∉ l' → (l ++ 46 :: u <+: l' ++ 46 :: v ↔ l = l' ∧ u <+: v)
  | [], [], _, _, _, _ => by simp [List.cons_prefix_cons]
  | [], y :: t, _, _, _, h => by simp only [List.nil_append, List.cons_append, List.cons_prefix_cons]; constructor <;> (intro q; simp at q h ⊢; try grind)
  | x :: r, [], _, _, h, _ => by simp only [List.nil_append, List.cons_append, List.cons_prefix_cons]; constructor <;> (intro q; simp at q h ⊢; try grind)
  | x :: r, y :: t, u, v, h, h' => by
    simp only [List.cons_append, List.cons_prefix_cons, cut_dot (u := u) (v := v) (fun q => h (.tail _ q)) (fun q => h' (.tail _ q)), List.cons.injEq, and_assoc]
theorem no_dot {l l' u : List Nat} (h' : 46 ∉ l') : ¬ l ++ 46 :: u <+: l' := fun ⟨t, e⟩ => h' (by rw [← e]; simp)
theorem rK_pfx : ∀ (k k' : List Str), k ≠ [] → k' ≠ [] → (∀ l ∈ k, 46 ∉ l.cps.toList) → (∀ l ∈ k', 46 ∉ l.cps.toList) → (rK k ++ [46] <+: rK k' ↔ k <+: k' ∧ k ≠ k')
  | [], _, h, _, _, _ => absurd rfl h
  | _, [], _, h, _, _ => absurd rfl h
  | [l], [l'], _, _, h, h' => by
    rw [rK_one, rK_one]
    have n1 : 46 ∉ l'.cps.toList.reverse := by simpa using h' l' (.head _)
    constructor
    · intro q; exact absurd q (no_dot n1)
    · rintro ⟨q, q2⟩; simp at q; exact absurd (by rw [q]) q2
  | l :: m :: r, [l'], _, _, h, h' => by
    rw [rK_one, rK_cons _ (by simp), List.append_assoc, List.cons_append]
    have n1 : 46 ∉ l'.cps.toList.reverse := by simpa using h' l' (.head _)
    constructor
    · intro q; exact absurd q (no_dot n1)
    · rintro ⟨q, _⟩; have := q.length_le; simp at this
  | [l], l' :: m' :: r', _, _, h, h' => by
    rw [rK_one, rK_cons _ (by simp)]
    have n0 : 46 ∉ l.cps.toList.reverse := by simpa using h l (.head _)
    have n1 : 46 ∉ l'.cps.toList.reverse := by simpa using h' l' (.head _)
    rw [cut_dot n0 n1]
    constructor
    · rintro ⟨e, _⟩
      have e' := str_ext (List.reverse_inj.mp e)
      subst e'
      exact ⟨List.cons_prefix_cons.mpr ⟨rfl, List.nil_prefix⟩, by simp⟩
    · rintro ⟨q, _⟩
      obtain ⟨e, _⟩ := List.cons_prefix_cons.mp q
      subst e
      exact ⟨rfl, List.nil_prefix⟩
  | l :: m :: r, l' :: m' :: r', _, _, h, h' => by
    rw [rK_cons l (k := m :: r) (by simp), rK_cons l' (k := m' :: r') (by simp), List.append_assoc, List.cons_append]
    have n0 : 46 ∉ l.cps.toList.reverse := by simpa using h l (.head _)
    have n1 : 46 ∉ l'.cps.toList.reverse := by simpa using h' l' (.head _)
    rw [cut_dot n0 n1, rK_pfx (m :: r) (m' :: r') (by simp) (by simp) (fun z hz => h z (.tail _ hz)) (fun z hz => h' z (.tail _ hz))]
    constructor
    · rintro ⟨e, q, q2⟩
      have e' := str_ext (List.reverse_inj.mp e)
      subst e'
      exact ⟨List.cons_prefix_cons.mpr ⟨rfl, q⟩, fun q => q2 (List.cons.inj q).2⟩
    · rintro ⟨q, q2⟩
      obtain ⟨e, q5⟩ := List.cons_prefix_cons.mp q
      subst e
      exact ⟨rfl, q5, fun e => q2 (by rw [e])⟩
theorem ends_suffix (x y : Str) : Txt.endswith x y = true ↔ y.cps.toList <:+ x.cps.toList := by
  have lx : x.cps.toList.length = x.length := Array.length_toList
  have ly : y.cps.toList.length = y.length := Array.length_toList
  constructor
  · intro h
    unfold Txt.endswith at h
    simp only [Bool.and_eq_true, decide_eq_true_eq, StrLaws.subAt_eq, beq_iff_eq] at h
    obtain ⟨h1, h2⟩ := h
    rw [List.take_of_length_le (by rw [List.length_drop]; omega)] at h2
    rw [← h2]
    exact List.drop_suffix _ _
  · rintro ⟨t, e⟩
    have : x = ⟨t.toArray⟩ ++ y := str_ext (by rw [KT.app_list, ← e])
    rw [this]
    exact KT.ends_app _ _
theorem ends_k {k k' : List Str} (h : k ∈ keys4) (h' : k' ∈ keys4) : Txt.endswith (nmK k') (dotS ++ nmK k) = true ↔ k <+: k' ∧ k ≠ k' := by
  have n : ∀ {k : List Str}, k ∈ keys4 → k ≠ [] := fun hk e => by have := key_ne hk; rw [e] at this; simp at this
  rw [ends_suffix, ← List.reverse_prefix, KT.app_list, List.reverse_append, ← rK_pfx k k' (n h) (n h') (fun l hl => (key_labs h l hl).2.2) (fun l hl => (key_labs h' l hl).2.2)]
  rfl
theorem mtch_iff {x m : Str} {k j : List Str} (hx : KF x k) (hm : KF m j) : mtch x m = true ↔ s7 j = false ∧ j <+: k ∧ j ≠ k := by
  unfold mtch
  rw [hx.low, show Str.ofString "." ++ m = dotS ++ m from rfl, hm.lowd, (chkB_of hx.k4).2.1, (chkB_of hm.k4).2.2]
  unfold udmS
  rw [hx.low, hm.lowd]
  have hne : (nmK k == dotS ++ nmK j) = false := by
    rw [beq_eq_false_iff_ne]
    intro e
    have q := List.all_eq_true.mp nmK_dot0 k hx.k4
    rw [e, KT.app_list] at q
    revert q
    show ((46 :: (nmK j).cps.toList).head? != some 46) = true → False
    simp
  rw [hne, KT.starts_app, if_pos rfl]
  simp only [Option.getD_some]
  have hk := key_ne hx.k4
  have hj := key_ne hm.k4
  by_cases c : (!(decide (2 ≤ k.length) && s7 k) && !s7 j) = true
  · rw [if_pos c, ends_k hm.k4 hx.k4]
    simp only [Bool.and_eq_true, Bool.not_eq_true', Bool.and_eq_false_iff] at c
    exact ⟨fun q => ⟨c.2, q⟩, fun q => q.2⟩
  · rw [if_neg c]
    constructor
    · intro q; cases q
    · rintro ⟨q1, q2, q3⟩
      exfalso
      have q4 := s7_pfx q2 hj.1
      rw [q1] at q4
      rw [← q4, q1] at c
      simp at c
end
section
local macro_rules | `(tactic| walk_at "zz") => `(tactic| fail)
theorem forget1_44 {prog : Program} {w : World} {A : Around} {Q : Bool → Shared → Prop} {E : Value → Shared → Prop} {s : Shared} (h : wpAny (model prog w) A (truthy (.bool true)) Q E s) : wpAny (model prog w) A (truthy (.bool true)) Q E s := by
  w_top off
  first | (walk1; fail) | exact h
local macro_rules | `(tactic| walk_at "zz") => `(tactic| fail)
theorem forget2_44 {prog : Program} {w : World} {A : Around} {Q : Bool → Shared → Prop} {E : Value → Shared → Prop} {s : Shared} (h : wpAny (model prog w) A (truthy (.bool true)) Q E s) : wpAny (model prog w) A (truthy (.bool true)) Q E s := by
  first | (walk1; fail) | exact h
end
noncomputable section
theorem KNm.kf {x : Str} (h : KNm x) : KF x (behindS x) := by
  obtain ⟨k, q⟩ := kf_of h
  rw [q.key]; exact q
abbrev Up2 (l : List Str) : Prop := l.Pairwise (fun a b => ltS (behindS a) (behindS b) = true)
theorem chainS_eq (x : Str) (ss : List Str) : chainS x ss = if s7 (behindS x) = true then [x] else ss.filter fun o => decide (behindS o <+: behindS x) := by
  unfold chainS s7
  congr 1
  refine List.filter_congr fun o _ => ?_
  rw [Bool.eq_iff_iff, beq_iff_eq, decide_eq_true_eq, List.prefix_iff_eq_take]
  exact eq_comm
theorem mtch_k {x m : Str} (hx : KNm x) (hm : KNm m) : mtch x m = true ↔ s7 (behindS m) = false ∧ behindS m <+: behindS x ∧ behindS m ≠ behindS x := mtch_iff hx.kf hm.kf
theorem kn1 {x : Str} (h : KNm x) : 1 ≤ (behindS x).length := (key_ne h.kf.k4).1
theorem lt_ne {a b : List Str} (h : ltS a b = true) : a ≠ b := fun e => by rw [e, ltS_irr] at h; cases h
theorem stack_chain : ∀ (l : List Str) (x : Str), (∀ o ∈ l ++ [x], KNm o) → Up2 (l ++ [x]) → (stateS (l ++ [x])).2 = chainS x (l ++ [x]) := by
  have snoc : ∀ (l : List Str) (x : Str), stateS (l ++ [x]) = stepS (stateS l) x := fun l x => by unfold stateS; rw [List.foldl_append]; rfl
  have main : ∀ (n : Nat) (l : List Str) (x : Str), l.length = n → (∀ o ∈ l ++ [x], KNm o) → Up2 (l ++ [x]) → (stateS (l ++ [x])).2 = chainS x (l ++ [x]) := by
    intro n
    induction n with
    | zero =>
      intro l x hl _ _
      have e := List.length_eq_zero_iff.mp hl
      subst e
      rw [chainS_eq]
      show [x] = _
      split
      · rfl
      · rw [List.nil_append, List.filter_cons_of_pos (by simp)]; rfl
    | succ n ih =>
      intro l x hl hK hU
      obtain ⟨l', p, rfl⟩ : ∃ l' p, l = l' ++ [p] := by
        rcases List.eq_nil_or_concat l with e | ⟨l', p, e⟩
        · rw [e] at hl; simp at hl
        · exact ⟨l', p, by rw [e, List.concat_eq_append]⟩
      have hpw := List.pairwise_append.mp hU
      have hlt : ∀ o ∈ l' ++ [p], ltS (behindS o) (behindS x) = true := fun o ho => hpw.2.2 o ho x (.head _)
      have hx : KNm x := hK x (by simp)
      have hk : ∀ o ∈ l' ++ [p], KNm o := fun o ho => hK o (List.mem_append_left _ ho)
      have hp : KNm p := hk p (by simp)
      have hle : ∀ o ∈ l' ++ [p], behindS o = behindS p ∨ ltS (behindS o) (behindS p) = true := fun o ho => by
        rcases List.mem_append.mp ho with q | q
        · exact .inr ((List.pairwise_append.mp hpw.1).2.2 o q p (.head _))
        · rw [List.mem_singleton.mp q]; exact .inl rfl
      rw [snoc, stepS]
      show (List.dropWhile _ (stateS (l' ++ [p])).2.reverse).reverse ++ [x] = _
      rw [ih l' p (by simpa using hl) hk hpw.1]
      have hdown : (chainS p (l' ++ [p])).Pairwise (fun a b => mtch x b = true → mtch x a = true) := by
        rw [chainS_eq]
        split
        · exact List.pairwise_singleton _ _
        · refine List.Pairwise.imp_of_mem ?_ (List.Pairwise.filter _ hpw.1)
          intro a b ha hb hab hm
          have ha' := List.mem_filter.mp ha
          have hb' := List.mem_filter.mp hb
          have q := (mtch_k hx (hk b hb'.1)).mp hm
          have hab' := pfx_both (of_decide_eq_true ha'.2) (of_decide_eq_true hb'.2) (ltS_asym hab)
          refine (mtch_k hx (hk a ha'.1)).mpr ⟨?_, hab'.trans q.2.1, lt_ne (hlt a ha'.1)⟩
          rw [s7_pfx hab' (kn1 (hk a ha'.1))]; exact q.1
      rw [drop_filter hdown]
      have hB : (chainS p (l' ++ [p])).filter (mtch x) = (l' ++ [p]).filter (mtch x) := by
        rw [chainS_eq]
        split
        · rename_i h7
          have none7 : ∀ o ∈ l' ++ [p], ¬ mtch x o = true := fun o ho hm => by
            have q := (mtch_k hx (hk o ho)).mp hm
            have q2 := pfx_mid _ _ _ q.2.1 (hle o ho) (hlt p (by simp))
            rw [s7_pfx q2 (kn1 (hk o ho)), h7] at q
            exact absurd q.1 (by simp)
          rw [List.filter_eq_nil_iff.mpr none7, List.filter_eq_nil_iff.mpr]
          intro o ho
          rw [List.mem_singleton.mp ho]
          exact none7 p (by simp)
        · rw [List.filter_filter]
          refine List.filter_congr fun o ho => ?_
          cases e : mtch x o with
          | false => rfl
          | true =>
            have q := (mtch_k hx (hk o ho)).mp e
            rw [Bool.true_and]
            exact decide_eq_true (pfx_mid _ _ _ q.2.1 (hle o ho) (hlt p (by simp)))
      rw [hB, chainS_eq]
      split
      · rename_i h7
        rw [List.filter_eq_nil_iff.mpr]
        · rfl
        · intro o ho hm
          have q := (mtch_k hx (hk o ho)).mp hm
          rw [s7_pfx q.2.1 (kn1 (hk o ho)), h7] at q
          exact absurd q.1 (by simp)
      · rename_i h7
        rw [List.filter_append (l₂ := [x]), List.filter_cons_of_pos (by simp), List.filter_nil]
        congr 1
        refine List.filter_congr fun o ho => ?_
        rw [Bool.eq_iff_iff, mtch_k hx (hk o ho), decide_eq_true_eq]
        constructor
        · exact fun q => q.2.1
        · intro q
          refine ⟨?_, q, lt_ne (hlt o ho)⟩
          rw [s7_pfx q (kn1 (hk o ho))]
          simpa using h7
  exact fun l x => main _ l x rfl
theorem take_snoc {os : List Str} {i : Nat} {x : Str} (h : os[i]? = some x) : os.take (i + 1) = os.take i ++ [x] := by rw [List.take_add_one, h]; rfl
theorem up2_take {os : List Str} (h : Up2 os) (n : Nat) : Up2 (os.take n) := h.sublist (List.take_sublist _ _)
theorem chain_take {os : List Str} {i : Nat} {x : Str} (hU : Up2 os) (h : os[i]? = some x) : chainS x (os.take (i + 1)) = chainS x os := by
  rw [chainS_eq, chainS_eq]
  split
  · rfl
  · have e := List.take_append_drop (i + 1) os
    have hU' := hU
    rw [← e] at hU'
    replace hU' := List.pairwise_append.mp hU'
    conv => rhs; rw [← e, List.filter_append]
    have hn : (os.drop (i + 1)).filter (fun o => decide (behindS o <+: behindS x)) = [] := by
      refine List.filter_eq_nil_iff.mpr fun o ho hp => ?_
      have q := hU'.2.2 x (by rw [take_snoc h]; simp) o ho
      rw [pfx_not_lt (of_decide_eq_true hp)] at q
      cases q
    rw [hn, List.append_nil]
theorem pile_chain {os : List Str} (hK : ∀ o ∈ os, KNm o) (hU : Up2 os) {i : Nat} {x : Str} (h : os[i]? = some x) : (stateS (os.take (i + 1))).2 = chainS x os := by
  rw [← chain_take hU h, take_snoc h]
  have hs : ∀ o ∈ os.take i ++ [x], o ∈ os := fun o ho => by rw [← take_snoc h] at ho; exact List.mem_of_mem_take ho
  exact stack_chain _ _ (fun o ho => hK o (hs o ho)) (by rw [← take_snoc h]; exact up2_take hU _)
theorem leftS_eq (x : Str) : leftS x = if s7 (behindS x) = true then behindS x else behindS x ++ [Str.ofString "~"] := rfl
abbrev restL (l : List Str) : List Str := (stateS l).1 ++ (stateS l).2.reverse
theorem rest_snoc (l : List Str) (x : Str) : restL (l ++ [x]) = ((stateS l).1 ++ (stateS l).2.reverse.takeWhile (fun y => !mtch x y)) ++ x :: (stateS l).2.reverse.dropWhile (fun y => !mtch x y) := by
  unfold restL stateS
  rw [List.foldl_append]
  show _ ++ (_ ++ [x]).reverse = _
  rw [List.reverse_append, List.reverse_reverse]
  rfl
theorem rest_perm (l : List Str) : (restL l).Perm l := by
  have main : ∀ (n : Nat) (l : List Str), l.length = n → (restL l).Perm l := by
    intro n
    induction n with
    | zero => intro l hl; rw [List.length_eq_zero_iff.mp hl]; exact .nil
    | succ n ih =>
      intro l hl
      obtain ⟨l', x, rfl⟩ : ∃ l' p, l = l' ++ [p] := by
        rcases List.eq_nil_or_concat l with e | ⟨l', p, e⟩
        · rw [e] at hl; simp at hl
        · exact ⟨l', p, by rw [e, List.concat_eq_append]⟩
      rw [rest_snoc]
      refine List.perm_middle.trans ?_
      rw [List.append_assoc, List.takeWhile_append_dropWhile]
      refine (List.Perm.cons x (ih l' (by simpa using hl))).trans ?_
      exact (List.perm_append_singleton x l').symm
  exact main _ l rfl
theorem left_lt1 {x y : Str} (hx : KNm x) (hy : KNm y) (h : ltS (behindS y) (behindS x) = true) (hm : mtch x y = false) : ltS (leftS y) (leftS x) = true := by
  rw [leftS_eq, leftS_eq]
  by_cases hp : behindS y <+: behindS x
  · have h7 : s7 (behindS y) = true := by
      cases e : s7 (behindS y) with
      | true => rfl
      | false => rw [(mtch_k hx hy).mpr ⟨e, hp, lt_ne h⟩] at hm; cases hm
    have h7' := s7_pfx hp (kn1 hy)
    rw [h7] at h7'
    rw [if_pos h7, if_pos h7'.symm]
    exact h
  · have key := fun u v => ltS_app _ _ u v h hp
    split
    · split
      · exact h
      · have := key [] [Str.ofString "~"]; rwa [List.append_nil] at this
    · split
      · have := key [Str.ofString "~"] []; rwa [List.append_nil] at this
      · exact key _ _
theorem left_lt2 {x y : Str} (hx : KNm x) (hy : KNm y) (hm : mtch x y = true) : ltS (leftS x) (leftS y) = true := by
  obtain ⟨h7, hp, hn⟩ := (mtch_k hx hy).mp hm
  have h7' := s7_pfx hp (kn1 hy)
  rw [leftS_eq, leftS_eq, if_neg (by rw [← h7', h7]; simp), if_neg (by rw [h7]; simp)]
  exact ltS_tilde _ _ [] _ hp hn fun z hz => (key_labs hx.kf.k4 z hz).2.1
theorem rest_sorted (l : List Str) : (∀ o ∈ l, KNm o) → Up2 l → (restL l).Pairwise (fun a b => ltS (leftS a) (leftS b) = true) := by
  have main : ∀ (n : Nat) (l : List Str), l.length = n → (∀ o ∈ l, KNm o) → Up2 l → (restL l).Pairwise (fun a b => ltS (leftS a) (leftS b) = true) := by
    intro n
    induction n with
    | zero => intro l hl; rw [List.length_eq_zero_iff.mp hl]; intro _ _; exact .nil
    | succ n ih =>
      intro l hl hK hU
      obtain ⟨l', x, rfl⟩ : ∃ l' p, l = l' ++ [p] := by
        rcases List.eq_nil_or_concat l with e | ⟨l', p, e⟩
        · rw [e] at hl; simp at hl
        · exact ⟨l', p, by rw [e, List.concat_eq_append]⟩
      have hpw := List.pairwise_append.mp hU
      have hlt : ∀ o ∈ l', ltS (behindS o) (behindS x) = true := fun o ho => hpw.2.2 o ho x (.head _)
      have hx : KNm x := hK x (by simp)
      have hk : ∀ o ∈ l', KNm o := fun o ho => hK o (List.mem_append_left _ ho)
      have hS := ih l' (by simpa using hl) hk hpw.1
      have hP := rest_perm l'
      have hmem : ∀ o ∈ restL l', o ∈ l' := fun o ho => hP.mem_iff.mp ho
      have hnd : (restL l').Nodup := by
        refine hP.nodup_iff.mpr ?_
        exact hpw.1.imp fun {a b} q e => by subst e; rw [ltS_irr] at q; cases q
      have split3 : restL l' = ((stateS l').1 ++ (stateS l').2.reverse.takeWhile (fun y => !mtch x y)) ++ (stateS l').2.reverse.dropWhile (fun y => !mtch x y) := by
        rw [List.append_assoc, List.takeWhile_append_dropWhile]
      have hdw : ∀ o ∈ (stateS l').2.reverse.dropWhile (fun y => !mtch x y), mtch x o = true := by
        have q1 := stack_chain l' x hK hU
        intro o ho
        have q2 : o ∈ chainS x (l' ++ [x]) := by
          rw [← q1]
          unfold stateS
          rw [List.foldl_append]
          exact List.mem_append_left _ (List.mem_reverse.mpr ho)
        have ho' : o ∈ l' := hmem o (by rw [split3]; exact List.mem_append_right _ ho)
        have hne := hlt o ho'
        rw [chainS_eq] at q2
        split at q2
        · rw [List.mem_singleton.mp q2, ltS_irr] at hne; cases hne
        · rename_i h7
          have hp := of_decide_eq_true (List.mem_filter.mp q2).2
          exact (mtch_k hx (hk o ho')).mpr ⟨by rw [s7_pfx hp (kn1 (hk o ho'))]; simpa using h7, hp, lt_ne hne⟩
      have htw : ∀ o ∈ (stateS l').1 ++ (stateS l').2.reverse.takeWhile (fun y => !mtch x y), mtch x o = false := by
        intro o ho
        cases e : mtch x o with
        | false => rfl
        | true =>
          exfalso
          have ho' : o ∈ l' := hmem o (by rw [split3]; exact List.mem_append_left _ ho)
          obtain ⟨h7, hp, hn⟩ := (mtch_k hx (hk o ho')).mp e
          have q2 : o ∈ chainS x (l' ++ [x]) := by
            rw [chainS_eq, if_neg (by rw [← s7_pfx hp (kn1 (hk o ho')), h7]; simp)]
            exact List.mem_filter.mpr ⟨List.mem_append_left _ ho', decide_eq_true hp⟩
          rw [← stack_chain l' x hK hU] at q2
          unfold stateS at q2
          rw [List.foldl_append] at q2
          rcases List.mem_append.mp (show o ∈ (List.dropWhile (fun y => !mtch x y) (stateS l').2.reverse).reverse ++ [x] from q2) with q3 | q3
          · rw [split3, List.nodup_append] at hnd
            exact hnd.2.2 o ho o (List.mem_reverse.mp q3) rfl
          · rw [List.mem_singleton.mp q3] at hn; exact hn rfl
      rw [rest_snoc]
      rw [split3, List.pairwise_append] at hS
      refine List.pairwise_append.mpr ⟨hS.1, List.pairwise_cons.mpr ⟨fun o ho => ?_, hS.2.1⟩, fun a ha b hb => ?_⟩
      · have ho' : o ∈ l' := hmem o (by rw [split3]; exact List.mem_append_right _ ho)
        exact left_lt2 hx (hk o ho') (hdw o ho)
      · rcases List.mem_cons.mp hb with rfl | hb
        · have ho' : a ∈ l' := hmem a (by rw [split3]; exact List.mem_append_left _ ha)
          exact left_lt1 hx (hk a ho') (hlt a ho') (htw a ha)
        · exact hS.2.2 a ha b hb
  exact main _ l rfl
theorem perm_sorted {l l' : List Str} (h : l.Perm l') (g : Str → List Str) (h1 : l.Pairwise (fun a b => ltS (g a) (g b) = true)) (h2 : l'.Pairwise (fun a b => ltS (g a) (g b) = true)) : l = l' :=
  List.Perm.eq_of_pairwise (le := fun a b => ltS (g a) (g b) = true) (fun a b _ _ q1 q2 => by rw [ltS_asym q1] at q2; cases q2) h1 h2 h
end
section
local macro_rules | `(tactic| walk_at "zz") => `(tactic| fail)
theorem forget1_45 {prog : Program} {w : World} {A : Around} {Q : Bool → Shared → Prop} {E : Value → Shared → Prop} {s : Shared} (h : wpAny (model prog w) A (truthy (.bool true)) Q E s) : wpAny (model prog w) A (truthy (.bool true)) Q E s := by
  w_top off
  first | (walk1; fail) | exact h
local macro_rules | `(tactic| walk_at "zz") => `(tactic| fail)
theorem forget2_45 {prog : Program} {w : World} {A : Around} {Q : Bool → Shared → Prop} {E : Value → Shared → Prop} {s : Shared} (h : wpAny (model prog w) A (truthy (.bool true)) Q E s) : wpAny (model prog w) A (truthy (.bool true)) Q E s := by
  first | (walk1; fail) | exact h
end
noncomputable section
theorem pfx_drop {a k : List Str} (hk : 2 ≤ k.length) : (a <+: k ∧ a ≠ k) ↔ (a <+: k.dropLast ∧ a ≠ k.dropLast) ∨ a = k.dropLast := by
  have hd : k.dropLast <+: k := List.dropLast_prefix k
  have hl := List.length_dropLast (xs := k)
  constructor
  · rintro ⟨h, hn⟩
    have h1 : a.length ≠ k.length := fun e => hn (h.eq_of_length e)
    have h2 := h.length_le
    have h3 : a <+: k.dropLast := List.prefix_of_prefix_length_le h hd (by omega)
    by_cases e : a = k.dropLast
    · exact .inr e
    · exact .inl ⟨h3, e⟩
  · have key : a <+: k.dropLast → a <+: k ∧ a ≠ k := fun h => ⟨h.trans hd, fun e => by have := h.length_le; rw [e] at this; omega⟩
    rintro (⟨h, _⟩ | h)
    · exact key h
    · exact key (by rw [h]; exact List.prefix_refl _)
theorem one_key {os : List Str} (hU : Up2 os) (k : List Str) : (os.filter fun o => decide (behindS o = k)).length ≤ 1 := by
  have h := List.Pairwise.filter (fun o => decide (behindS o = k)) hU
  match hq : os.filter (fun o => decide (behindS o = k)) with
  | [] => simp
  | [_] => simp
  | a :: b :: r =>
    exfalso
    have ha := List.mem_filter.mp (show a ∈ os.filter (fun o => decide (behindS o = k)) by rw [hq]; simp)
    have hb := List.mem_filter.mp (show b ∈ os.filter (fun o => decide (behindS o = k)) by rw [hq]; simp)
    rw [hq] at h
    have q := (List.pairwise_cons.mp h).1 b (.head _)
    rw [of_decide_eq_true ha.2, of_decide_eq_true hb.2, ltS_irr] at q
    cases q
theorem rev_one {α : Type} {l : List α} (h : l.length ≤ 1) : l.reverse = l := by
  match l, h with
  | [], _ => rfl
  | [_], _ => rfl
theorem met_k {os : List Str} (hK : ∀ o ∈ os, KNm o) (hU : Up2 os) : ∀ (n : Nat) (k : List Str), k ∈ keys4 → s7 k = false → k.length ≤ n + 1 →
    metS n (nmK k) os = ((os.filter fun o => decide (behindS o <+: k ∧ behindS o ≠ k)).reverse).filter fun o => decide (2 ≤ (behindS o).length) := by
  have short : ∀ k : List Str, k.length ≤ 2 → ((os.filter fun o => decide (behindS o <+: k ∧ behindS o ≠ k)).reverse).filter (fun o => decide (2 ≤ (behindS o).length)) = [] := by
    intro k hk
    refine List.filter_eq_nil_iff.mpr fun o ho h2 => ?_
    have q := of_decide_eq_true (List.mem_filter.mp (List.mem_reverse.mp ho)).2
    have h1 : (behindS o).length ≠ k.length := fun e => q.2 (q.1.eq_of_length e)
    have h3 := q.1.length_le
    have := of_decide_eq_true h2
    omega
  intro n
  induction n with
  | zero =>
    intro k hk h7 hl
    rw [short k (by omega)]
    rfl
  | succ n ih =>
    intro k hk h7 hl
    unfold metS
    by_cases h3 : 3 ≤ k.length
    · have hd := key_drop hk (by omega)
      have hr : reachR (nmK k) = dotS ++ nmK k.dropLast := by rw [(chkC_of hk).1, if_pos (by simp [h3, h7])]
      have hnx : nextR (nmK k) = nmK k.dropLast := by unfold nextR; rw [hr, (chkC_of hd).2.1]
      rw [hnx, hr, if_neg (by simp only [beq_iff_eq]; exact fun e => (chkC_of hk).2.2 e.symm)]
      have h7d : s7 k.dropLast = false := by rw [s7_pfx (List.dropLast_prefix k) (key_ne hd).1]; exact h7
      rw [ih _ hd h7d (by rw [List.length_dropLast]; omega)]
      have hsplit : (os.filter fun o => decide (behindS o <+: k ∧ behindS o ≠ k)) = (os.filter fun o => decide (behindS o <+: k.dropLast ∧ behindS o ≠ k.dropLast)) ++ os.filter fun o => decide (behindS o = k.dropLast) := by
        rw [← filter_two]
        · refine List.filter_congr fun o _ => ?_
          rw [Bool.eq_iff_iff, Bool.or_eq_true, decide_eq_true_eq, decide_eq_true_eq, decide_eq_true_eq]
          exact pfx_drop (by omega)
        · refine hU.imp fun {a b} q h => ?_
          have e := of_decide_eq_true h
          rw [decide_eq_false_iff_not]
          rintro ⟨q1, q2⟩
          rw [e, pfx_not_lt q1] at q
          cases q
        · intro a _ h
          rw [decide_eq_false_iff_not]
          exact (of_decide_eq_true h).2
      rw [hsplit, List.reverse_append, List.filter_append]
      congr 1
      rw [rev_one (one_key hU _), List.filter_filter]
      refine List.filter_congr fun o ho => ?_
      have q := (hK o ho).kf
      rw [q.low, Bool.eq_iff_iff, beq_iff_eq, Bool.and_eq_true, decide_eq_true_eq, decide_eq_true_eq]
      constructor
      · intro e
        have e' := nmK_inj q.k4 hd e
        exact ⟨by rw [e', List.length_dropLast]; omega, e'⟩
      · rintro ⟨_, e⟩; rw [e]
    · have hr : reachR (nmK k) = nmK k := by rw [(chkC_of hk).1, if_neg (by simp; omega)]
      rw [hr, if_pos (by simp), short k (by omega)]
theorem met_chain {os : List Str} (hK : ∀ o ∈ os, KNm o) (hU : Up2 os) {x : Str} (hx : x ∈ os) : metS 4 (Txt.lower x) os = dotF (chainS x os) := by
  have q := (hK x hx).kf
  rw [q.low, chainS_eq]
  cases h7 : s7 (behindS x) with
  | true =>
    rw [if_pos rfl]
    unfold metS
    have hr : reachR (nmK (behindS x)) = nmK (behindS x) := by rw [(chkC_of q.k4).1, if_neg (by simp [h7])]
    rw [hr, if_pos (by simp)]
    rfl
  | false =>
    rw [if_neg Bool.false_ne_true, met_k hK hU 4 _ q.k4 h7 (by have := key_ne q.k4; omega)]
    have hsplit : (os.filter fun o => decide (behindS o <+: behindS x)) = (os.filter fun o => decide (behindS o <+: behindS x ∧ behindS o ≠ behindS x)) ++ os.filter fun o => decide (behindS o = behindS x) := by
      rw [← filter_two]
      · refine List.filter_congr fun o _ => ?_
        rw [Bool.eq_iff_iff, Bool.or_eq_true, decide_eq_true_eq, decide_eq_true_eq, decide_eq_true_eq]
        constructor
        · intro h
          by_cases e : behindS o = behindS x
          · exact .inr e
          · exact .inl ⟨h, e⟩
        · rintro (h | h)
          · exact h.1
          · rw [h]; exact List.prefix_refl _
      · refine hU.imp fun {a b} r h => ?_
        have e := of_decide_eq_true h
        rw [decide_eq_false_iff_not]
        rintro ⟨q1, q2⟩
        rw [e, pfx_not_lt q1] at r
        cases r
      · intro a _ h
        rw [decide_eq_false_iff_not]
        exact (of_decide_eq_true h).2
    have hone : (os.filter fun o => decide (behindS o = behindS x)) = [x] := by
      have h1 := one_key hU (behindS x)
      have h2 : x ∈ os.filter fun o => decide (behindS o = behindS x) := List.mem_filter.mpr ⟨hx, by simp⟩
      match hq : os.filter (fun o => decide (behindS o = behindS x)) with
      | [] => rw [hq] at h2; cases h2
      | [y] => rw [hq] at h2; rw [List.mem_singleton.mp h2]
      | _ :: _ :: _ => rw [hq] at h1; simp at h1
    unfold dotF
    rw [hsplit, hone, List.dropLast_concat]
    refine List.filter_congr fun o ho => ?_
    have ho' := (List.mem_filter.mp (List.mem_reverse.mp ho)).1
    exact (hK o ho').kf.dot.symm
theorem good6 {os : List Str} (hl : os.length ≤ 13) (hK : ∀ o ∈ os, KNm o) (hU : Up2 os) : Good6 os :=
  ⟨KF.names hl hK, fun _ _ h => ⟨pile_chain hK hU h, met_chain hK hU (List.mem_of_getElem? h)⟩⟩
structure Dist (ss : List Str) : Prop where
  kn : ∀ o ∈ ss, KNm o
  nd : (ss.map Txt.lower).Nodup
theorem names_dist (zs : List Int) : Dist (namesS zs) := by
  unfold namesS
  have main : ∀ (zs : List Int) (acc : List Str), Dist acc → Dist (zs.foldl namesStep acc) := by
    intro zs
    induction zs with
    | nil => intro acc h; exact h
    | cons z r ih =>
      intro acc h
      rw [List.foldl_cons]
      refine ih _ ?_
      unfold namesStep
      split
      · exact h
      · rename_i hn
        refine ⟨fun o ho => ?_, ?_⟩
        · rcases List.mem_append.mp ho with q | q
          · exact h.kn o q
          · rw [List.mem_singleton.mp q]; exact nameS_K _
        · rw [List.map_append, List.nodup_append]
          refine ⟨h.nd, by simp, ?_⟩
          rintro a ha b hb rfl
          simp only [List.map_cons, List.map_nil, List.mem_singleton] at hb
          subst hb
          exact hn ha
  exact main zs [] ⟨fun o ho => absurd ho List.not_mem_nil, by simp⟩
theorem Dist.inj {ss : List Str} (h : Dist ss) {a b : Nat} {x y : Str} (ha : ss[a]? = some x) (hb : ss[b]? = some y) (e : behindS x = behindS y) : a = b := by
  have hl : Txt.lower x = Txt.lower y := by
    rw [(h.kn x (List.mem_of_getElem? ha)).kf.low, (h.kn y (List.mem_of_getElem? hb)).kf.low, e]
  have la : a < ss.length := (List.getElem?_eq_some_iff.mp ha).1
  have lb : b < ss.length := (List.getElem?_eq_some_iff.mp hb).1
  have ea : (ss.map Txt.lower)[a]? = some (Txt.lower x) := by rw [List.getElem?_map, ha]; rfl
  have eb : (ss.map Txt.lower)[b]? = some (Txt.lower y) := by rw [List.getElem?_map, hb]; rfl
  exact (List.getElem?_inj (by rw [List.length_map]; exact la) h.nd).mp (by rw [ea, eb, hl])
theorem ltOk_of {ss : List Str} (h : Dist ss) (g : Str → List Str) (hg : ∀ x ∈ ss, ∀ y ∈ ss, g x = g y → behindS x = behindS y) : LtOk ss.length (ltG g ss) := by
  refine ⟨fun a b c _ _ _ h1 h2 => ltS_trans _ _ _ h1 h2, fun a b _ _ h1 => ltS_asym h1, fun a b ha hb hn h1 => ltS_tot _ _ (fun e => hn ?_) h1⟩
  have q : ∀ {a : Nat}, a < ss.length → ss[a]? = some (ss.getD a (Str.ofString "")) := fun {a} ha => by rw [List.getD_eq_getElem?_getD, List.getElem?_eq_getElem ha]; rfl
  exact h.inj (q ha) (q hb) (hg _ (List.mem_of_getElem? (q ha)) _ (List.mem_of_getElem? (q hb)) e)
theorem s7_app {k t : List Str} (h : 1 ≤ k.length) : s7 (k ++ t) = s7 k := by
  cases k with
  | nil => simp at h
  | cons _ _ => rfl
theorem left_inj {x y : Str} (hx : KNm x) (hy : KNm y) (e : leftS x = leftS y) : behindS x = behindS y := by
  have h7 : ∀ z, KNm z → s7 (leftS z) = s7 (behindS z) := fun z hz => by
    rw [leftS_eq]; split
    · rfl
    · exact s7_app (kn1 hz)
  have h := h7 x hx
  rw [e, h7 y hy] at h
  rw [leftS_eq, leftS_eq, ← h] at e
  split at e
  · exact e
  · exact List.append_cancel_right e
theorem Dist.one {ss : List Str} (h : Dist ss) : LtOk ss.length (ltG behindS ss) := ltOk_of h _ fun _ _ _ _ e => e
theorem Dist.two {ss : List Str} (h : Dist ss) : LtOk ss.length (ltG leftS ss) := ltOk_of h _ fun x hx y hy e => left_inj (h.kn x hx) (h.kn y hy) e
theorem names_rest {ss : List Str} (h : Dist ss) (os ts : List Str) (ho : os.Perm ss) (hU : Up2 os) (ht : ts.Perm ss) (hL : ts.Pairwise (fun a b => ltS (leftS a) (leftS b) = true)) : (stateS os).1 ++ (stateS os).2.reverse = ts :=
  perm_sorted ((rest_perm os).trans (ho.trans ht.symm)) leftS (rest_sorted os (fun o q => h.kn o (ho.mem_iff.mp q)) hU) hL
theorem names_ne (ns : List Int) : 1 ≤ (namesS (zsS ns)).length ∧ (namesS (zsS ns)).length ≤ 13 := by
  have hb := zsS_bnd ns
  refine ⟨?_, ?_⟩
  · have grow : ∀ (zs : List Int) (acc : List Str), acc.length ≤ (zs.foldl namesStep acc).length := by
      intro zs
      induction zs with
      | nil => intro acc; exact Nat.le_refl _
      | cons z r ih =>
        intro acc
        rw [List.foldl_cons]
        refine Nat.le_trans ?_ (ih _)
        unfold namesStep; split <;> simp
    match hz : zsS ns with
    | [] => rw [hz] at hb; simp at hb
    | z :: r =>
      unfold namesS
      rw [List.foldl_cons]
      refine Nat.le_trans ?_ (grow r _)
      simp [namesStep]
  · have := namesS_len (zsS ns) []
    unfold namesS
    simp only [List.length_nil] at this
    omega
end
section
local macro_rules | `(tactic| walk_at "zz") => `(tactic| fail)
theorem forget1_46 {prog : Program} {w : World} {A : Around} {Q : Bool → Shared → Prop} {E : Value → Shared → Prop} {s : Shared} (h : wpAny (model prog w) A (truthy (.bool true)) Q E s) : wpAny (model prog w) A (truthy (.bool true)) Q E s := by
  w_top off
  first | (walk1; fail) | exact h
local macro_rules | `(tactic| walk_at "zz") => `(tactic| fail)
theorem forget2_46 {prog : Program} {w : World} {A : Around} {Q : Bool → Shared → Prop} {E : Value → Shared → Prop} {s : Shared} (h : wpAny (model prog w) A (truthy (.bool true)) Q E s) : wpAny (model prog w) A (truthy (.bool true)) Q E s := by
  first | (walk1; fail) | exact h
end
noncomputable section
theorem law_run {w : World} (l : Addr) (vs : List Value) (ns : List Int) {mean : ExcName → Option Value} {mg mb : Str → Option Value} {loose : List Str} {dp un : Nat} {gd : Option (List Code)} {fa : Addr} {cdv : Value} {outer : List Env} {A₀ : Around} {base h₀ : Heap} {L : Addr} {s : Shared} {Q : Flow → Shared → Prop}
    (hG : GS l vs ns h₀) (hB : Below A₀ base outer h₀) (hF : Fr h₀ L s.heap (mS l)) (hX : (hd.heap_39 w.params).In h₀) (hN : News h₀ L s.heap tl0) (hT : Top topProg loose mean mg mb h₀) (hdp : dp + 10 < recursionLimit) (hun : un + 1000 < cLine) (hAB : AllBare s.gens)
    (hret : ∀ s', h₀.StaysIn s'.heap → (∃ ps, s'.heap.get? 113 = some (tabO ps)) → (∃ ps, s'.heap.get? 120 = some (tabO ps)) → AllBare s'.gens → s'.os = s.os → s'.drawn = s.drawn → Q (.ret (.bool true)) s') :
    wpAny (model PySem.Challenge.rw_qu0014_01.row.prog w) (ktrTop dp un gd (Str.ofString "law") (lawSc w) L fa cdv [] outer) (execs [lawSt w 0, lawSt w 1, lawSt w 2, lawSt w 3, lawSt w 4, lawSt w 5, lawSt w 6, lawSt w 7, lawSt w 8, lawSt w 9] (lawEnv w L fa cdv)) Q Nv s := by
  have hD := names_dist (zsS ns)
  obtain ⟨h1, h13⟩ := names_ne ns
  generalize hss : namesS (zsS ns) = ss at hD h1 h13
  have hlen : ∀ x ∈ ss, x.length ≤ 100 := fun x hx => (hD.kn x hx).kf.gd.len
  have hgood : ∀ os : List Str, os.Perm ss → os.Pairwise (fun a b => ltS (behindS a) (behindS b) = true) → Good6 os := fun os hp hU => good6 (by rw [hp.length_eq]; exact h13) (fun o ho => hD.kn o (hp.mem_iff.mp ho)) hU
  refine seg_run (seg0 l vs ns tl0) hG ⟨rfl, rfl⟩ hB hF hX hN hT hdp hun hAB ?_
  rintro _ _ s0 ⟨nl, rfl, rfl, hnl⟩ F0 N0 G0 o0 d0
  refine seg_run (seg1 l vs ns nl tl0 hnl) hG ⟨rfl, rfl⟩ hB F0 hX N0 hT hdp hun G0 ?_
  intro ma newsa s1 hP1 F1 N1 G1 o1 d1
  rw [hss] at hP1
  refine seg_run (seg2 l vs ns nl ss tl0 hnl h1 h13 hlen hD.one) hG hP1 hB F1 hX N1 hT hdp hun G1 ?_
  intro mb' newsb s2 hP2 F2 N2 G2 o2 d2
  refine seg_run (seg3 l vs ns nl ss tl0) hG hP2 hB F2 hX N2 hT hdp hun G2 ?_
  intro mc newsc s3 hP3 F3 N3 G3 o3 d3
  refine seg_run (seg4 l vs ns nl ss tl0) hG hP3 hB F3 hX N3 hT hdp hun G3 ?_
  intro md newsd s4 hP4 F4 N4 G4 o4 d4
  refine seg_run (seg5 l vs ns nl ss tl0) hG hP4 hB F4 hX N4 hT hdp hun G4 ?_
  intro me newse s5 hP5 F5 N5 G5 o5 d5
  refine seg_run (seg6 l vs ns nl ss (hnl _ (.head _)) hgood) hG hP5 hB F5 hX N5 hT hdp hun G5 ?_
  intro mf newsf s6 hP6 F6 N6 G6 o6 d6
  refine seg_run (seg7 l vs ns nl ss h13) hG hP6 hB F6 hX N6 hT hdp hun G6 ?_
  intro mh newsh s7 hP7 F7 N7 G7 o7 d7
  refine seg_run (seg8 l vs ns nl ss h13) hG hP7 hB F7 hX N7 hT hdp hun G7 ?_
  intro mi newsi s8 hP8 F8 N8 G8 o8 d8
  refine wpAny_execs_cons ?_
  refine seg9 l nl ns ss h1 h13 hD.two (names_rest hD) mean mg mb loose dp un gd fa cdv outer A₀ base h₀ L mi newsi s8 _ hP8 hB F8 hX N8 hT hdp hun G8 ?_
  intro s' a1 a2 a3 a4 a5 a6
  refine hret s' a1 a2 a3 a4 ?_ ?_
  · rw [a5, o8, o7, o6, o5, o4, o3, o2, o1, o0]
  · rw [a6, d8, d7, d6, d5, d4, d3, d2, d1, d0]
end
section
local macro_rules | `(tactic| walk_at "zz") => `(tactic| fail)
theorem forget1_47 {prog : Program} {w : World} {A : Around} {Q : Bool → Shared → Prop} {E : Value → Shared → Prop} {s : Shared} (h : wpAny (model prog w) A (truthy (.bool true)) Q E s) : wpAny (model prog w) A (truthy (.bool true)) Q E s := by
  w_top off
  first | (walk1; fail) | exact h
local macro_rules | `(tactic| walk_at "zz") => `(tactic| fail)
theorem forget2_47 {prog : Program} {w : World} {A : Around} {Q : Bool → Shared → Prop} {E : Value → Shared → Prop} {s : Shared} (h : wpAny (model prog w) A (truthy (.bool true)) Q E s) : wpAny (model prog w) A (truthy (.bool true)) Q E s := by
  first | (walk1; fail) | exact h
end
noncomputable section
theorem old_tabs {h₁ h : Heap} {tabs : List (Addr × Addr)} (hT : TabsAt tabs h₁) (hk : (ghostOf h₁ tabs).StaysIn h) (hg : ∀ q ∈ tabs, ∃ ps, h.get? q.2 = some (tabO ps)) : OldK h₁ h where
  old b o e := by
    by_cases hb : b ∈ tabs.map (·.2)
    · obtain ⟨q, hq, rfl⟩ := List.mem_map.mp hb
      obtain ⟨ps, hP⟩ := hg q hq
      obtain ⟨hc, ht⟩ := hT q hq
      have eo : o = tabO #[] := Option.some.inj (e.symm.trans ht)
      subst eo
      exact .inr (.inl ⟨(hc.tab ht).isCodeTable, rfl, #[], ps, rfl, by rw [Array.empty_append]; exact hP⟩)
    · exact .inl (hk b o (ghost_ne e hb))
  there b o e := by
    by_cases hb : b ∈ tabs.map (·.2)
    · obtain ⟨q, hq, rfl⟩ := List.mem_map.mp hb
      obtain ⟨ps, hP⟩ := hg q hq
      exact ⟨_, hP⟩
    · exact ⟨o, hk b o (ghost_ne e hb)⟩
theorem end_good {M : Model} {A : Around} {cd : Code} {s s₁ : Shared} {cw : ClaimW} {cl : Str → Option Addr} {mean : ExcName → Option Value} {args : List WData} {tabs : List (Addr × Addr)} (hT : TabsAt tabs s₁.heap) (hr : ∀ x, cw.raises args x = false) (hp : cw.post args (.bool true) args = true)
    (h : codeAny M A cd (fun r s' => r = .ok (.ret (.bool true)) ∧ (ghostOf s₁.heap tabs).StaysIn s'.heap ∧ (∀ q ∈ tabs, ∃ ps, s'.heap.get? q.2 = some (tabO ps)) ∧ s'.os = s₁.os ∧ AllBare s'.gens) s) : codeAny M A cd (GoodWG cw cl mean args s₁) s :=
  codeAny_mono h fun r s' ⟨e, hk, hg, hos, hb⟩ => ⟨.inl ⟨.bool true, .bool true, [], e, hr, ReadsW.bool true, hp, fun _ => ⟨List.nodup_nil, fun _ hm => absurd hm List.not_mem_nil⟩⟩, old_tabs hT hk hg, hos, hb⟩
abbrev tabs2 : List (Addr × Addr) := [(124, 120), (117, 113)]
theorem tabs2_at {w : World} {h : Heap} (X : (K2 w.params).In h) : TabsAt tabs2 h := by
  intro q hq
  rcases List.mem_cons.mp hq with rfl | hq
  · exact ⟨codeHd_of_K X (by kernel_rfl), X _ _ (by kernel_rfl)⟩
  · rw [List.mem_singleton.mp hq]
    exact ⟨codeHd_of_K X (by kernel_rfl), X _ _ (by kernel_rfl)⟩
theorem k2_heap {w : World} {h : Heap} (X : (K2 w.params).In h) : (hd.heap_39 w.params).In (ghostOf h tabs2) := by
  have e : (hd.heap_39 w.params).In h := by
    intro a o he
    refine X a o ?_
    unfold K2
    rw [List.lookup_cons, List.lookup_cons]
    have n1 : (a == 113) = false := by
      rw [beq_eq_false_iff_ne]; rintro rfl
      rw [show (hd.heap_39 w.params).lookup 113 = none by kernel_rfl] at he; cases he
    have n2 : (a == 120) = false := by
      rw [beq_eq_false_iff_ne]; rintro rfl
      rw [show (hd.heap_39 w.params).lookup 120 = none by kernel_rfl] at he; cases he
    rw [n1, n2]; exact he
  exact ghost_K (tabs2_at X) e (by kernel_rfl)
theorem law_end {p : Program} {w : World} {s₁ : Shared} {h₁ : Heap} {l fa : Addr} {vs : List Value} {ns : List Int} {mean : ExcName → Option Value} {mg mb : Str → Option Value} {loose : List Str} {cdv : Value} (KX : (K2 w.params).In s₁.heap) (T : Top p loose mean mg mb s₁.heap)
    (hL : s₁.heap.IsList l vs.toArray) (hI : IntsAre vs ns) (hn : ns.length ≤ 63) (F : Fr s₁.heap s₁.heap.objs.size h₁ (mS l)) (hg : s₁.gens = #[]) :
    wpAny (model PySem.Challenge.rw_qu0014_01.row.prog w) (callerA.deeper (lawEnv w s₁.heap.objs.size fa cdv)) (execs [lawSt w 0, lawSt w 1, lawSt w 2, lawSt w 3, lawSt w 4, lawSt w 5, lawSt w 6, lawSt w 7, lawSt w 8, lawSt w 9] (lawEnv w s₁.heap.objs.size fa cdv)) (fun f s' => f = .ret (.bool true) ∧ (ghostOf s₁.heap tabs2).StaysIn s'.heap ∧ (∀ q ∈ tabs2, ∃ ps, s'.heap.get? q.2 = some (tabO ps)) ∧ AllBare s'.gens ∧ s'.os = s₁.os) (fun _ _ => False) { s₁ with heap := h₁ } := by
  have hT := tabs2_at KX
  refine law_run (s := { s₁ with heap := h₁ }) l vs ns ⟨ghost_list hT hL, hI, hn⟩ (ghost_below hT) (ghost_fr hT F) (k2_heap KX) (ghost_news hT F News.nil) (ghost_top hT T) ?_ ?_ (.of_eq hg) ?_
  · decide +kernel
  · decide +kernel
  · intro s' a1 a2 a3 a4 a5 _
    refine ⟨rfl, a1, ?_, a4, a5⟩
    intro q hq
    rcases List.mem_cons.mp hq with rfl | hq
    · exact a3
    · rw [List.mem_singleton.mp hq]; exact a2
theorem law_at {p : Program} {w : World} {s₁ s : Shared} {l fa : Addr} {vs : List Value} {ns : List Int} {mean : ExcName → Option Value} {mg mb : Str → Option Value} {loose : List Str} {cdv : Value} {nm : Str} {sc : Scope} {b : List Stmt} {E : Value → Shared → Prop} {Q : Flow → Shared → Prop} (hn1 : nm = Str.ofString "law") (hs1 : sc = lawSc w) (hb1 : b = [lawSt w 0, lawSt w 1, lawSt w 2, lawSt w 3, lawSt w 4, lawSt w 5, lawSt w 6, lawSt w 7, lawSt w 8, lawSt w 9]) (KX : (K2 w.params).In s₁.heap) (T : Top p loose mean mg mb s₁.heap)
    (hL : s₁.heap.IsList l vs.toArray) (hI : IntsAre vs ns) (hn : ns.length ≤ 63) (F : Fr s₁.heap s₁.heap.objs.size s.heap (mS l)) (hg : s.gens = #[]) (ho : s.os = s₁.os)
    (hQ : ∀ s' : Shared, (ghostOf s₁.heap tabs2).StaysIn s'.heap → (∀ q ∈ tabs2, ∃ ps, s'.heap.get? q.2 = some (tabO ps)) → AllBare s'.gens → s'.os = s₁.os → Q (.ret (.bool true)) s') :
    wpAny (model PySem.Challenge.rw_qu0014_01.row.prog w) (callerA.deeper (envOf nm sc s₁.heap.objs.size fa cdv)) (execs b (envOf nm sc s₁.heap.objs.size fa cdv)) Q E s := by
  subst hn1 hs1 hb1
  obtain ⟨h1, g1, d1, t1, o1⟩ := s
  dsimp only at F hg ho
  subst hg ho
  have q := law_end (s₁ := { s₁ with gens := #[], drawn := d1, toks := t1 }) (h₁ := h1) (fa := fa) (cdv := cdv) KX T hL hI hn F rfl
  refine wpAny_mono q ?_ fun _ _ e => e.elim
  rintro _ s' ⟨rfl, a1, a2, a3, a4⟩
  exact hQ s' a1 a2 a3 a4
end
end Mine
open Mine in
theorem PySem.Challenge.cw_qu0014_01_holds : PySem.Challenge.rw_qu0014_01.Holds := by
  w_on
  o_law
  o_head (kHook K2 [113, 120, 2, 3, 32, 34, 35, 37, 38, 42, 43, 44, 46, 47, 49, 50, 51, 53, 54, 56, 57, 58, 60, 61, 63, 64, 65, 67, 68, 70, 71, 72, 75, 80, 81, 82, 84, 85, 87, 88, 89, 91, 92, 94, 95, 96, 97, 99, 100, 102, 103, 104, 105, 107, 108, 110, 111, 112, 114, 115, 117, 118, 119, 121, 122, 124, 125, 126, 127, 129, 130, 132, 133, 134, 136, 137, 139, 140, 141, 142, 144, 145, 147, 148, 149, 150, 151, 152, 153, 156, 159, 160, 161, 163, 164, 166, 167, 168, 170, 171, 173, 174, 175, 177, 178, 180, 181, 182, 185, 186, 187, 190, 191] K2_as)
  (case hw => w_witness2)
  w_strict (
    (k_fill)
    (intro w s₀ s₁ mg mb G Y fa o pm cd doc dV kV ho hd9 hcd hD hmg hg args vals as hpre hlay hrd hwl hlo)
    (have KX := kIn_of Y)
    (refine Ground.open G ?_)
    (intro T B D TE TW)
    (try (refine guard_noD D (by decide +kernel) ?_; clear D))
    (have hT9 := tabs2_at KX)
    (wrow_args hpre hlay hrd hwl hlo)
    all_goals (
      (first | refine callC_kw (enter_call ?_) | refine enter_call ?_)
      (w_top on)
      (refine end_good hT9 (fun _ => rfl) ?_ ?_)
      (case' refine_2 => w_call any ho hd9 hcd hD T F)
      (case' refine_2 => clear hd9)
      (case refine_2 => (refine law_at (s₁ := s₁) ?n1 ?s1 ?b1 KX T (by assumption) (by assumption) (by omega) ?F1 ?g1 ?o1 ?_; (case n1 => exact rfl); (case s1 => (rw [lawSc_eq]; kernel_rfl)); (case b1 => (simp only [lawSt_eq]; kernel_rfl)); (case F1 => exact F); (case g1 => exact hg); (case o1 => exact rfl); (intro s' a1 a2 a3 a4; exact ⟨rfl, a1, a2, a4, a3⟩)))
      (first | rfl | wrow_post)))
