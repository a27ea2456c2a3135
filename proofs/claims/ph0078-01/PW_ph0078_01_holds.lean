import PyProof.Rows.All
import Wide.All
import OpenK.AllK
import Wide.FinOn
import PySem.Challenge.RW_ph0078_01
set_option Elab.async false
section
open PySem PySem.W PyProof.Rows
namespace Mine
set_option maxRecDepth 100000 in
set_option maxHeartbeats 8000000 in
open_top hd for PySem.Challenge.rw_ph0078_01
end Mine
end
section
open PySem PySem.W PyProof.Rows
namespace Mine
def takenB (text word : Str) : Bool := word.cps.toList.isSublist text.cps.toList
def Okw (text word : Str) : Prop := text.length ≤ 8 ∧ word.length ≤ 17 ∧ ∀ c ∈ word.cps.toList, c ≠ 46
def Claim (w : World) (p : Program) (loose : List Str) (mean : ExcName → Option Value) (mg mb : Str → Option Value) (d u : Nat) (f : Addr) (led : List (Addr × Obj)) (vs : List Value) (kw : List (Str × Value)) (Post : Value → List (Addr × Obj) → Prop) : Prop :=
  ∀ (dp un : Nat) (gd : Option (List Code)) (cn : Str) (cs : Scope) (a : Addr) (ccd : Value) (cl : List (Str × Addr)) (outer : List Env) (A₀ : Around) (base h₀ : Heap) (L : Addr) (m : Str → Option Value) (s : Shared) (Q E : Value → Shared → Prop),
    Below A₀ base outer h₀ → Fr h₀ L s.heap m → (hd.heap_39 w.params).In h₀ → News h₀ L s.heap led → Top p loose mean mg mb h₀ → cs.kind = .function → dp + d < recursionLimit → un + u < cLine →
    (∀ (v : Value) (led' : List (Addr × Obj)) (h' : Heap) (tk' : Nat), Fr h₀ L h' m → News h₀ L h' led' → Post v led' → Q v { s with heap := h', toks := tk' }) →
    wpAny (model PySem.Challenge.rw_ph0078_01.row.prog w) (ktrTop dp un gd cn cs L a ccd cl outer) (call (.ref f) vs kw) Q E s
def natInts (l : List Nat) : List Int := l.map (fun k : Nat => (k : Int))
theorem Claim.use {w : World} {p : Program} {loose : List Str} {mean : ExcName → Option Value} {mg mb : Str → Option Value} {d u : Nat} {f : Addr} {led : List (Addr × Obj)} {vs : List Value} {kw : List (Str × Value)} {Post : Value → List (Addr × Obj) → Prop}
    {dp un : Nat} {gd : Option (List Code)} {cn : Str} {cs : Scope} {a : Addr} {ccd : Value} {cl : List (Str × Addr)} {outer : List Env} {A₀ : Around} {base h₀ : Heap} {L : Addr} {m : Str → Option Value} {s : Shared} {Q E : Value → Shared → Prop}
    (C : Claim w p loose mean mg mb d u f led vs kw Post) (B : Below A₀ base outer h₀) (F : Fr h₀ L s.heap m) (X : (hd.heap_39 w.params).In h₀) (N : News h₀ L s.heap led) (T : Top p loose mean mg mb h₀) (hk : cs.kind = .function) (hd : dp + d < recursionLimit) (hu : un + u < cLine)
    (ret : ∀ (v : Value) (led' : List (Addr × Obj)) (h' : Heap) (tk' : Nat), Fr h₀ L h' m → News h₀ L h' led' → Post v led' → Q v { s with heap := h', toks := tk' }) :
    wpAny (model PySem.Challenge.rw_ph0078_01.row.prog w) (ktrTop dp un gd cn cs L a ccd cl outer) (call (.ref f) vs kw) Q E s := C _ _ _ _ _ _ _ _ _ _ _ _ _ _ _ _ _ B F X N T hk hd hu ret
theorem fdiv_two (a b : Nat) : ((a : Int) + b).fdiv 2 = (((a + b) / 2 : Nat) : Int) := by
  rw [Int.fdiv_eq_ediv_of_nonneg _ (by omega)]; omega
theorem natInts_range_get {ys : List Value} {N i : Nat} (h : IntsAre ys (natInts (List.range N))) (hi : i < N) : ∃ t, ys[i]? = some (.int (i : Int) t) :=
  h.get i (i : Int) (by simp [natInts, hi])
theorem newsList {h₀ h : Heap} {L l : Addr} {n : Nat} {vs : List Value} {news : List (Addr × Obj)} (N : News h₀ L h news) (hm : (l, listOf vs.toArray n) ∈ news) : h.IsList l vs.toArray := ⟨_, (N _ hm).1, rfl, n, rfl⟩
def Hold (P : Prop) : Prop := P
theorem Hold.mk {P : Prop} (h : Hold P) : P := h
noncomputable def bs (up : Nat → Bool) (lo hi : Nat) : Nat × List Nat :=
  if lo < hi then
    if up ((lo + hi) / 2) then ((bs up ((lo + hi) / 2 + 1) hi).1, (lo + hi) / 2 :: (bs up ((lo + hi) / 2 + 1) hi).2)
    else ((bs up lo ((lo + hi) / 2)).1, (lo + hi) / 2 :: (bs up lo ((lo + hi) / 2)).2)
  else (lo, [])
termination_by hi - lo
theorem bs_done {up : Nat → Bool} {lo hi : Nat} (h : ¬ lo < hi) : bs up lo hi = (lo, []) := by rw [bs, if_neg h]
theorem bs_up {up : Nat → Bool} {lo hi : Nat} (h : lo < hi) (hu : up ((lo + hi) / 2) = true) : bs up lo hi = ((bs up ((lo + hi) / 2 + 1) hi).1, (lo + hi) / 2 :: (bs up ((lo + hi) / 2 + 1) hi).2) := by rw [bs, if_pos h, hu]; simp
theorem bs_down {up : Nat → Bool} {lo hi : Nat} (h : lo < hi) (hu : up ((lo + hi) / 2) = false) : bs up lo hi = ((bs up lo ((lo + hi) / 2)).1, (lo + hi) / 2 :: (bs up lo ((lo + hi) / 2)).2) := by rw [bs, if_pos h, hu]; simp
end Mine
end
section
open PySem PySem.W PyProof.Rows PySem.Calls PySem.Spec
namespace Mine
def TabSt (line col : Int) (qual : Str) (ps : Array Value) (led : List (Addr × Obj)) : Prop :=
  ps = #[] ∨ ∃ c0 oc0 vs0 t0, ps = #[rawInt line, rawInt col, .ref c0] ∧ (c0, oc0) ∈ led ∧ oc0.data = .fields vs0 ∧ vs0[1]? = some (.str qual t0)
theorem TabSt.mono {line col : Int} {qual : Str} {ps : Array Value} {led led' : List (Addr × Obj)} (h : TabSt line col qual ps led) (hs : ∀ q ∈ led, q ∈ led') : TabSt line col qual ps led' := by
  rcases h with h | ⟨c0, oc0, vs0, t0, h1, h2, h3⟩
  · exact .inl h
  · exact .inr ⟨c0, oc0, vs0, t0, h1, hs _ h2, h3⟩
abbrev qual1 : Str := (Str.ofString "_law_count" ++ ".<locals>.") ++ "<lambda>"
abbrev qual2 : Str := (Str.ofString "_law_ahead" ++ ".<locals>.") ++ "<lambda>"
abbrev qual3 : Str := (Str.ofString "_law_behind" ++ ".<locals>.") ++ "<lambda>"
theorem fd_of {h₀ h : Heap} {L f : Addr} {led : List (Addr × Obj)} {fd : FuncData} (N : News h₀ L h ((f, { cls := .type "function", data := .func fd }) :: led)) : ∃ fd', News h₀ L h ((f, { cls := .type "function", data := .func fd' }) :: led) ∧ fd' = fd := ⟨fd, N, rfl⟩
theorem news_ne {h₀ h : Heap} {L a b : Addr} {o1 o2 : Obj} {led : List (Addr × Obj)} (N : News h₀ L h led) (h1 : (a, o1) ∈ led) (h2 : (b, o2) ∈ led) (hd : o1.data ≠ o2.data) : a ≠ b := by
  intro e
  subst e
  have e1 := (N _ h1).1
  have e2 := (N _ h2).1
  rw [e1] at e2
  exact hd (congrArg Obj.data (Option.some.inj e2))
theorem among_one (a b : Nat) (c : Value) (pos : Pos) (h1 : pos.line = a) (h2 : pos.col = b) : codeAmong pos [rawInt (a : Int), rawInt (b : Int), c] = some c := by
  subst h1; subst h2; simp [codeAmong, rawInt]
section
variable {M : Model} {A : Around} {E : Value → Shared → Prop} {s : Shared} {h₀ : Heap} {L a c P : Addr} {m mg mb : Str → Option Value} {cn : Str} {cs : Scope} {ccd : Value} {cl : List (Str × Addr)} {news : List (Addr × Obj)} {g : Obj → List (Addr × Obj)}
  {p : Program} {loose : List Str} {mean : ExcName → Option Value} {params : Arguments} {body : Expr} {scope : Scope} {ps : Array Value} {pos : Pos} {clos : List (Str × Addr)} {Q : Value → Shared → Prop}
theorem lam_both (F : Fr h₀ L s.heap m) (N : News h₀ L s.heap news) (T : Top p loose mean mg mb h₀) (C : CodeHd h₀ c P) (hcd : ccd = .ref c) (U : UpdF P (tabObj ps) news g)
    (ht : TabSt pos.line pos.col ((envX cn cs L a ccd cl).qual ++ "<lambda>") ps news) (hdef : defaultsOf params (envX cn cs L a ccd cl) = ([], [])) (hcl : closureFor scope (envX cn cs L a ccd cl) = pure clos)
    (h : ∀ f c' oc vs t ctv h' tk, Fr h₀ L h' m →
      News h₀ L h' ((f, kla_obj "<lambda>" ((envX cn cs L a ccd cl).qual ++ "<lambda>") params body scope clos ((mg "__name__").getD .none) c' ctv) :: (c', oc) :: g (tabObj #[rawInt pos.line, rawInt pos.col, .ref c'])) →
      oc.data = .fields vs → vs[1]? = some (.str ((envX cn cs L a ccd cl).qual ++ "<lambda>") t) → (∀ q ∈ news, q.1 < f) → Q (.ref f) { s with heap := h', toks := tk }) :
    wpAny M A (eval (.Lambda params body scope pos) (envX cn cs L a ccd cl)) Q E s := by
  refine kla_eval hdef ?_
  rcases ht with rfl | ⟨c0, oc0, vs0, t0, rfl, hmem, hd0, hq0⟩
  · refine kla_nest F N T C hcd U (by exact True.intro) rfl hcl ?_
    intro f c' oc vs t ctv h' tk F' N' d1 d2 l1 l2
    exact h f c' oc vs t ctv h' tk F' N' d1 d2 (fun q hq => Nat.lt_trans (l1 q hq) l2)
  · obtain ⟨own, rest, rfl, hgr, h1, h2⟩ := U.split
    refine kla_hit F N T C hcd (List.mem_append_right _ (.head _)) (by simp [TriplesOk, rawInt]) (c' := c0) (among_one _ _ _ _ rfl rfl) hcl ?_
    intro f ctv h' tk F' N' l1
    refine h f c0 oc0 vs0 t0 ctv h' tk F' ?_ hd0 hq0 l1
    rw [hgr]
    intro q hq
    rcases List.mem_cons.mp hq with rfl | hq
    · exact N' _ (.head _)
    · rcases List.mem_cons.mp hq with rfl | hq
      · exact N' _ (.tail _ hmem)
      · exact N' _ (.tail _ hq)
end
end Mine
end
section
namespace Mine
theorem off_As : True := by
  w_top off
  trivial
end Mine
open PySem PySem.W PyProof.Rows
namespace Mine
theorem plain_news {h₀ h : Heap} {L D : Addr} {m : Str → Option Value} {ys : List Value} {news : List (Addr × Obj)} (F : Fr h₀ L h m) (N : News h₀ L h news) (P : NewPlain h news D ys.toArray) (hn : h₀.get? D = none) :
    ∃ n, News h₀ L h ((D, listOf ys.toArray n) :: news) := by
  obtain ⟨n, hn'⟩ := P.1
  refine ⟨n, fun p hp => ?_⟩
  rcases List.mem_cons.mp hp with rfl | hp
  · exact ⟨hn', P.ne_locals F, hn⟩
  · exact N p hp
theorem natInts_rangeInts (n : Nat) : rangeInts 0 1 n = natInts (List.range n) := by simp [rangeInts, natInts]
local macro_rules | `(tactic| k_room) => `(tactic| ktr_room)
local macro_rules | `(tactic| walk_at "LeaveK") => `(tactic| refine Hold.mk ?_)
local macro_rules | `(tactic| walk_at "call builtin:len") => `(tactic| (k_here; (with_reducible show wpAny _ _ (call (Value.builtin "len") [Value.ref _]) _ _ _); refine Hold.mk ?_))
def bitLen (n : Nat) : Nat := if n = 0 then 0 else Nat.log2 n + 1
def astray (asked : List Nat) (low high : Nat) : Bool := decide (bitLen (high - low) < asked.length) || asked.any (fun i => decide (i < low) || decide (high ≤ i))
local macro_rules | `(tactic| walk_at "eval ListComp") => `(tactic| refine Hold.mk ?_)
local macro_rules | `(tactic| walk_at "CompSrcT") => `(tactic| refine Hold.mk ?_)
local macro_rules | `(tactic| walk_at "CompEnd") => `(tactic| refine Hold.mk ?_)
local macro_rules | `(tactic| walk_at "compareOp NotEq ref ref") => `(tactic| refine Hold.mk ?_)
local macro_rules | `(tactic| walk_at "eval Name") => `(tactic| ((with_reducible show wpAny _ _ (eval (Expr.Name (Str.ofString "low") _) (compEnvC _ _ _ _)) _ _ _); refine Hold.mk ?_))
local macro_rules | `(tactic| walk_at "eval Name") => `(tactic| ((with_reducible show wpAny _ _ (eval (Expr.Name (Str.ofString "high") _) (compEnvC _ _ _ _)) _ _ _); refine Hold.mk ?_))
theorem foldl_stay (ns : List Int) : ns.foldl (fun (l : List Int) _ => l) [] = [] := by
  induction ns with
  | nil => rfl
  | cons a r ih => exact ih
theorem bits_eq {low high : Nat} (h : low ≤ high) : Builtin.Int.intBits ((high : Int) - low) = bitLen (high - low) := by
  unfold Builtin.Int.intBits bitLen
  have e : ((high : Int) - low) = ((high - low : Nat) : Int) := by omega
  rw [e]
  by_cases h0 : high - low = 0
  · simp [h0]
  · rw [if_neg h0, if_neg (by simp; omega)]; simp
set_option maxRecDepth 100000 in
set_option maxHeartbeats 2000000 in
theorem astray_claim (w : World) (p : Program) (loose : List Str) (mean : ExcName → Option Value) (mg mb : Str → Option Value) (led : List (Addr × Obj)) (la : Addr) (vs : List Value) (n : Nat) (asked : List Nat) (hm : (la, listOf vs.toArray n) ∈ led) (hi : IntsAre vs (natInts asked)) (low high : Nat) (t1 t2 : Tok)
   (hlh : low ≤ high) (hh : high ≤ 100) (hal : asked.length ≤ 100) (hno : astray asked low high = false) :
   Claim w p loose mean mg mb 3 80 51 led [.ref la, .int low t1, .int high t2] [] (fun v led' => v = .bool (astray asked low high) ∧ led' = led) := by
  unfold Claim
  k_fill
  intro dp un gd cn cs a ccd cl outer A₀ base h₀ L m s Q E B F X N0 T hk hdp hun hret
  refine wpAny_call ?_
  k_dflt (refine' code_defC ?k1 ?k2 ?k3 ?k4 ?k5 ?kA ?kF ?kK ?k6 ?k7 ?k8 ?k9 ?kB ?kD ?_ ?c2 ?c3 ?c4; (case kA => exact rfl); (case kF => exact rfl); (case kK => assumption); (case k1 => k_asm); (case k2 => k_asm); (case k3 => k_asm); (case k4 => k_asm); (case k5 => k_asm); (case k6 => k_is); (case k7 => k_is); (case k8 => exact (show dp < recursionLimit by omega)); (case k9 => exact BindsTo.of_eq rfl); (case kB => exact rfl); (case kD => decide +kernel); (case c2 => exact rfl); (case c3 => exact rfl); (case c4 => exact rfl); k_whole; intro g' L' h' tk' cells' FG' F' N' Y' B' X' T' l1; (try k_lt l1); k_cells Y'; (try simp only [List.cons_append, List.nil_append] at N'); (try dsimp only); (try k_lift B'); (try k_fold))
  k_steps
  unfold Hold
  have hvl : vs.length = asked.length := by rw [hi.length]; simp [natInts]
  refine kst_len N' (List.Mem.tail _ (List.Mem.tail _ hm)) hvl (by omega) ?_
  rename_i oH oL dH dL
  replace dH : oH.data = .cell (some (.int high t2)) := dH
  replace dL : oL.data = .cell (some (.int low t1)) := dL
  have hno' := hno
  unfold astray at hno
  rw [Bool.or_eq_false_iff] at hno
  obtain ⟨hn1, hn2⟩ := hno
  have hn1 : ¬ bitLen (high - low) < asked.length := of_decide_eq_false hn1
  have hn3 : ∀ k ∈ natInts asked, (low : Int) ≤ k ∧ k < (high : Int) := by
    intro k hk
    obtain ⟨i, hi', rfl⟩ := List.mem_map.mp hk
    have := List.any_eq_false.mp hn2 i hi'
    simp at this
    omega
  rw [hno'] at hret
  have hb := bits_eq hlh
  k_steps
  · unfold Hold
    k_dflt (refine LCt.ListComp_T (F₀ := F') (by with_unfolding_all rfl) (by decide) (by rfl) (by decide) (by rfl) ?_)
    k_steps
    unfold Hold
    refine LCt.CompSrcT.ledger rfl F' N' (List.Mem.tail _ (List.Mem.tail _ hm)) (by rw [List.size_toArray, hvl]; exact Nat.le_trans hal (by decide)) ?_
    intro g2
    refine kci_list (fun l _ => l) hi (fun k t I oI C oC D m2 ys l h tk E' hk hy hC hx F N off ne mk => ?turn) ?fin ?grow
    case grow => intro l k; exact Nat.le_succ _
    case turn =>
      have hk2 := hn3 k hk
      k_steps
      unfold Hold
      k_dflt (refine' kcf_cell N ?a1 (List.Mem.tail _ (List.Mem.tail _ (List.Mem.tail _ (List.Mem.tail _ (List.Mem.head _))))) dL ?_ ?a2 ?a3; (case a1 => exact rfl); (case a2 => exact rfl); (case a3 => exact rfl))
      k_steps
      unfold Hold
      k_dflt (refine' kcf_cell N ?a1 (List.Mem.tail _ (List.Mem.tail _ (List.Mem.tail _ (List.Mem.head _)))) dH ?_ ?a2 ?a3; (case a1 => exact rfl); (case a2 => exact rfl); (case a3 => exact rfl))
      k_steps
      unfold Hold
      exact ⟨_, _, _, rfl, F, N, off, .inr ⟨_, List.Mem.tail _ (List.Mem.tail _ hm), rfl, _, rfl⟩, rfl, rfl⟩
    case fin =>
      unfold KPfDone
      intro ys hys hlen
      k_steps
      unfold Hold
      rename Fr g' L' _ _ => kF
      rename News g' L' _ _ => kN
      rw [foldl_stay] at hys
      refine ne_intsK (newsList (vs := ys) kN (List.Mem.tail _ (List.Mem.head _))) hys (newsList (vs := []) kN (List.Mem.head _)) IntsAre.nil (show un + 3 + 64 < cLine by omega) ?_
      k_steps
      unfold Hold
      refine leaveK_ kF kN ?_
      intro kF9 kN9
      exact hret _ _ _ _ kF9 (kst_newsOf kN9 (fun q hq => List.Mem.tail _ (List.Mem.tail _ (List.Mem.tail _ (List.Mem.tail _ hq))))) ⟨rfl, rfl⟩
end Mine
end
section
namespace Mine
theorem bitLen_half {n : Nat} (h : 0 < n) : bitLen (n / 2) + 1 = bitLen n := by
  unfold bitLen
  by_cases h1 : n / 2 = 0
  · have : n = 1 := by omega
    subst this; decide
  · rw [if_neg h1, if_neg (by omega), Nat.log2_def n, if_pos (by omega)]
theorem bitLen_mono {a b : Nat} (h : a ≤ b) : bitLen a ≤ bitLen b := by
  unfold bitLen
  by_cases ha : a = 0
  · simp [ha]
  · rw [if_neg ha, if_neg (by omega)]
    have : a.log2 ≤ b.log2 := by
      rw [Nat.le_log2 (by omega)]
      exact Nat.le_trans (Nat.log2_self_le ha) h
    omega
theorem bs_facts (up : Nat → Bool) : ∀ (k lo hi : Nat), hi - lo ≤ k → (∀ i ∈ (bs up lo hi).2, lo ≤ i ∧ i < hi) ∧ (bs up lo hi).2.length ≤ bitLen (hi - lo)
  | 0, lo, hi, h => by rw [bs_done (by omega)]; simp
  | k + 1, lo, hi, h => by
    by_cases hlt : lo < hi
    · cases hu : up ((lo + hi) / 2) with
      | true =>
        rw [bs_up hlt hu]
        obtain ⟨i1, i2⟩ := bs_facts up k ((lo + hi) / 2 + 1) hi (by omega)
        refine ⟨fun i hi' => ?_, ?_⟩
        · rcases List.mem_cons.mp hi' with rfl | hi'
          · omega
          · have := i1 i hi'; omega
        · have e := bitLen_half (n := hi - lo) (by omega)
          have m := bitLen_mono (a := hi - ((lo + hi) / 2 + 1)) (b := (hi - lo) / 2) (by omega)
          simp only [List.length_cons]; omega
      | false =>
        rw [bs_down hlt hu]
        obtain ⟨i1, i2⟩ := bs_facts up k lo ((lo + hi) / 2) (by omega)
        refine ⟨fun i hi' => ?_, ?_⟩
        · rcases List.mem_cons.mp hi' with rfl | hi'
          · omega
          · have := i1 i hi'; omega
        · have e := bitLen_half (n := hi - lo) (by omega)
          have m := bitLen_mono (a := (lo + hi) / 2 - lo) (b := (hi - lo) / 2) (by omega)
          simp only [List.length_cons]; omega
    · rw [bs_done hlt]; simp
theorem bs_val (up : Nat → Bool) (θ : Nat) : ∀ (k lo hi : Nat), hi - lo ≤ k → (∀ i, lo ≤ i → i < hi → up i = decide (i < θ)) → lo ≤ θ → θ ≤ hi → (bs up lo hi).1 = θ
  | 0, lo, hi, h, _, h1, h2 => by rw [bs_done (by omega)]; dsimp only; omega
  | k + 1, lo, hi, h, hu', h1, h2 => by
    by_cases hlt : lo < hi
    · have hm := hu' ((lo + hi) / 2) (by omega) (by omega)
      cases hu : up ((lo + hi) / 2) with
      | true =>
        rw [bs_up hlt hu]
        have : (lo + hi) / 2 < θ := by rw [hu] at hm; simpa using hm.symm
        exact bs_val up θ k _ hi (by omega) (fun i a b => hu' i (by omega) b) (by omega) h2
      | false =>
        rw [bs_down hlt hu]
        have : ¬ (lo + hi) / 2 < θ := by rw [hu] at hm; simpa using hm.symm
        exact bs_val up θ k lo _ (by omega) (fun i a b => hu' i a (by omega)) h1 (by omega)
    · rw [bs_done hlt]; dsimp only; omega
theorem not_astray (up : Nat → Bool) (lo hi : Nat) : astray (bs up lo hi).2 lo hi = false := by
  obtain ⟨h1, h2⟩ := bs_facts up (hi - lo) lo hi (Nat.le_refl _)
  unfold astray
  rw [Bool.or_eq_false_iff]
  refine ⟨decide_eq_false (by omega), ?_⟩
  rw [List.any_eq_false]
  intro i hi'
  have := h1 i hi'
  simp; omega
theorem asked_len (up : Nat → Bool) (lo hi : Nat) : (bs up lo hi).2.length ≤ bitLen (hi - lo) := (bs_facts up _ lo hi (Nat.le_refl _)).2
theorem bitLen_le (n : Nat) : bitLen n ≤ n := by
  unfold bitLen
  split
  · omega
  · rename_i h
    have := Nat.log2_lt h (k := n)
    have : n.log2 < n := by rw [this]; exact Nat.lt_two_pow_self
    omega
theorem taken_rep (l : List Nat) (c i : Nat) : (List.replicate i c).isSublist l = decide (i < l.count c + 1) := by
  rw [Bool.eq_iff_iff, List.isSublist_iff_sublist, List.replicate_sublist_iff, decide_eq_true_eq]; omega
theorem bs_count (l : List Nat) (c : Nat) (h : l.length ≤ 8) : (bs (fun i => (List.replicate i c).isSublist l) 0 10).1 = l.count c + 1 :=
  bs_val _ _ 10 0 10 (by omega) (fun i _ _ => taken_rep l c i) (by omega) (by have := List.count_le_length (a := c) (l := l); omega)
end Mine
end
section
open PySem PySem.W PyProof.Rows PySem.Calls PySem.Spec
namespace Mine
abbrev rit (i n : Nat) : Obj := { cls := .type "range_iterator", dict := none, data := .fields #[rawInt (i : Int), rawInt ((n : Int) - i), rawInt 1], slots := #[] }
def FrPost (h₀ : Heap) (L I : Addr) (it : Obj) (J : (Str → Option Value) → List (Addr × Obj) → Prop) (s : Shared) (Q : Flow → Shared → Prop) (f : Flow) (s₃ : Shared) : Prop :=
  match f with
  | .ret v => Q (.ret v) s₃
  | .brk => Q .next s₃
  | _ => ∃ h' tk' m' led', s₃ = { s with heap := h', toks := tk' } ∧ Fr h₀ L h' m' ∧ News h₀ L h' ((I, it) :: led') ∧ (∀ q ∈ led', q.1 ≠ I) ∧ J m' led'
theorem range_small {n : Nat} (hn : n ≤ 100) : Builtin.Range.small 0 (n : Int) 1 = true ∧ Builtin.Range.rangeSize 0 (n : Int) 1 = (n : Int) := by
  have e : Builtin.Range.rangeSize 0 (n : Int) 1 = (n : Int) := by
    unfold Builtin.Range.rangeSize
    simp only [gt_iff_lt, Int.one_pos, if_true]
    split <;> omega
  refine ⟨?_, e⟩
  unfold Builtin.Range.small
  rw [e]
  have f : ∀ z : Int, 0 ≤ z → z ≤ 200 → Builtin.Range.rangeFitsLong z = true := by
    intro z h1 h2
    unfold Builtin.Range.rangeFitsLong
    simp; omega
  rw [f 0 (by omega) (by omega), f n (by omega) (by omega), f 1 (by omega) (by omega)]
  simp [f n (by omega) (by omega)]
section
variable {prog : Program} {w : World} {A : Around} {E : Value → Shared → Prop} {Q : Flow → Shared → Prop} {s : Shared} {env : Env} {h₀ : Heap} {L r : Addr} {m : Str → Option Value} {led : List (Addr × Obj)} {x : Str} {px : Pos} {body : List Stmt} {n : Nat} {t u v : Tok}
theorem for_range (J : Nat → (Str → Option Value) → List (Addr × Obj) → Prop) (hr : IsRange s.heap r 0 (n : Int) 1 t u v) (hn : n ≤ 100) (hh : A.handled = none) (F : Fr h₀ L s.heap m) (N : News h₀ L s.heap led) (hj : J 0 m led)
    (turn : ∀ I i m₁ led₁ h tk t, i < n → J i m₁ led₁ → Fr h₀ L h m₁ → News h₀ L h ((I, rit (i + 1) n) :: led₁) → (∀ q ∈ led₁, q.1 ≠ I) →
      wpAny (model prog w) A (storeName env x (.int (i : Int) t)) (fun _ s₂ => wpAny (model prog w) A (execs body env) (FrPost h₀ L I (rit (i + 1) n) (J (i + 1)) s Q) E s₂) E { s with heap := h, toks := tk })
    (done : ∀ m₁ led₁ h tk, J n m₁ led₁ → Fr h₀ L h m₁ → News h₀ L h led₁ → Q .next { s with heap := h, toks := tk })
    (hE : PassesOwn (model prog w) A env E) :
    wpAny (model prog w) A (pyIter (.ref r)) (fun it s₂ => codeAny (model prog w) A (.forLoop (.Name x px) it body [] env) (fun r s' => match r with | .ok f => Q f s' | .error e => cameBackBy (model prog w) A env E e s') s₂) E s := by
  obtain ⟨hs, hz⟩ := range_small hn
  refine wpAny_pyIter_range hr hs ?_
  rw [hz]
  refine codeAny_forLoop
    (fun k s' => ∃ h' tk m' led' i, s' = { s with heap := h', toks := tk } ∧ h'.get? s.heap.objs.size = some (rit i n) ∧ Fr h₀ L h' m' ∧ News h₀ L h' led' ∧ (∀ q ∈ led', q.1 ≠ s.heap.objs.size) ∧ J i m' led' ∧ i ≤ n ∧ k = n + 1 - i) ?_ (n + 1)
    ⟨_, _, m, led, 0, rfl, by simpa [rit] using Heap.get?_push_size _ rfl, F.push _, (fun p hp => ⟨Heap.get?_push_of_some _ (N p hp).1, (N p hp).2⟩), (fun q hq => Nat.ne_of_lt (Heap.lt_size (N q hq).1)), hj, Nat.zero_le _, rfl⟩
  rintro k s' ⟨h', tk, m', led', i, rfl, hit, F', N', hne, hJ, hi, rfl⟩
  have hIL : s.heap.objs.size ≠ L := Nat.ne_of_gt F.ns.lt
  have hI0 : h₀.get? s.heap.objs.size = none := next_is_new F
  have W := Walks.range (prog := prog) (w := w) hh s.heap.objs.size 0 1 n
  have keep : ∀ h₁ : Heap, (∀ b o, b ∉ [s.heap.objs.size] → h'.get? b = some o → h₁.get? b = some o) → Fr h₀ L h₁ m' ∧ News h₀ L h₁ led' := fun h₁ hk₁ =>
    ⟨⟨F'.ns.at' fun o e => hk₁ _ o (by simp [hIL.symm]) e, fun b o e => hk₁ b o (by intro hb; rw [List.mem_singleton.mp hb, hI0] at e; cases e) (F'.keep b o e), F'.above⟩, fun p hp => ⟨hk₁ _ _ (by simp [hne p hp]) (N' p hp).1, (N' p hp).2⟩⟩
  have hst : IsRangeIter h' s.heap.objs.size (0 + (i : Nat) * 1) ((n : Int) - (i : Nat)) 1 := by
    show h'.get? _ = _
    rw [hit]; simp
  by_cases hlt : i < n
  · refine W.item i _ _ _ hlt hst fun v h₁ tk₁ hP hst₁ hk₁ => ?_
    obtain ⟨t₁, rfl⟩ := hP
    obtain ⟨F₁, N₁⟩ := keep h₁ hk₁
    have e0 : (0 : Int) + (i : Int) * 1 = (i : Int) := by omega
    rw [e0]
    refine wpAny_assign_Name (wpAny_passesOwn hE (wpAny_mono (turn s.heap.objs.size i m' led' h₁ tk₁ t₁ hlt hJ F₁ ?_ hne) (fun _ s₂ h₂ => wpAny_passesOwn hE (wpAny_mono h₂ (fun f s₃ h₃ => ?_) fun _ _ e => e)) fun _ _ e => e))
    · intro p hp
      rcases List.mem_cons.mp hp with rfl | hp
      · refine ⟨?_, hIL, hI0⟩
        have := hst₁
        show h₁.get? _ = _
        rw [this]
        simp [rit]
      · exact N₁ p hp
    · cases f with
      | ret v => exact h₃
      | brk => exact h₃
      | next =>
        obtain ⟨h4, tk4, m4, led4, rfl, F4, N4, ne4, J4⟩ := h₃
        exact ⟨n + 1 - (i + 1), by omega, h4, tk4, m4, led4, i + 1, rfl, (N4 _ (.head _)).1, F4, fun p hp => N4 p (.tail _ hp), ne4, J4, hlt, rfl⟩
      | cont =>
        obtain ⟨h4, tk4, m4, led4, rfl, F4, N4, ne4, J4⟩ := h₃
        exact ⟨n + 1 - (i + 1), by omega, h4, tk4, m4, led4, i + 1, rfl, (N4 _ (.head _)).1, F4, fun p hp => N4 p (.tail _ hp), ne4, J4, hlt, rfl⟩
  · have hin : i = n := by omega
    subst hin
    refine W.done _ _ _ hst fun h₁ tk₁ hk₁ => wpAny_execs_nil ?_
    obtain ⟨F₁, N₁⟩ := keep h₁ hk₁
    exact done m' led' h₁ tk₁ hJ F₁ N₁
end
end Mine
end
section
open PySem PySem.W PyProof.Rows
namespace Mine
theorem len_list (x : Str) : x.cps.toList.length = x.length := by simp [Str.length]
theorem slice_take {x : Str} {j : Nat} (h : j ≤ x.length) : (Txt.slice x none (some (j : Int))).cps.toList = x.cps.toList.take j := by
  have e : Txt.slice x none (some (j : Int)) = StrLaws.sliceText x none (some (j : Int)) := rfl
  rw [e, StrLaws.sliceText_to ⟨by omega, by rw [len_list]; omega⟩]
  simp
theorem slice_drop {x : Str} {j : Nat} (h : j ≤ x.length) : (Txt.slice x (some (j : Int)) none).cps.toList = x.cps.toList.drop j := by
  have e : Txt.slice x (some (j : Int)) none = StrLaws.sliceText x (some (j : Int)) none := rfl
  rw [e, StrLaws.sliceText_from ⟨by omega, by rw [len_list]; omega⟩]
  simp only [Int.toNat_natCast]
  rw [List.take_of_length_le (by rw [List.length_drop]; omega)]
theorem mul_one_cast (c i : Nat) : (Txt.mul ⟨#[c]⟩ (i : Int)).cps.toList = List.replicate i c := by rw [mul_one_list]; simp
theorem mul_cnt {c cnt i : Nat} (h : i ≤ cnt) : (Txt.mul ⟨#[c]⟩ ((cnt : Int) - i)).cps.toList = List.replicate (cnt - i) c := by
  have e : ((cnt : Int) - i) = ((cnt - i : Nat) : Int) := by omega
  rw [e, mul_one_cast]
theorem app_list (x y : Str) : (x ++ y).cps.toList = x.cps.toList ++ y.cps.toList := by rw [Str.cps_append]; simp
theorem up_eq (text : Str) (c i : Nat) : takenB text (Txt.mul ⟨#[c]⟩ (i : Int)) = (List.replicate i c).isSublist text.cps.toList := by unfold takenB; rw [mul_one_cast]
theorem okw_of {text word : Str} {l : List Nat} (h : text.length ≤ 8) (e : word.cps.toList = l) (hl : l.length ≤ 17) (hc : ∀ c ∈ l, c ≠ 46) : Okw text word := by
  refine ⟨h, ?_, by rw [e]; exact hc⟩
  rw [← len_list, e]; exact hl
theorem okw_mul {text : Str} (h : text.length ≤ 8) {c i : Nat} (hc : c ≠ 46) (hi : i ≤ 17) : Okw text (Txt.mul ⟨#[c]⟩ (i : Int)) :=
  okw_of h (mul_one_cast c i) (by rw [List.length_replicate]; exact hi) (fun x hx => by rw [List.eq_of_mem_replicate hx]; exact hc)
def upA (textL knownL : List Nat) (c cnt k i : Nat) : Bool := (knownL.take i ++ List.replicate (cnt - k) c).isSublist textL
def upB (textL knownL : List Nat) (c cnt k i : Nat) : Bool := !(List.replicate (cnt - k) c ++ knownL.drop i).isSublist textL
theorem wordA {known : Str} {c cnt k j : Nat} (hj : j ≤ known.length) (hk : k ≤ cnt) : (Txt.slice known none (some (j : Int)) ++ Txt.mul ⟨#[c]⟩ ((cnt : Int) - k)).cps.toList = known.cps.toList.take j ++ List.replicate (cnt - k) c := by
  rw [app_list, slice_take hj, mul_cnt hk]
theorem wordB {known : Str} {c cnt k j : Nat} (hj : j ≤ known.length) (hk : k ≤ cnt) : (Txt.mul ⟨#[c]⟩ ((cnt : Int) - k) ++ Txt.slice known (some (j : Int)) none).cps.toList = List.replicate (cnt - k) c ++ known.cps.toList.drop j := by
  rw [app_list, slice_drop hj, mul_cnt hk]
theorem okwA {text known : Str} {c cnt k j : Nat} (ht : text.length ≤ 8) (hkl : known.length ≤ 8) (hkc : ∀ c ∈ known.cps.toList, c ≠ 46) (hc : c ≠ 46) (hcnt : cnt ≤ 8) (hj : j ≤ known.length) (hk : k ≤ cnt) : Okw text (Txt.slice known none (some (j : Int)) ++ Txt.mul ⟨#[c]⟩ ((cnt : Int) - k)) := by
  refine okw_of ht (wordA hj hk) ?_ ?_
  · rw [List.length_append, List.length_take, List.length_replicate, len_list]; omega
  · intro x hx
    rcases List.mem_append.mp hx with hx | hx
    · exact hkc x (List.mem_of_mem_take hx)
    · rw [List.eq_of_mem_replicate hx]; exact hc
theorem okwB {text known : Str} {c cnt k j : Nat} (ht : text.length ≤ 8) (hkl : known.length ≤ 8) (hkc : ∀ c ∈ known.cps.toList, c ≠ 46) (hc : c ≠ 46) (hcnt : cnt ≤ 8) (hj : j ≤ known.length) (hk : k ≤ cnt) : Okw text (Txt.mul ⟨#[c]⟩ ((cnt : Int) - k) ++ Txt.slice known (some (j : Int)) none) := by
  refine okw_of ht (wordB hj hk) ?_ ?_
  · rw [List.length_append, List.length_drop, List.length_replicate, len_list]; omega
  · intro x hx
    rcases List.mem_append.mp hx with hx | hx
    · rw [List.eq_of_mem_replicate hx]; exact hc
    · exact hkc x (List.mem_of_mem_drop hx)
theorem upA_eq {text known : Str} {c cnt k j : Nat} (hj : j ≤ known.length) (hk : k ≤ cnt) : takenB text (Txt.slice known none (some (j : Int)) ++ Txt.mul ⟨#[c]⟩ ((cnt : Int) - k)) = upA text.cps.toList known.cps.toList c cnt k j := by
  unfold takenB upA; rw [wordA hj hk]
theorem upB_eq {text known : Str} {c cnt k j : Nat} (hj : j ≤ known.length) (hk : k ≤ cnt) : takenB text (Txt.mul ⟨#[c]⟩ ((cnt : Int) - k) ++ Txt.slice known (some (j : Int)) none) = !upB text.cps.toList known.cps.toList c cnt k j := by
  unfold takenB upB; rw [wordB hj hk, Bool.not_not]
def IsCode (o : Obj) : Prop := ∃ (vs : Array Value) (t : Tok) (q : Str), o.data = .fields vs ∧ vs[1]? = some (.str q t)
def Ext (tail ex : List (Addr × Obj)) : Prop := (∀ q ∈ tail, q ∈ ex) ∧ ∀ q ∈ ex, q ∈ tail ∨ IsCode q.2
theorem Ext.refl (tail : List (Addr × Obj)) : Ext tail tail := ⟨fun _ h => h, fun _ h => .inl h⟩
theorem Ext.cons {tail ex : List (Addr × Obj)} {c : Addr} {o : Obj} (h : Ext tail ex) (hc : IsCode o) : Ext tail ((c, o) :: ex) :=
  ⟨fun q hq => .tail _ (h.1 q hq), fun q hq => by rcases List.mem_cons.mp hq with rfl | hq; exact .inr hc; exact h.2 q hq⟩
theorem Ext.trans {a b c : List (Addr × Obj)} (h : Ext a b) (h' : Ext b c) : Ext a c :=
  ⟨fun q hq => h'.1 q (h.1 q hq), fun q hq => (h'.2 q hq).elim (fun x => h.2 q x) .inr⟩
theorem code_ne {h₀ h : Heap} {L a b : Addr} {o o2 : Obj} {led : List (Addr × Obj)} (N : News h₀ L h led) (h2 : (b, o2) ∈ led) (hc : IsCode o2) (h1 : (a, o) ∈ led) (hno : ¬ IsCode o) : b ≠ a := by
  intro e
  subst e
  have e1 := (N _ h1).1
  have e2 := (N _ h2).1
  rw [e1] at e2
  have e3 : o = o2 := Option.some.inj e2
  exact hno (e3 ▸ hc)
theorem notCode_list {its : Array Value} {n : Nat} : ¬ IsCode (listOf its n) := by rintro ⟨vs, t, q, h, _⟩; cases h
theorem notCode_rit {i n : Nat} : ¬ IsCode (rit i n) := by
  rintro ⟨vs, t, q, h1, h2⟩
  have e : #[rawInt (i : Int), rawInt ((n : Int) - i), rawInt 1] = vs := by injection h1
  subst e
  simp [rawInt] at h2
theorem notCode_cell {o : Obj} {v : Option Value} (hd : o.data = .cell v) : ¬ IsCode o := by rintro ⟨vs, t, q, h, _⟩; rw [hd] at h; cases h
theorem notCode_tab {line col : Int} {qual : Str} {ps : Array Value} {led : List (Addr × Obj)} (h : TabSt line col qual ps led) : ¬ IsCode (tabObj ps) := by
  rintro ⟨vs, t, q, h1, h2⟩
  have e : ps = vs := by injection h1
  subst e
  rcases h with h | ⟨c0, oc0, vs0, t0, h, _⟩
  · rw [h] at h2; simp at h2
  · rw [h] at h2; simp [rawInt] at h2
theorem Ext.ne {h₀ h : Heap} {L a : Addr} {o : Obj} {led tail ex : List (Addr × Obj)} (N : News h₀ L h led) (hx : Ext tail ex) (hsub : ∀ q ∈ ex, q ∈ led) (h1 : (a, o) ∈ led) (hno : ¬ IsCode o) (ht : ∀ q ∈ tail, q.1 ≠ a) : ∀ q ∈ ex, q.1 ≠ a := by
  intro q hq
  rcases hx.2 q hq with h | h
  · exact ht q h
  · exact code_ne N (b := q.1) (o2 := q.2) (hsub q hq) h h1 hno
theorem sizeLine_100 {n : Nat} (h : n ≤ 1000) : n ≤ sizeLine := Nat.le_trans h (by decide)
theorem code_ne_tab {h₀ h : Heap} {L c P : Addr} {oc : Obj} {vs : Array Value} {q : Str} {t : Tok} {a b : Int} {v : Value} {led : List (Addr × Obj)} (N : News h₀ L h led) (h1 : (c, oc) ∈ led) (h2 : (P, tabObj #[rawInt a, rawInt b, v]) ∈ led) (hd : oc.data = .fields vs) (hv : vs[1]? = some (.str q t)) : c ≠ P := by
  refine news_ne N h1 h2 ?_
  rw [hd]
  intro e
  have e2 : vs = #[rawInt a, rawInt b, v] := by injection e
  rw [e2] at hv
  simp [rawInt] at hv
theorem allLt_succ {d : Nat} : ∀ {l : List (Addr × Obj)}, AllLt d l → AllLt (d + 1) l
  | [], _ => trivial
  | _ :: _, h => ⟨Nat.lt_succ_of_lt h.1, allLt_succ h.2⟩
theorem map3 {m : Str → Option Value} {a b c : Str} {va vb vc : Value} (ha : m a = some va) (hb : m b = some vb) (hc : m c = some vc) : m = fun y => if y = a then some va else if y = b then some vb else if y = c then some vc else m y := by
  funext y
  by_cases h1 : y = a
  · simp [h1, ha]
  · by_cases h2 : y = b
    · rw [if_neg h1, if_pos h2, h2, hb]
    · by_cases h3 : y = c
      · rw [if_neg h1, if_neg h2, if_pos h3, h3, hc]
      · rw [if_neg h1, if_neg h2, if_neg h3]
theorem fr3 {h₀ h : Heap} {L : Addr} {m : Str → Option Value} {a b c : Str} {va vb vc : Value} (F : Fr h₀ L h m) (ha : m a = some va) (hb : m b = some vb) (hc : m c = some vc) : Fr h₀ L h (fun y => if y = a then some va else if y = b then some vb else if y = c then some vc else m y) := by
  rw [← map3 ha hb hc]; exact F
theorem natInts_rangeKs (n : Nat) : rangeKs 0 n = natInts (List.range n) := by simp [rangeKs, natInts]
end Mine
end
section
open PySem PySem.W PyProof.Rows PySem.Calls PySem.Spec Builtin Builtin.Str
namespace Mine
theorem gives_find4 (x y : Str) (i : Int) (t u v v' : Tok) : Gives («str.find» ⟨[.str x t, .str y u, .int i v, .int (x.length : Int) v'], []⟩) (.int (Txt.find3 x y i)) := by
  have e : min (max (0 : Int) (if (x.length : Int) < 0 then (x.length : Int) + x.length else (x.length : Int))).toNat x.length = x.length := by
    rw [if_neg (by omega)]; omega
  show Gives (match occurrences x y (fromIndex x.length i) (min (max (0 : Int) (if (x.length : Int) < 0 then (x.length : Int) + x.length else (x.length : Int))).toNat x.length) 1 with | k :: _ => retInt k | [] => (do rule "str.find.not-found"; retInt (-1))) _
  rw [e]
  unfold Txt.find3
  cases occurrences x y (fromIndex x.length i) x.length 1 with
  | nil => exact .rule (.of_eq rfl)
  | cons k _ => exact .of_eq rfl
theorem find4 {prog : Program} {w : World} {A : Around} {E : Value → Shared → Prop} {s : Shared} {x y : Str} {t u v v' : Tok} {i : Int} {Q : Value → Shared → Prop} (hq : Q (.int (Txt.find3 x y i) s.toks) { s with toks := s.toks + 1 }) :
    wpAny (model prog w) A (call (.builtin "str.find") [.str x t, .str y u, .int i v, .int (x.length : Int) v']) Q E s :=
  call_gives F.slot_str_find (typeIs_str _ _ _) F.entry_str_find (F.args_str_find_4 _ _ _ _) (gives_find4 x y i t u v v') hq
section
variable {prog : Program} {w : World} {A : Around} {E : Value → Shared → Prop} {Q : Flow → Shared → Prop} {s : Shared} {env : Env} {h₀ : Heap} {L l : Addr} {m : Str → Option Value} {led : List (Addr × Obj)} {x : Str} {px : Pos} {body : List Stmt} {vs : List Value}
theorem for_const (J : Nat → (Str → Option Value) → Prop) (hl : s.heap.IsList l vs.toArray) (hkeep : ∀ h' : Heap, (∀ q ∈ led, h'.get? q.1 = some q.2) → h'.IsList l vs.toArray) (hh : A.handled = none) (F : Fr h₀ L s.heap m) (N : News h₀ L s.heap led) (hj : J 0 m)
    (turn : ∀ I oI i v m₁ h tk, vs[i]? = some v → J i m₁ → Fr h₀ L h m₁ → News h₀ L h ((I, oI) :: led) → (∀ q ∈ led, q.1 ≠ I) →
      wpAny (model prog w) A (storeName env x v) (fun _ s₂ => wpAny (model prog w) A (execs body env) (FrPost h₀ L I oI (fun m' led' => led' = led ∧ J (i + 1) m') s Q) E s₂) E { s with heap := h, toks := tk })
    (done : ∀ m₁ h tk, J vs.length m₁ → Fr h₀ L h m₁ → News h₀ L h led → Q .next { s with heap := h, toks := tk })
    (hE : PassesOwn (model prog w) A env E) :
    wpAny (model prog w) A (pyIter (.ref l)) (fun it s₂ => codeAny (model prog w) A (.forLoop (.Name x px) it body [] env) (fun r s' => match r with | .ok f => Q f s' | .error e => cameBackBy (model prog w) A env E e s') s₂) E s := by
  refine wpAny_pyIter_list hl ?_
  have hne : l ≠ s.heap.objs.size := by obtain ⟨o, ho, _⟩ := hl; exact Nat.ne_of_lt (Heap.lt_size ho)
  refine codeAny_forLoop
    (fun k s' => ∃ h' tk m' i, s' = { s with heap := h', toks := tk } ∧ h'.IsListIter s.heap.objs.size l i ∧ Fr h₀ L h' m' ∧ News h₀ L h' led ∧ J i m' ∧ i ≤ vs.length ∧ k = vs.length + 1 - i) ?_ (vs.length + 1)
    ⟨_, _, m, 0, rfl, ⟨_, Heap.get?_push_size _ rfl, rfl, rfl⟩, F.push _, (fun p hp => ⟨Heap.get?_push_of_some _ (N p hp).1, (N p hp).2⟩), hj, Nat.zero_le _, rfl⟩
  rintro k s' ⟨h', tk, m', i, rfl, hst, F', N', hJ, hi, rfl⟩
  have hIL : s.heap.objs.size ≠ L := Nat.ne_of_gt F.ns.lt
  have hI0 : h₀.get? s.heap.objs.size = none := next_is_new F
  have hIn : ∀ q ∈ led, q.1 ≠ s.heap.objs.size := fun q hq => Nat.ne_of_lt (Heap.lt_size (N q hq).1)
  have W := Walks.list (prog := prog) (w := w) hh s.heap.objs.size l hne vs.toArray
  have hsz : vs.toArray.size = vs.length := by simp
  have keep : ∀ h₁ : Heap, (∀ b o, b ∉ [s.heap.objs.size] → h'.get? b = some o → h₁.get? b = some o) → Fr h₀ L h₁ m' ∧ News h₀ L h₁ led := fun h₁ hk₁ =>
    ⟨⟨F'.ns.at' fun o e => hk₁ _ o (by simp [hIL.symm]) e, fun b o e => hk₁ b o (by intro hb; rw [List.mem_singleton.mp hb, hI0] at e; cases e) (F'.keep b o e), F'.above⟩, fun p hp => ⟨hk₁ _ _ (by simp [hIn p hp]) (N' p hp).1, (N' p hp).2⟩⟩
  have hl' : h'.IsList l vs.toArray := hkeep _ fun q hq => (N' q hq).1
  by_cases hlt : i < vs.length
  · refine W.item i _ _ _ (by rw [hsz]; exact hlt) ⟨hst, hl'⟩ fun v h₁ tk₁ hP hst₁ hk₁ => ?_
    obtain ⟨F₁, N₁⟩ := keep h₁ hk₁
    obtain ⟨oI, ho, hs1, hs2⟩ := hst₁.1
    refine wpAny_assign_Name (wpAny_passesOwn hE (wpAny_mono (turn s.heap.objs.size oI i v m' h₁ tk₁ (by simpa using hP) hJ F₁ ?_ hIn) (fun _ s₂ h₂ => wpAny_passesOwn hE (wpAny_mono h₂ (fun f s₃ h₃ => ?_) fun _ _ e => e)) fun _ _ e => e))
    · intro p hp
      rcases List.mem_cons.mp hp with rfl | hp
      · exact ⟨ho, hIL, hI0⟩
      · exact N₁ p hp
    · cases f with
      | ret v => exact h₃
      | brk => exact h₃
      | next =>
        obtain ⟨h4, tk4, m4, led4, rfl, F4, N4, ne4, rfl, J4⟩ := h₃
        exact ⟨vs.length + 1 - (i + 1), by omega, h4, tk4, m4, i + 1, rfl, ⟨oI, (N4 _ (.head _)).1, hs1, hs2⟩, F4, fun p hp => N4 p (.tail _ hp), J4, hlt, rfl⟩
      | cont =>
        obtain ⟨h4, tk4, m4, led4, rfl, F4, N4, ne4, rfl, J4⟩ := h₃
        exact ⟨vs.length + 1 - (i + 1), by omega, h4, tk4, m4, i + 1, rfl, ⟨oI, (N4 _ (.head _)).1, hs1, hs2⟩, F4, fun p hp => N4 p (.tail _ hp), J4, hlt, rfl⟩
  · have hin : i = vs.length := by omega
    subst hin
    refine W.done _ _ _ (by rw [hsz]; exact ⟨hst, hl'⟩) fun h₁ tk₁ hk₁ => wpAny_execs_nil ?_
    obtain ⟨F₁, N₁⟩ := keep h₁ hk₁
    exact done m' h₁ tk₁ hJ F₁ N₁
end
end Mine
end
section
open PySem PySem.W PyProof.Rows Builtin Builtin.Str
namespace Mine
theorem fromIndex_nat (n p : Nat) : fromIndex n (p : Int) = p := by
  unfold fromIndex
  rw [if_neg (by omega)]; omega
theorem find3_empty {x : Str} {p : Nat} (h : p ≤ x.length) : Txt.find3 x (Str.ofString "") (p : Int) = (p : Int) := by
  unfold Txt.find3
  rw [fromIndex_nat]
  have h0 : (Str.ofString "").length = 0 := by decide +kernel
  have hc : (Str.ofString "").cps.toList = [] := by decide +kernel
  have hat : StrLaws.At x (Str.ofString "") x.length p := ⟨by rw [h0]; omega, by rw [StrLaws.subAt_eq, h0, hc]; simp⟩
  rcases StrLaws.occ_head_from x (Str.ofString "") p 1 (Nat.le_refl 1) with ⟨_, hn⟩ | ⟨k, r, h1, hlo, _, hn⟩
  · exact absurd hat (hn p (Nat.le_refl _))
  · rw [h1]
    have : k = p := by
      refine Nat.le_antisymm (Nat.not_lt.mp fun hlt => hn p (Nat.le_refl _) hlt hat) hlo
    rw [this]
theorem sub_none {r l : List Nat} {c : Nat} (h : c ∉ l) : (c :: r).isSublist l = false := by
  rw [Bool.eq_false_iff]
  intro hs
  rw [List.isSublist_iff_sublist] at hs
  exact h (hs.subset List.mem_cons_self)
theorem sub_first {r a b : List Nat} {c : Nat} (h : c ∉ a) : (c :: r).isSublist (a ++ c :: b) = r.isSublist b := by
  induction a with
  | nil => simp [List.isSublist]
  | cons x a ih =>
    have hx : ¬ c = x := fun e => h (by simp [e])
    have ih' := ih (fun hm => h (List.mem_cons_of_mem _ hm))
    simp only [List.cons_append, List.isSublist]
    simp [hx, ih']
theorem find_none {x : Str} {c p : Nat} {r : List Nat} (hp : p ≤ x.length) (h : ∀ v, fromIndex x.length (p : Int) ≤ v → v < x.length → x.cps.getD v 0 ≠ c) : (c :: r).isSublist (x.cps.toList.drop p) = false := by
  refine sub_none fun hm => ?_
  obtain ⟨i, hi⟩ := List.mem_iff_getElem?.mp hm
  rw [List.getElem?_drop] at hi
  have hlt : p + i < x.length := by
    have := (List.getElem?_eq_some_iff.mp hi).1
    rw [Array.length_toList] at this
    exact this
  exact h (p + i) (by rw [fromIndex_nat]; omega) hlt (StrLaws.getD_of_getElem? hi)
theorem find_some {x : Str} {c p k : Nat} {r : List Nat} (hpk : fromIndex x.length (p : Int) ≤ k) (hk : k < x.length) (hc : x.cps.getD k 0 = c) (h : ∀ v, fromIndex x.length (p : Int) ≤ v → v < k → x.cps.getD v 0 ≠ c) :
    (c :: r).isSublist (x.cps.toList.drop p) = r.isSublist (x.cps.toList.drop (k + 1)) := by
  rw [fromIndex_nat] at hpk
  have hk2 := StrLaws.getElem?_of_getD hk hc
  have hlen : x.cps.toList.length = x.length := by simp [Str.length]
  have e : x.cps.toList.drop p = (x.cps.toList.drop p).take (k - p) ++ c :: x.cps.toList.drop (k + 1) := by
    have h1 : (x.cps.toList.drop p).drop (k - p) = c :: x.cps.toList.drop (k + 1) := by
      rw [List.drop_drop, show p + (k - p) = k by omega]
      have hk3 : k < x.cps.toList.length := by rw [hlen]; exact hk
      rw [List.drop_eq_getElem_cons hk3]
      rw [List.getElem?_eq_getElem hk3] at hk2
      rw [Option.some.inj hk2]
    rw [← h1, List.take_append_drop]
  rw [e]
  refine sub_first fun hm => ?_
  obtain ⟨i, hi⟩ := List.mem_iff_getElem?.mp hm
  rw [List.getElem?_take] at hi
  split at hi
  · rename_i hik
    rw [List.getElem?_drop] at hi
    exact h (p + i) (by rw [fromIndex_nat]; omega) (by omega) (StrLaws.getD_of_getElem? hi)
  · cases hi
end Mine
end
section
namespace Mine
theorem off_E3 : True := by
  w_top off
  trivial
end Mine
open PySem PySem.W PyProof.Rows Builtin Builtin.Str
namespace Mine
local macro_rules | `(tactic| k_room) => `(tactic| ktr_room)
local macro_rules | `(tactic| walk_at "LeaveK") => `(tactic| refine Hold.mk ?_)
local macro_rules | `(tactic| walk_at "truthy str") => `(tactic| refine Hold.mk ?_)
local macro_rules | `(tactic| walk_at "call builtin:str.find") => `(tactic| refine Hold.mk ?_)
local macro_rules | `(tactic| walk_at "exec For Name Name cons nil") => `(tactic| refine Hold.mk ?_)
local macro_rules | `(tactic| walk_at "call builtin:len") => `(tactic| (k_here; (with_reducible show wpAny _ _ (call (Value.builtin "len") [Value.ref _]) _ _ _); refine Hold.mk ?_))
local macro_rules | `(tactic| walk_at "pyIter ref") => `(tactic| refine Hold.mk ?_)
def JE (ps : List Str) (got : Str) (t2 : Tok) (i : Nat) (m : Str → Option Value) : Prop :=
  ∃ (p : Nat) (tp te : Tok), m (Str.ofString "startpos") = some (.int (p : Int) tp) ∧ m (Str.ofString "endpos") = some (.int (got.length : Int) te) ∧ m (Str.ofString "got") = some (.str got t2) ∧ p ≤ got.length ∧
    (ps.flatMap (fun q => q.cps.toList)).isSublist got.cps.toList = ((ps.drop i).flatMap (fun q => q.cps.toList)).isSublist (got.cps.toList.drop p)
set_option maxRecDepth 100000 in
set_option maxHeartbeats 2000000 in
theorem ell_claim (w : World) (p : Program) (loose : List Str) (mean : ExcName → Option Value) (mg mb : Str → Option Value) (led : List (Addr × Obj)) (want got : Str) (t1 t2 : Tok) (ps : List Str)
   (hocc : (occurrences want (Str.ofString "...") 0 want.length 1).isEmpty = false) (hsp : Txt.split want (Str.ofString "...") = ps) (hwl : want.length ≤ 100) (hgl : got.length ≤ 8) (hp2 : 2 ≤ ps.length) (hp3 : ps.length ≤ 1000) (hp0 : ps[0]? = some (Str.ofString "")) (hpl : ps[ps.length - 1]? = some (Str.ofString "")) (hpp : ∀ q ∈ ps, q = Str.ofString "" ∨ ∃ c, q = ⟨#[c]⟩) :
   Claim w p loose mean mg mb 1 10 39 led [.str want t1, .str got t2] [] (fun v led' => v = .bool ((ps.flatMap (fun q => q.cps.toList)).isSublist got.cps.toList) ∧ led' = led) := by
  unfold Claim
  k_fill
  intro dp un gd cn cs a ccd cl outer A₀ base h₀ L m s Q E B F X N0 T hk hdp hun hret
  refine wpAny_call ?_
  k_dflt (refine' code_def ?k1 ?k2 ?k3 ?k4 ?k5 ?kA ?kF ?kK ?k6 ?k7 ?k8 ?k9 ?kB ?_ ?c2 ?c3 ?c4 ?c5; (case kA => exact rfl); (case kF => exact rfl); (case kK => assumption); (case k1 => k_asm); (case k2 => k_asm); (case k3 => k_asm); (case k4 => k_asm); (case k5 => k_asm); (case k6 => k_is); (case k7 => k_is); (case k8 => exact (show dp < recursionLimit by omega)); (case k9 => exact BindsTo.of_eq rfl); (case c5 => decide); (case kB => exact locs rfl); (case c2 => exact rfl); (case c3 => exact rfl); (case c4 => exact rfl); k_whole; intro g' L' h' FG' F' N' B' X' T'; (try dsimp only); (try k_lift B'); (try k_fold))
  k_steps
  unfold Hold
  rename List.map _ _ = Txt.split _ _ => hlk
  rename StrsAre _ _ => hst
  rw [hsp] at hlk
  rename_i lw hx1 kx hb1 hL1 hx2 kF kN
  have hll : lw.length = ps.length := by rw [← hlk, List.length_map]
  refine kst_len (us := strValues lw) (k := ps.length) kN (List.Mem.head _) (by rw [hst.length, List.length_map]; exact hll) (by omega) ?_
  k_steps
  unfold Hold
  rename List.map _ lw = ps => hlk
  rename (List.map _ lw)[_]? = some _ => hy0
  rw [hlk] at hy0
  have hy1 := Option.some.inj (hp0.symm.trans hy0)
  rw [← hy1]
  refine P.truthy_str (by decide +kernel) ?_
  rw [show (((Str.ofString "").length : Int) != 0) = false from by decide +kernel]
  k_steps
  unfold Hold
  have hlast : (List.map (fun x => x.fst) lw).getD (-1 + ((List.map (fun x => x.fst) lw).length : Int)).toNat Str.empty = Str.ofString "" := by
    rw [hlk]
    have e : (-1 + (ps.length : Int)).toNat = ps.length - 1 := by omega
    rw [e, List.getD_eq_getElem?_getD, hpl]; rfl
  rw [hlast]
  refine P.truthy_str (by decide +kernel) ?_
  rw [show (((Str.ofString "").length : Int) != 0) = false from by decide +kernel]
  k_steps
  unfold Hold
  refine wpAny_For ?_ (by intro _; rfl)
  k_steps
  unfold Hold
  rename Fr g' L' _ _ => kF
  rename News g' L' _ _ => kN
  refine for_const (JE ps got t2) ⟨_, (kN _ (List.Mem.tail _ (List.Mem.head _))).1, rfl, 0, rfl⟩ (fun h' hq => ⟨_, hq _ (List.Mem.tail _ (List.Mem.head _)), rfl, 0, rfl⟩) rfl kF kN ?j0 ?turn ?done ?pe
  case pe => passes_own
  case j0 => exact ⟨0, _, _, rfl, rfl, rfl, Nat.zero_le _, by simp⟩
  case done =>
    clear kF kN
    rintro m₁ h tk ⟨p, tp, te, m1, m2, m3, hp, heq⟩ kF kN
    have hlv : (strValues lw).length = ps.length := by rw [hst.length, List.length_map]; exact hll
    rw [hlv, List.drop_of_length_le (Nat.le_refl _)] at heq
    dsimp only
    k_steps
    unfold Hold
    show LeaveK _ _ _ _ _ _ _
    refine leaveK_ kF kN ?_
    intro kF9 kN9
    dsimp only
    refine hret _ _ _ _ kF9 (kst_newsOf kN9 (fun q hq => List.Mem.tail _ (List.Mem.tail _ hq))) ⟨?_, rfl⟩
    rw [heq]; simp [List.isSublist]
  case turn =>
    clear kF kN
    rintro I oI i v m₁ h tk hv ⟨p, tp, te, m1, m2, m3, hp, heq⟩ kF kN hIn
    obtain ⟨q, u, hq, rfl⟩ : ∃ q u, ps[i]? = some q ∧ v = .str q u := by
      unfold strValues at hv
      rw [List.getElem?_map] at hv
      cases hx : lw[i]? with
      | none => rw [hx] at hv; cases hv
      | some a => rw [hx] at hv; exact ⟨a.1, a.2, by rw [← hlk, List.getElem?_map, hx]; rfl, (Option.some.inj hv).symm⟩
    have hdr : ps.drop i = q :: ps.drop (i + 1) := by
      have hi' : i < ps.length := (List.getElem?_eq_some_iff.mp hq).1
      rw [List.drop_eq_getElem_cons hi']
      rw [List.getElem?_eq_getElem hi'] at hq
      rw [Option.some.inj hq]
    rw [hdr, List.flatMap_cons] at heq
    replace kF := fr3 kF m1 m2 m3
    k_steps
    unfold Hold
    refine find4 ?_
    rcases hpp q (List.mem_of_getElem? hq) with rfl | ⟨c, rfl⟩
    · rw [find3_empty hp]
      have he : (Str.ofString "").cps.toList = [] := by decide +kernel
      rw [he, List.nil_append] at heq
      k_steps
      rename Fr g' L' _ _ => kF2
      rename News g' L' _ _ => kN2
      have e0 : (p : Int) + ((0 : Nat) : Int) = (p : Int) := by omega
      rw [e0] at kF2
      exact ⟨_, _, _, _, rfl, kF2, kN2, hIn, rfl, ⟨p, _, te, rfl, rfl, rfl, hp, heq⟩⟩
    · rcases StrLaws.find3_spec got c (p : Int) with ⟨h1, h2⟩ | ⟨k, h1, h2, h3, h4, h5⟩
      · rw [h1]
        k_steps
        rename Fr g' L' _ _ => kF2
        rename News g' L' _ _ => kN2
        dsimp only [FrPost]
        refine leaveK_ kF2 kN2 ?_
        intro kF9 kN9
        dsimp only
        refine hret _ _ _ _ kF9 (kst_newsOf kN9 (fun q hq => List.Mem.tail _ (List.Mem.tail _ (List.Mem.tail _ hq)))) ⟨?_, rfl⟩
        rw [heq]
        show Value.bool false = Value.bool ((c :: _).isSublist _)
        rw [find_none hp h2]
      · rw [h1]
        k_steps
        rename Fr g' L' _ _ => kF2
        rename News g' L' _ _ => kN2
        have e0 : (k : Int) + ((1 : Nat) : Int) = ((k + 1 : Nat) : Int) := rfl
        rw [e0] at kF2
        refine ⟨_, _, _, _, rfl, kF2, kN2, hIn, rfl, ⟨k + 1, _, te, rfl, rfl, rfl, by omega, ?_⟩⟩
        rw [heq]
        exact find_some h2 h3 h4 h5
end Mine
end
section
open PySem PySem.W PyProof.Rows Builtin Builtin.Str
namespace Mine
def dots : Str := Str.ofString "..."
theorem dots_list : dots.cps.toList = [46, 46, 46] := by decide +kernel
theorem dots_len : dots.length = 3 := by decide +kernel
theorem nil_list : (Str.ofString "").cps.toList = [] := by decide +kernel
noncomputable def jl : List (List Nat) → List Nat
  | [] => []
  | [p] => p
  | p :: q :: r => p ++ 46 :: 46 :: 46 :: jl (q :: r)
theorem join_list : ∀ ps : List Str, (Str.join dots ps).cps.toList = jl (ps.map (fun q => q.cps.toList))
  | [] => rfl
  | [_] => rfl
  | p :: q :: r => by
    have ih := join_list (q :: r)
    show (p ++ dots ++ Str.join dots (q :: r)).cps.toList = _
    rw [Str.cps_append, Str.cps_append, Array.toList_append, Array.toList_append, ih, dots_list]
    simp [jl]
theorem jl_snoc (e : List Nat) : ∀ (ps : List (List Nat)), ps ≠ [] → jl (ps ++ [e]) = jl ps ++ 46 :: 46 :: 46 :: e
  | [], h => absurd rfl h
  | [_], _ => rfl
  | p :: q :: r, _ => by
    have ih := jl_snoc e (q :: r) (by simp)
    show p ++ 46 :: 46 :: 46 :: jl (q :: r ++ [e]) = (p ++ 46 :: 46 :: 46 :: jl (q :: r)) ++ 46 :: 46 :: 46 :: e
    rw [ih]; simp
theorem at_get {x : Str} {k : Nat} (h : StrLaws.At x dots x.length k) : x.cps.toList[k]? = some 46 := by
  have h2 := h.2
  rw [StrLaws.subAt_eq, dots_list, dots_len] at h2
  have h3 := eq_of_beq h2
  have h4 : ((x.cps.toList.drop k).take 3)[0]? = some 46 := by rw [h3]; rfl
  rw [List.getElem?_take_of_lt (by omega), List.getElem?_drop] at h4
  exact h4
theorem at_of {x : Str} {k : Nat} {r : List Nat} (h : x.cps.toList.drop k = 46 :: 46 :: 46 :: r) : StrLaws.At x dots x.length k := by
  refine ⟨?_, ?_⟩
  · have hl := congrArg List.length h
    rw [List.length_drop] at hl
    simp only [List.length_cons] at hl
    have : x.length = x.cps.toList.length := by simp [Str.length]
    rw [dots_len]; omega
  · rw [StrLaws.subAt_eq, dots_list, dots_len, h]; rfl
theorem parts_join (x : Str) : ∀ (ps : List Str) (cuts : List Nat) (a f : Nat), ps ≠ [] → (∀ q ∈ ps, 46 ∉ q.cps.toList) → x.cps.toList.drop a = jl (ps.map (fun q => q.cps.toList)) → StrLaws.ChainG x dots x.length a cuts f → (∀ k, f ≤ k → ¬ StrLaws.At x dots x.length k) → StrLaws.partsFrom x 3 a cuts = ps
  | [], _, _, _, h, _, _, _, _ => absurd rfl h
  | [p], [], a, f, _, hq, hx, hG, hn => by
    show [strSub x a x.length] = [p]
    congr 1
    apply Str.ext'
    apply Array.toList_inj.mp
    have hx' : x.cps.toList.drop a = p.cps.toList := hx
    rw [StrLaws.strSub_toList, ← hx']
    exact List.take_of_length_le (by simp [Str.length])
  | [p], c :: cs, a, f, _, hq, hx, hG, hn => by
    exfalso
    have hx' : x.cps.toList.drop a = p.cps.toList := hx
    have h1 := at_get hG.2.1
    have h2 : p.cps.toList[c - a]? = some 46 := by
      rw [← hx', List.getElem?_drop, show a + (c - a) = c from by have := hG.1; omega]; exact h1
    exact hq p (List.Mem.head _) (List.mem_of_getElem? h2)
  | p :: q :: r, [], a, f, _, hq, hx, hG, hn => by
    exfalso
    have hf : f = a := hG
    have hx' : x.cps.toList.drop a = p.cps.toList ++ 46 :: 46 :: 46 :: jl ((q :: r).map (fun q => q.cps.toList)) := hx
    refine hn (a + p.cps.toList.length) (by omega) (at_of (r := jl ((q :: r).map (fun q => q.cps.toList))) ?_)
    rw [← List.drop_drop, hx', List.drop_left]
  | p :: q :: r, c :: cs, a, f, _, hq, hx, hG, hn => by
    have hx' : x.cps.toList.drop a = p.cps.toList ++ 46 :: 46 :: 46 :: jl ((q :: r).map (fun q => q.cps.toList)) := hx
    have hat : StrLaws.At x dots x.length (a + p.cps.toList.length) := by
      refine at_of (r := jl ((q :: r).map (fun q => q.cps.toList))) ?_
      rw [← List.drop_drop, hx', List.drop_left]
    have hac := hG.1
    have hc : c = a + p.cps.toList.length := by
      rcases Nat.lt_trichotomy c (a + p.cps.toList.length) with h | h | h
      · exfalso
        have h1 := at_get hG.2.1
        have h2 : (p.cps.toList ++ 46 :: 46 :: 46 :: jl ((q :: r).map (fun q => q.cps.toList)))[c - a]? = some 46 := by
          rw [← hx', List.getElem?_drop, show a + (c - a) = c from by omega]; exact h1
        rw [List.getElem?_append_left (by omega)] at h2
        exact hq p (List.Mem.head _) (List.mem_of_getElem? h2)
      · exact h
      · exact absurd hat (hG.2.2.1 _ (by omega) h)
    subst hc
    have ih := parts_join x (q :: r) cs (a + p.cps.toList.length + 3) f (by simp) (fun y hy => hq y (List.Mem.tail _ hy)) (by
      rw [← List.drop_drop, ← List.drop_drop, hx', List.drop_left]; rfl) (by have h := hG.2.2.2; rw [dots_len] at h; exact h) hn
    show strSub x a (a + p.cps.toList.length) :: StrLaws.partsFrom x 3 (a + p.cps.toList.length + 3) cs = _
    rw [ih]
    congr 1
    apply Str.ext'
    apply Array.toList_inj.mp
    rw [StrLaws.strSub_toList, hx', Nat.add_sub_cancel_left, List.take_left]
theorem strKind_pos (x : Str) : ¬ Builtin.Str.strKind x < Builtin.Str.strKind dots := by
  have h1 : Builtin.Str.strKind dots = 1 := by decide +kernel
  rw [h1]; unfold Builtin.Str.strKind
  split
  · omega
  · split <;> omega
theorem split_join (x : Str) (ps : List Str) (h2 : 2 ≤ ps.length) (hq : ∀ q ∈ ps, 46 ∉ q.cps.toList) (hx : x.cps.toList = jl (ps.map (fun q => q.cps.toList))) : Txt.split x dots = ps ∧ (occurrences x dots 0 x.length (x.length + 1)).isEmpty = false := by
  obtain ⟨f, hG, hn⟩ := StrLaws.occ_tight x dots (by rw [dots_len]; omega)
  have hne : ps ≠ [] := by intro e; rw [e] at h2; simp at h2
  have key := parts_join x ps _ 0 f hne hq (by rw [List.drop_zero]; exact hx) hG hn
  have hocc : occurrences x dots 0 x.length (x.length + 1) ≠ [] := by
    intro e; rw [e] at key
    have := congrArg List.length key
    simp [StrLaws.partsFrom] at this; omega
  have hocc2 : (occurrences x dots 0 x.length (x.length + 1)).isEmpty = false := by
    cases h : occurrences x dots 0 x.length (x.length + 1) with
    | nil => exact absurd h hocc
    | cons _ _ => rfl
  have hlen : ¬ x.length < dots.length := by
    cases h : occurrences x dots 0 x.length (x.length + 1) with
    | nil => exact absurd h hocc
    | cons c cs => rw [h] at hG; have := hG.2.1.1; omega
  refine ⟨?_, hocc2⟩
  unfold Txt.split
  rw [if_neg (by simp only [Bool.or_eq_true, decide_eq_true_eq]; intro h; rcases h with h | h; exact hlen h; exact strKind_pos x h), if_neg (by rw [hocc2]; simp), StrLaws.partsBetween_eq, dots_len]
  exact key
def pieces (word : Str) : List Str := if word.cps.toList = [] then [Str.ofString "", Str.ofString "", Str.ofString ""] else Str.ofString "" :: (signs word ++ [Str.ofString ""])
def wantOf (word : Str) : Str := dots ++ Txt.join dots (signs word) ++ dots
theorem signs_map (word : Str) : (signs word).map (fun q => q.cps.toList) = word.cps.toList.map (fun c => [c]) := by
  unfold signs; rw [List.map_map]; rfl
theorem want_list (word : Str) : (wantOf word).cps.toList = jl ((pieces word).map (fun q => q.cps.toList)) := by
  unfold wantOf pieces
  rw [Str.cps_append, Str.cps_append, Array.toList_append, Array.toList_append, dots_list]
  rw [show Txt.join dots (signs word) = Str.join dots (signs word) from StrLaws.glued_eq_join _ _, join_list, signs_map]
  split
  · rename_i h; rw [h]; simp [jl, nil_list]
  · rename_i h
    rw [List.map_cons, List.map_append, signs_map, nil_list]
    cases hw : word.cps.toList with
    | nil => exact absurd hw h
    | cons c cs =>
      show _ = jl ([] :: (List.map (fun c => [c]) (c :: cs) ++ [[]]))
      have e := jl_snoc [] (List.map (fun c => [c]) (c :: cs)) (by simp)
      show _ = [] ++ 46 :: 46 :: 46 :: jl (List.map (fun c => [c]) (c :: cs) ++ [[]])
      rw [e]; simp
theorem pieces_flat (word : Str) : (pieces word).flatMap (fun q => q.cps.toList) = word.cps.toList := by
  unfold pieces
  split
  · rename_i h; rw [h]; simp [nil_list]
  · rw [List.flatMap_cons, List.flatMap_append, nil_list]
    simp only [List.flatMap_cons, List.flatMap_nil, nil_list, List.nil_append, List.append_nil]
    unfold signs
    generalize word.cps.toList = l
    induction l with
    | nil => rfl
    | cons a r ih => simp [ih]
theorem pieces_ok (word : Str) : ∀ q ∈ pieces word, q = Str.ofString "" ∨ ∃ c ∈ word.cps.toList, q = ⟨#[c]⟩ := by
  intro q hq
  unfold pieces at hq
  split at hq
  · left; simpa using hq
  · rcases List.mem_cons.mp hq with h | h
    · exact Or.inl h
    · rcases List.mem_append.mp h with h | h
      · right
        unfold signs at h
        obtain ⟨c, hc, e⟩ := List.mem_map.mp h
        exact ⟨c, hc, e.symm⟩
      · left; simpa using h
theorem pieces_free (word : Str) (h : ∀ c ∈ word.cps.toList, c ≠ 46) : ∀ q ∈ pieces word, 46 ∉ q.cps.toList := by
  intro q hq hm
  rcases pieces_ok word q hq with e | ⟨c, hc, e⟩
  · rw [e, nil_list] at hm; simp at hm
  · rw [e] at hm
    have : 46 = c := by simpa using hm
    exact h c hc this.symm
theorem pieces_len (word : Str) : (pieces word).length = if word.cps.toList = [] then 3 else word.length + 2 := by
  unfold pieces
  split
  · rfl
  · simp [signs, Str.length]
theorem pieces_len2 (word : Str) : 2 ≤ (pieces word).length ∧ (pieces word).length ≤ word.length + 3 := by
  rw [pieces_len]; split <;> omega
theorem pieces_first (word : Str) : (pieces word)[0]? = some (Str.ofString "") := by
  unfold pieces; split <;> rfl
theorem pieces_last (word : Str) : (pieces word)[(pieces word).length - 1]? = some (Str.ofString "") := by
  unfold pieces
  split
  · rfl
  · rw [← List.cons_append, List.length_append, List.length_singleton, Nat.add_sub_cancel, List.getElem?_append_right (Nat.le_refl _), Nat.sub_self]; rfl
theorem jl_len : ∀ (l : List Nat), (jl (l.map (fun c => [c]))).length ≤ 4 * l.length
  | [] => Nat.le_refl _
  | [_] => by simp [jl]
  | a :: b :: r => by
    have ih := jl_len (b :: r)
    simp only [List.map_cons, jl, List.length_append, List.length_cons, List.length_nil] at ih ⊢
    omega
theorem want_len (word : Str) (h : word.length ≤ 17) : (Txt.join dots (signs word)).length ≤ 80 ∧ (dots ++ Txt.join dots (signs word)).length ≤ 90 ∧ (wantOf word).length ≤ 100 := by
  have h1 : (Txt.join dots (signs word)).length ≤ 68 := by
    rw [show Txt.join dots (signs word) = Str.join dots (signs word) from StrLaws.glued_eq_join _ _]
    have e : (Str.join dots (signs word)).length = (Str.join dots (signs word)).cps.toList.length := by simp [Str.length]
    rw [e, join_list, signs_map]
    have := jl_len word.cps.toList
    have e2 : word.cps.toList.length = word.length := by simp [Str.length]
    omega
  unfold wantOf
  have e1 : (dots ++ Txt.join dots (signs word)).length = dots.length + (Txt.join dots (signs word)).length := Str.length_append _ _
  have e2 : (dots ++ Txt.join dots (signs word) ++ dots).length = (dots ++ Txt.join dots (signs word)).length + dots.length := Str.length_append _ _
  have e3 := dots_len
  omega
theorem want_occ (word : Str) (h : ∀ c ∈ word.cps.toList, c ≠ 46) : Txt.split (wantOf word) dots = pieces word ∧ (occurrences (wantOf word) dots 0 (wantOf word).length 1).isEmpty = false := by
  have hh := split_join (wantOf word) (pieces word) (pieces_len2 word).1 (pieces_free word h) (want_list word)
  refine ⟨hh.1, ?_⟩
  have hat : StrLaws.At (wantOf word) dots (wantOf word).length 0 := by
    refine at_of (r := (Txt.join dots (signs word) ++ dots).cps.toList) ?_
    unfold wantOf
    rw [List.drop_zero, Str.append_assoc, Str.cps_append, Array.toList_append, dots_list]; rfl
  have hf := (StrLaws.found_iff (wantOf word) dots).mpr ⟨0, hat.1, hat.2⟩
  rwa [Bool.not_eq_true'] at hf
end Mine
end
section
namespace Mine
theorem off_E4 : True := by
  w_top off
  trivial
end Mine
open PySem PySem.W PyProof.Rows Builtin Builtin.Str
namespace Mine
local macro_rules | `(tactic| k_room) => `(tactic| ktr_room)
local macro_rules | `(tactic| walk_at "LeaveK") => `(tactic| refine Hold.mk ?_)
local macro_rules | `(tactic| walk_at "call ref") => `(tactic| refine Hold.mk ?_)
local macro_rules | `(tactic| walk_at "binaryOp Add str str") => `(tactic| refine Hold.mk ?_)
local macro_rules | `(tactic| walk_at "call builtin:str.join") => `(tactic| refine Hold.mk ?_)
set_option maxRecDepth 100000 in
set_option maxHeartbeats 2000000 in
theorem taken_claim (w : World) (p : Program) (loose : List Str) (mean : ExcName → Option Value) (mg mb : Str → Option Value) (led : List (Addr × Obj)) (text word : Str) (t1 t2 : Tok) (ok : Okw text word) :
   Claim w p loose mean mg mb 3 20 46 led [.str text t1, .str word t2] [] (fun v led' => v = .bool (takenB text word) ∧ led' = led) := by
  unfold Claim
  k_fill
  intro dp un gd cn cs a ccd cl outer A₀ base h₀ L m s Q E B F X N0 T hk hdp hun hret
  refine wpAny_call ?_
  k_dflt (refine' code_def ?k1 ?k2 ?k3 ?k4 ?k5 ?kA ?kF ?kK ?k6 ?k7 ?k8 ?k9 ?kB ?_ ?c2 ?c3 ?c4 ?c5; (case kA => exact rfl); (case kF => exact rfl); (case kK => assumption); (case k1 => k_asm); (case k2 => k_asm); (case k3 => k_asm); (case k4 => k_asm); (case k5 => k_asm); (case k6 => k_is); (case k7 => k_is); (case k8 => exact (show dp < recursionLimit by omega)); (case k9 => exact BindsTo.of_eq rfl); (case c5 => decide); (case kB => exact locs rfl); (case c2 => exact rfl); (case c3 => exact rfl); (case c4 => exact rfl); k_whole; intro g' L' h' FG' F' N' B' X' T'; (try dsimp only); (try k_lift B'); (try k_fold))
  k_steps
  unfold Hold
  refine join_strF (by rfl) (by assumption) (by assumption) (joinOk_signsN (N := 17) (S := 3) ok.2.1 (by decide +kernel) (by decide)) ?_
  intro h1 k1 tj kF1 kN1
  have hwl := want_len word ok.2.1
  have hwo := want_occ word ok.2.2
  k_steps
  unfold Hold
  refine SB.add (fun tw kw => ?_) (by rw [← Str.length_append]; exact sizeLine_100 (Nat.le_trans hwl.2.1 (by decide)))
  k_steps
  unfold Hold
  refine SB.add (fun tw2 kw2 => ?_) (by rw [← Str.length_append]; exact sizeLine_100 (Nat.le_trans hwl.2.2 (by decide)))
  k_steps
  unfold Hold
  rename Fr g' L' _ _ => kF7
  rename News g' L' _ _ => kN7
  refine Claim.use (ell_claim w p loose mean mg mb _ (wantOf word) text _ _ (pieces word) hwo.2 hwo.1 hwl.2.2 ok.1 (pieces_len2 word).1 (Nat.le_trans (pieces_len2 word).2 (by have := ok.2.1; omega)) (pieces_first word) (pieces_last word) (fun q hq => (pieces_ok word q hq).imp id (fun ⟨c, _, e⟩ => ⟨c, e⟩))) B' kF7 X' kN7 T' rfl (show dp + 1 + 1 < recursionLimit by omega) (show un + 3 + 10 < cLine by omega) ?_
  clear kF7 kN7
  rintro v led' h8 tk8 kF8 kN8 ⟨rfl, rfl⟩
  dsimp only
  k_steps
  unfold Hold
  refine leaveK_ kF8 kN8 ?_
  intro kF9 kN9
  refine hret _ _ _ _ kF9 kN9 ⟨?_, rfl⟩
  rw [pieces_flat]; rfl
end Mine
end
section
namespace Mine
theorem off_B1 : True := by
  w_top off
  trivial
end Mine
open PySem PySem.W PyProof.Rows
namespace Mine
local macro_rules | `(tactic| k_room) => `(tactic| ktr_room)
local macro_rules | `(tactic| walk_at "exec While Compare cons nil") => `(tactic| refine Hold.mk ?_)
local macro_rules | `(tactic| walk_at "KswEnd") => `(tactic| refine Hold.mk ?_)
local macro_rules | `(tactic| walk_at "LeaveK") => `(tactic| refine Hold.mk ?_)
local macro_rules | `(tactic| walk_at "subscriptTail Name Name ref int") => `(tactic| refine Hold.mk ?_)
local macro_rules | `(tactic| walk_at "call ref") => `(tactic| refine Hold.mk ?_)
local macro_rules | `(tactic| walk_at "call builtin:len") => `(tactic| refine Hold.mk ?_)
set_option maxRecDepth 100000 in
set_option maxHeartbeats 8000000 in
theorem bisR (w : World) (p : Program) (loose : List Str) (mean : ExcName → Option Value) (mg mb : Str → Option Value) (f l la : Addr) (fd : FuncData) (rest : List (Addr × Obj)) (ys : List Value) (yn N : Nat) (hys : IntsAre ys (natInts (List.range N)))
   (up : Nat → Bool) (hkey : ∀ (vs : List Value) (n i : Nat) (t : Tok), i < N → vs.length ≤ 100 → Claim w p loose mean mg mb 6 40 f ((f, { cls := .type "function", data := .func fd }) :: (l, listOf ys.toArray yn) :: (la, listOf vs.toArray n) :: rest) [.int i t] []
      (fun v led' => ∃ t' n', v = .int (if up i then 2 else 3) t' ∧ led' = ((f, { cls := .type "function", data := .func fd }) :: (l, listOf ys.toArray yn) :: (la, listOf (vs ++ [Value.int i t]).toArray n') :: rest)))
   (lo n0 : Nat) (t1 t2 : Tok) (hlo : lo ≤ N) (hN : N ≤ 100) :
   Claim w p loose mean mg mb 10 60 23 ((f, { cls := .type "function", data := .func fd }) :: (l, listOf ys.toArray yn) :: (la, listOf #[] n0) :: rest) [.ref l, .int 2 t1, .int lo t2] [(Str.ofString "key", .ref f)]
    (fun v led' => ∃ t' vs' n', v = .int ((bs up lo N).1 : Nat) t' ∧ IntsAre vs' (natInts (bs up lo N).2) ∧ led' = ((f, { cls := .type "function", data := .func fd }) :: (l, listOf ys.toArray yn) :: (la, listOf vs'.toArray n') :: rest)) := by
  unfold Claim
  k_fill
  intro dp un gd cn cs a ccd cl outer A₀ base h₀ L m s Q E B F X N0 T hk hdp hun hret
  refine wpAny_call ?_
  k_dflt (refine' code_def ?k1 ?k2 ?k3 ?k4 ?k5 ?kA ?kF ?kK ?k6 ?k7 ?k8 ?k9 ?kB ?_ ?c2 ?c3 ?c4 ?c5; (case kA => exact rfl); (case kF => exact rfl); (case kK => assumption); (case k1 => k_asm); (case k2 => k_asm); (case k3 => k_asm); (case k4 => k_asm); (case k5 => k_asm); (case k6 => k_is); (case k7 => k_is); (case k8 => exact (show dp < recursionLimit by omega)); (case k9 => (refine' kp_binds ?kx ?ke; (case kx => k_in); (case ke => exact fun _ => rfl))); (case c5 => decide); (case kB => exact locs rfl); (case c2 => exact rfl); (case c3 => exact rfl); (case c4 => exact rfl); k_whole; intro g' L' h' FG' F' N' B' X' T'; (try dsimp only); (try k_lift B'); (try k_fold))
  have hyl : ys.length = N := by rw [hys.length]; simp [natInts]
  k_steps
  unfold Hold
  refine kst_len (by k_asm) (List.Mem.tail _ (List.Mem.head _)) hyl (by omega) ?_
  k_steps
  unfold Hold
  rename Fr g' L' _ _ => kF
  rename News g' L' _ _ => kN
  have hC : CodeHd g' 57 53 := codeHd_of_K X' (by kernel_rfl)
  refine' ksw_while (σ := Nat × Nat × Tok × Tok × List Value × Nat × List Nat) (fun c => (f, { cls := .type "function", data := .func fd }) :: (l, listOf ys.toArray yn) :: (la, listOf c.2.2.2.2.1.toArray c.2.2.2.2.2.1) :: rest)
    (fun c => [(Str.ofString "lo", .int c.1 c.2.2.1), (Str.ofString "hi", .int c.2.1 c.2.2.2.1)]) (fun _ => True) [Str.ofString "mid"]
    (fun c => c.1 ≤ c.2.1 ∧ c.2.1 ≤ N ∧ c.2.2.2.2.2.2.length + (c.2.1 - c.1) ≤ N ∧ IntsAre c.2.2.2.2.1 (natInts c.2.2.2.2.2.2) ∧ bs up lo N = ((bs up c.1 c.2.1).1, c.2.2.2.2.2.2 ++ (bs up c.1 c.2.1).2))
    (fun c => c.2.1 - c.1) (lo, N, t2, _, [], n0, []) kF kN trivial ?kk ?kp ?turn ?pe
  case kk =>
    intro q hq
    simp only [List.mem_cons, List.not_mem_nil, or_false] at hq
    rcases hq with rfl | rfl <;> rfl
  case kp => exact ⟨hlo, Nat.le_refl _, by simp, IntsAre.nil, by simp⟩
  case turn =>
    clear kF kN
    rintro ⟨lo', hi', tl, th, vs, nn, ak⟩ u h tk _ ⟨q1, q2, q5, q3, q4⟩ kF kN
    dsimp only at q1 q2 q5 q3 q4 kF kN
    have q6 : vs.length = ak.length := by rw [q3.length]; simp [natInts]
    k_steps
    · have hlt : lo' < hi' := by omega
      rename Fr g' L' _ _ => kF2
      rename News g' L' _ _ => kN2
      rw [fdiv_two] at kF2 ⊢
      obtain ⟨ty, hty⟩ := natInts_range_get (i := (lo' + hi') / 2) hys (by omega)
      unfold Hold
      refine item_litK (newsList kN2 (List.Mem.tail _ (List.Mem.head _))) (by omega) (by omega) (by rw [Int.toNat_natCast]; exact hty) ?_
      k_steps
      unfold Hold
      refine Claim.use (hkey vs nn ((lo' + hi') / 2) ty (by omega) (by omega)) B' kF2 X' kN2 T' rfl (show dp + 1 + 6 < recursionLimit by omega) (show un + 3 + 40 < cLine by omega) ?_
      rintro v led' h9 tk9 kF3 kN3 ⟨t9, n9, rfl, rfl⟩
      dsimp only
      k_steps
      · unfold Hold
        rename Fr g' L' _ _ => kF4
        rename News g' L' _ _ => kN4
        have hu : up ((lo' + hi') / 2) = false := by
          cases hb : up ((lo' + hi') / 2) with
          | false => rfl
          | true => rename (2 : Int) < _ => hq; rw [hb] at hq; simp at hq
        refine' ksw_end (lo', (lo' + hi') / 2, tl, _, vs ++ [Value.int ((lo' + hi') / 2 : Nat) ty], n9, ak ++ [(lo' + hi') / 2]) kF4 kN4 (fun _ hp => hp) trivial ?a1 ?a2 ⟨?a3, ?a4, ?a8, ?a5, ?a6⟩ ?a7
        case a1 =>
          intro q hq
          simp only [List.mem_cons, List.not_mem_nil, or_false] at hq
          rcases hq with rfl | rfl <;> rfl
        case a2 =>
          intro z h2 h3
          have n1 : z ≠ Str.ofString "lo" := h2 _ (List.Mem.head _)
          have n2 : z ≠ Str.ofString "hi" := h2 _ (List.Mem.tail _ (List.Mem.head _))
          have n3 : z ≠ Str.ofString "mid" := by intro e; rw [e] at h3; simp at h3
          simp only [kstB, if_neg n1, if_neg n2, if_neg n3, h3, Bool.false_eq_true, if_false]
        case a3 => dsimp only; omega
        case a4 => dsimp only; omega
        case a8 => dsimp only; simp only [List.length_append, List.length_cons, List.length_nil]; omega
        case a5 => dsimp only; simpa [natInts] using q3.append (IntsAre.cons _ ty IntsAre.nil)
        case a6 => dsimp only; first | (rw [q4, bs_up hlt hu]; simp) | (rw [q4, bs_down hlt hu]; simp)
        case a7 => dsimp only; omega
      · unfold Hold
        rename Fr g' L' _ _ => kF4
        rename News g' L' _ _ => kN4
        have hu : up ((lo' + hi') / 2) = true := by
          cases hb : up ((lo' + hi') / 2) with
          | true => rfl
          | false => rename ¬ (2 : Int) < _ => hq; rw [hb] at hq; simp at hq
        refine' ksw_end ((lo' + hi') / 2 + 1, hi', _, th, vs ++ [Value.int ((lo' + hi') / 2 : Nat) ty], n9, ak ++ [(lo' + hi') / 2]) kF4 kN4 (fun _ hp => hp) trivial ?a1 ?a2 ⟨?a3, ?a4, ?a8, ?a5, ?a6⟩ ?a7
        case a1 =>
          intro q hq
          simp only [List.mem_cons, List.not_mem_nil, or_false] at hq
          rcases hq with rfl | rfl <;> rfl
        case a2 =>
          intro z h2 h3
          have n1 : z ≠ Str.ofString "lo" := h2 _ (List.Mem.head _)
          have n2 : z ≠ Str.ofString "hi" := h2 _ (List.Mem.tail _ (List.Mem.head _))
          have n3 : z ≠ Str.ofString "mid" := by intro e; rw [e] at h3; simp at h3
          simp only [kstB, if_neg n1, if_neg n2, if_neg n3, h3, Bool.false_eq_true, if_false]
        case a3 => dsimp only; omega
        case a4 => dsimp only; omega
        case a8 => dsimp only; simp only [List.length_append, List.length_cons, List.length_nil]; omega
        case a5 => dsimp only; simpa [natInts] using q3.append (IntsAre.cons _ ty IntsAre.nil)
        case a6 => dsimp only; first | (rw [q4, bs_up hlt hu]; simp) | (rw [q4, bs_down hlt hu]; simp)
        case a7 => dsimp only; omega
    · unfold Hold
      have hge : ¬ lo' < hi' := by omega
      rw [bs_done hge] at q4
      show LeaveK _ _ _ _ _ _ _
      refine leaveK_ kF kN ?_
      intro kF5 kN5
      dsimp only
      refine hret _ _ _ _ kF5 kN5 ⟨tl, vs, nn, ?_, ?_, rfl⟩
      · rw [q4]
      · rw [q4]; simpa using q3
  case pe => passes_own
end Mine
end
section
namespace Mine
theorem off_B2 : True := by
  w_top off
  trivial
end Mine
open PySem PySem.W PyProof.Rows
namespace Mine
local macro_rules | `(tactic| k_room) => `(tactic| ktr_room)
local macro_rules | `(tactic| walk_at "exec While Compare cons nil") => `(tactic| refine Hold.mk ?_)
local macro_rules | `(tactic| walk_at "KswEnd") => `(tactic| refine Hold.mk ?_)
local macro_rules | `(tactic| walk_at "LeaveK") => `(tactic| refine Hold.mk ?_)
local macro_rules | `(tactic| walk_at "subscriptTail Name Name ref int") => `(tactic| refine Hold.mk ?_)
local macro_rules | `(tactic| walk_at "call ref") => `(tactic| refine Hold.mk ?_)
local macro_rules | `(tactic| walk_at "call builtin:len") => `(tactic| refine Hold.mk ?_)
set_option maxRecDepth 100000 in
set_option maxHeartbeats 8000000 in
theorem bisR0 (w : World) (p : Program) (loose : List Str) (mean : ExcName → Option Value) (mg mb : Str → Option Value) (f l la : Addr) (fd : FuncData) (rest : List (Addr × Obj)) (ys : List Value) (yn N : Nat) (hys : IntsAre ys (natInts (List.range N)))
   (up : Nat → Bool) (hkey : ∀ (vs : List Value) (n i : Nat) (t : Tok), i < N → vs.length ≤ 100 → Claim w p loose mean mg mb 6 40 f ((f, { cls := .type "function", data := .func fd }) :: (l, listOf ys.toArray yn) :: (la, listOf vs.toArray n) :: rest) [.int i t] []
      (fun v led' => ∃ t' n', v = .int (if up i then 2 else 3) t' ∧ led' = ((f, { cls := .type "function", data := .func fd }) :: (l, listOf ys.toArray yn) :: (la, listOf (vs ++ [Value.int i t]).toArray n') :: rest)))
   (n0 : Nat) (t1 : Tok) (hN : N ≤ 100) :
   Claim w p loose mean mg mb 10 60 23 ((f, { cls := .type "function", data := .func fd }) :: (l, listOf ys.toArray yn) :: (la, listOf #[] n0) :: rest) [.ref l, .int 2 t1] [(Str.ofString "key", .ref f)]
    (fun v led' => ∃ t' vs' n', v = .int ((bs up 0 N).1 : Nat) t' ∧ IntsAre vs' (natInts (bs up 0 N).2) ∧ led' = ((f, { cls := .type "function", data := .func fd }) :: (l, listOf ys.toArray yn) :: (la, listOf vs'.toArray n') :: rest)) := by
  unfold Claim
  k_fill
  intro dp un gd cn cs a ccd cl outer A₀ base h₀ L m s Q E B F X N0 T hk hdp hun hret
  refine wpAny_call ?_
  k_dflt (refine' code_def ?k1 ?k2 ?k3 ?k4 ?k5 ?kA ?kF ?kK ?k6 ?k7 ?k8 ?k9 ?kB ?_ ?c2 ?c3 ?c4 ?c5; (case kA => exact rfl); (case kF => exact rfl); (case kK => assumption); (case k1 => k_asm); (case k2 => k_asm); (case k3 => k_asm); (case k4 => k_asm); (case k5 => k_asm); (case k6 => k_is); (case k7 => k_is); (case k8 => exact (show dp < recursionLimit by omega)); (case k9 => (refine' kp_binds ?kx ?ke; (case kx => k_in); (case ke => exact fun _ => rfl))); (case c5 => decide); (case kB => exact locs rfl); (case c2 => exact rfl); (case c3 => exact rfl); (case c4 => exact rfl); k_whole; intro g' L' h' FG' F' N' B' X' T'; (try dsimp only); (try k_lift B'); (try k_fold))
  have hyl : ys.length = N := by rw [hys.length]; simp [natInts]
  k_steps
  unfold Hold
  refine kst_len (by k_asm) (List.Mem.tail _ (List.Mem.head _)) hyl (by omega) ?_
  k_steps
  unfold Hold
  rename Fr g' L' _ _ => kF
  rename News g' L' _ _ => kN
  have hC : CodeHd g' 57 53 := codeHd_of_K X' (by kernel_rfl)
  refine' ksw_while (σ := Nat × Nat × Tok × Tok × List Value × Nat × List Nat) (fun c => (f, { cls := .type "function", data := .func fd }) :: (l, listOf ys.toArray yn) :: (la, listOf c.2.2.2.2.1.toArray c.2.2.2.2.2.1) :: rest)
    (fun c => [(Str.ofString "lo", .int c.1 c.2.2.1), (Str.ofString "hi", .int c.2.1 c.2.2.2.1)]) (fun _ => True) [Str.ofString "mid"]
    (fun c => c.1 ≤ c.2.1 ∧ c.2.1 ≤ N ∧ c.2.2.2.2.2.2.length + (c.2.1 - c.1) ≤ N ∧ IntsAre c.2.2.2.2.1 (natInts c.2.2.2.2.2.2) ∧ bs up 0 N = ((bs up c.1 c.2.1).1, c.2.2.2.2.2.2 ++ (bs up c.1 c.2.1).2))
    (fun c => c.2.1 - c.1) (0, N, _, _, [], n0, []) kF kN trivial ?kk ?kp ?turn ?pe
  case kk =>
    intro q hq
    simp only [List.mem_cons, List.not_mem_nil, or_false] at hq
    rcases hq with rfl | rfl <;> rfl
  case kp => exact ⟨Nat.zero_le _, Nat.le_refl _, by simp, IntsAre.nil, by simp⟩
  case turn =>
    clear kF kN
    rintro ⟨lo', hi', tl, th, vs, nn, ak⟩ u h tk _ ⟨q1, q2, q5, q3, q4⟩ kF kN
    dsimp only at q1 q2 q5 q3 q4 kF kN
    have q6 : vs.length = ak.length := by rw [q3.length]; simp [natInts]
    k_steps
    · have hlt : lo' < hi' := by omega
      rename Fr g' L' _ _ => kF2
      rename News g' L' _ _ => kN2
      rw [fdiv_two] at kF2 ⊢
      obtain ⟨ty, hty⟩ := natInts_range_get (i := (lo' + hi') / 2) hys (by omega)
      unfold Hold
      refine item_litK (newsList kN2 (List.Mem.tail _ (List.Mem.head _))) (by omega) (by omega) (by rw [Int.toNat_natCast]; exact hty) ?_
      k_steps
      unfold Hold
      refine Claim.use (hkey vs nn ((lo' + hi') / 2) ty (by omega) (by omega)) B' kF2 X' kN2 T' rfl (show dp + 1 + 6 < recursionLimit by omega) (show un + 3 + 40 < cLine by omega) ?_
      rintro v led' h9 tk9 kF3 kN3 ⟨t9, n9, rfl, rfl⟩
      dsimp only
      k_steps
      · unfold Hold
        rename Fr g' L' _ _ => kF4
        rename News g' L' _ _ => kN4
        have hu : up ((lo' + hi') / 2) = false := by
          cases hb : up ((lo' + hi') / 2) with
          | false => rfl
          | true => rename (2 : Int) < _ => hq; rw [hb] at hq; simp at hq
        refine' ksw_end (lo', (lo' + hi') / 2, tl, _, vs ++ [Value.int ((lo' + hi') / 2 : Nat) ty], n9, ak ++ [(lo' + hi') / 2]) kF4 kN4 (fun _ hp => hp) trivial ?a1 ?a2 ⟨?a3, ?a4, ?a8, ?a5, ?a6⟩ ?a7
        case a1 =>
          intro q hq
          simp only [List.mem_cons, List.not_mem_nil, or_false] at hq
          rcases hq with rfl | rfl <;> rfl
        case a2 =>
          intro z h2 h3
          have n1 : z ≠ Str.ofString "lo" := h2 _ (List.Mem.head _)
          have n2 : z ≠ Str.ofString "hi" := h2 _ (List.Mem.tail _ (List.Mem.head _))
          have n3 : z ≠ Str.ofString "mid" := by intro e; rw [e] at h3; simp at h3
          simp only [kstB, if_neg n1, if_neg n2, if_neg n3, h3, Bool.false_eq_true, if_false]
        case a3 => dsimp only; omega
        case a4 => dsimp only; omega
        case a8 => dsimp only; simp only [List.length_append, List.length_cons, List.length_nil]; omega
        case a5 => dsimp only; simpa [natInts] using q3.append (IntsAre.cons _ ty IntsAre.nil)
        case a6 => dsimp only; first | (rw [q4, bs_up hlt hu]; simp) | (rw [q4, bs_down hlt hu]; simp)
        case a7 => dsimp only; omega
      · unfold Hold
        rename Fr g' L' _ _ => kF4
        rename News g' L' _ _ => kN4
        have hu : up ((lo' + hi') / 2) = true := by
          cases hb : up ((lo' + hi') / 2) with
          | true => rfl
          | false => rename ¬ (2 : Int) < _ => hq; rw [hb] at hq; simp at hq
        refine' ksw_end ((lo' + hi') / 2 + 1, hi', _, th, vs ++ [Value.int ((lo' + hi') / 2 : Nat) ty], n9, ak ++ [(lo' + hi') / 2]) kF4 kN4 (fun _ hp => hp) trivial ?a1 ?a2 ⟨?a3, ?a4, ?a8, ?a5, ?a6⟩ ?a7
        case a1 =>
          intro q hq
          simp only [List.mem_cons, List.not_mem_nil, or_false] at hq
          rcases hq with rfl | rfl <;> rfl
        case a2 =>
          intro z h2 h3
          have n1 : z ≠ Str.ofString "lo" := h2 _ (List.Mem.head _)
          have n2 : z ≠ Str.ofString "hi" := h2 _ (List.Mem.tail _ (List.Mem.head _))
          have n3 : z ≠ Str.ofString "mid" := by intro e; rw [e] at h3; simp at h3
          simp only [kstB, if_neg n1, if_neg n2, if_neg n3, h3, Bool.false_eq_true, if_false]
        case a3 => dsimp only; omega
        case a4 => dsimp only; omega
        case a8 => dsimp only; simp only [List.length_append, List.length_cons, List.length_nil]; omega
        case a5 => dsimp only; simpa [natInts] using q3.append (IntsAre.cons _ ty IntsAre.nil)
        case a6 => dsimp only; first | (rw [q4, bs_up hlt hu]; simp) | (rw [q4, bs_down hlt hu]; simp)
        case a7 => dsimp only; omega
    · unfold Hold
      have hge : ¬ lo' < hi' := by omega
      rw [bs_done hge] at q4
      show LeaveK _ _ _ _ _ _ _
      refine leaveK_ kF kN ?_
      intro kF5 kN5
      dsimp only
      refine hret _ _ _ _ kF5 kN5 ⟨tl, vs, nn, ?_, ?_, rfl⟩
      · rw [q4]
      · rw [q4]; simpa using q3
  case pe => passes_own
end Mine
end
section
namespace Mine
theorem off_B3 : True := by
  w_top off
  trivial
end Mine
open PySem PySem.W PyProof.Rows
namespace Mine
local macro_rules | `(tactic| k_room) => `(tactic| ktr_room)
local macro_rules | `(tactic| walk_at "exec While Compare cons nil") => `(tactic| refine Hold.mk ?_)
local macro_rules | `(tactic| walk_at "KswEnd") => `(tactic| refine Hold.mk ?_)
local macro_rules | `(tactic| walk_at "LeaveK") => `(tactic| refine Hold.mk ?_)
local macro_rules | `(tactic| walk_at "subscriptTail Name Name ref int") => `(tactic| refine Hold.mk ?_)
local macro_rules | `(tactic| walk_at "call ref") => `(tactic| refine Hold.mk ?_)
local macro_rules | `(tactic| walk_at "call builtin:len") => `(tactic| refine Hold.mk ?_)
set_option maxRecDepth 100000 in
set_option maxHeartbeats 8000000 in
theorem bisL (w : World) (p : Program) (loose : List Str) (mean : ExcName → Option Value) (mg mb : Str → Option Value) (f l la : Addr) (fd : FuncData) (rest : List (Addr × Obj)) (ys : List Value) (yn N : Nat) (hys : IntsAre ys (natInts (List.range N)))
   (up : Nat → Bool) (hkey : ∀ (vs : List Value) (n i : Nat) (t : Tok), i < N → vs.length ≤ 100 → Claim w p loose mean mg mb 6 40 f ((f, { cls := .type "function", data := .func fd }) :: (l, listOf ys.toArray yn) :: (la, listOf vs.toArray n) :: rest) [.int i t] []
      (fun v led' => ∃ t' n', v = .int (if up i then 2 else 3) t' ∧ led' = ((f, { cls := .type "function", data := .func fd }) :: (l, listOf ys.toArray yn) :: (la, listOf (vs ++ [Value.int i t]).toArray n') :: rest)))
   (hi n0 : Nat) (t1 t2 t3 : Tok) (hhi : hi ≤ N) (hN : N ≤ 100) :
   Claim w p loose mean mg mb 10 60 32 ((f, { cls := .type "function", data := .func fd }) :: (l, listOf ys.toArray yn) :: (la, listOf #[] n0) :: rest) [.ref l, .int 3 t1, .int 0 t2, .int hi t3] [(Str.ofString "key", .ref f)]
    (fun v led' => ∃ t' vs' n', v = .int ((bs up 0 hi).1 : Nat) t' ∧ IntsAre vs' (natInts (bs up 0 hi).2) ∧ led' = ((f, { cls := .type "function", data := .func fd }) :: (l, listOf ys.toArray yn) :: (la, listOf vs'.toArray n') :: rest)) := by
  unfold Claim
  k_fill
  intro dp un gd cn cs a ccd cl outer A₀ base h₀ L m s Q E B F X N0 T hk hdp hun hret
  refine wpAny_call ?_
  k_dflt (refine' code_def ?k1 ?k2 ?k3 ?k4 ?k5 ?kA ?kF ?kK ?k6 ?k7 ?k8 ?k9 ?kB ?_ ?c2 ?c3 ?c4 ?c5; (case kA => exact rfl); (case kF => exact rfl); (case kK => assumption); (case k1 => k_asm); (case k2 => k_asm); (case k3 => k_asm); (case k4 => k_asm); (case k5 => k_asm); (case k6 => k_is); (case k7 => k_is); (case k8 => exact (show dp < recursionLimit by omega)); (case k9 => (refine' kp_binds ?kx ?ke; (case kx => k_in); (case ke => exact fun _ => rfl))); (case c5 => decide); (case kB => exact locs rfl); (case c2 => exact rfl); (case c3 => exact rfl); (case c4 => exact rfl); k_whole; intro g' L' h' FG' F' N' B' X' T'; (try dsimp only); (try k_lift B'); (try k_fold))
  have hyl : ys.length = N := by rw [hys.length]; simp [natInts]
  k_steps
  unfold Hold
  rename Fr g' L' _ _ => kF
  rename News g' L' _ _ => kN
  have hC : CodeHd g' 57 53 := codeHd_of_K X' (by kernel_rfl)
  refine' ksw_while (σ := Nat × Nat × Tok × Tok × List Value × Nat × List Nat) (fun c => (f, { cls := .type "function", data := .func fd }) :: (l, listOf ys.toArray yn) :: (la, listOf c.2.2.2.2.1.toArray c.2.2.2.2.2.1) :: rest)
    (fun c => [(Str.ofString "lo", .int c.1 c.2.2.1), (Str.ofString "hi", .int c.2.1 c.2.2.2.1)]) (fun _ => True) [Str.ofString "mid"]
    (fun c => c.1 ≤ c.2.1 ∧ c.2.1 ≤ N ∧ c.2.2.2.2.2.2.length + (c.2.1 - c.1) ≤ N ∧ IntsAre c.2.2.2.2.1 (natInts c.2.2.2.2.2.2) ∧ bs up 0 hi = ((bs up c.1 c.2.1).1, c.2.2.2.2.2.2 ++ (bs up c.1 c.2.1).2))
    (fun c => c.2.1 - c.1) (0, hi, t2, t3, [], n0, []) kF kN trivial ?kk ?kp ?turn ?pe
  case kk =>
    intro q hq
    simp only [List.mem_cons, List.not_mem_nil, or_false] at hq
    rcases hq with rfl | rfl <;> rfl
  case kp => exact ⟨Nat.zero_le _, hhi, by simpa using hhi, IntsAre.nil, by simp⟩
  case turn =>
    clear kF kN
    rintro ⟨lo', hi', tl, th, vs, nn, ak⟩ u h tk _ ⟨q1, q2, q5, q3, q4⟩ kF kN
    dsimp only at q1 q2 q5 q3 q4 kF kN
    have q6 : vs.length = ak.length := by rw [q3.length]; simp [natInts]
    k_steps
    · have hlt : lo' < hi' := by omega
      rename Fr g' L' _ _ => kF2
      rename News g' L' _ _ => kN2
      rw [fdiv_two] at kF2 ⊢
      obtain ⟨ty, hty⟩ := natInts_range_get (i := (lo' + hi') / 2) hys (by omega)
      unfold Hold
      refine item_litK (newsList kN2 (List.Mem.tail _ (List.Mem.head _))) (by omega) (by omega) (by rw [Int.toNat_natCast]; exact hty) ?_
      k_steps
      unfold Hold
      refine Claim.use (hkey vs nn ((lo' + hi') / 2) ty (by omega) (by omega)) B' kF2 X' kN2 T' rfl (show dp + 1 + 6 < recursionLimit by omega) (show un + 3 + 40 < cLine by omega) ?_
      rintro v led' h9 tk9 kF3 kN3 ⟨t9, n9, rfl, rfl⟩
      dsimp only
      k_steps
      · unfold Hold
        rename Fr g' L' _ _ => kF4
        rename News g' L' _ _ => kN4
        have hu : up ((lo' + hi') / 2) = true := by
          cases hb : up ((lo' + hi') / 2) with
          | true => rfl
          | false => rename _ < (3 : Int) => hq; rw [hb] at hq; simp at hq
        refine' ksw_end ((lo' + hi') / 2 + 1, hi', _, th, vs ++ [Value.int ((lo' + hi') / 2 : Nat) ty], n9, ak ++ [(lo' + hi') / 2]) kF4 kN4 (fun _ hp => hp) trivial ?a1 ?a2 ⟨?a3, ?a4, ?a8, ?a5, ?a6⟩ ?a7
        case a1 =>
          intro q hq
          simp only [List.mem_cons, List.not_mem_nil, or_false] at hq
          rcases hq with rfl | rfl <;> rfl
        case a2 =>
          intro z h2 h3
          have n1 : z ≠ Str.ofString "lo" := h2 _ (List.Mem.head _)
          have n2 : z ≠ Str.ofString "hi" := h2 _ (List.Mem.tail _ (List.Mem.head _))
          have n3 : z ≠ Str.ofString "mid" := by intro e; rw [e] at h3; simp at h3
          simp only [kstB, if_neg n1, if_neg n2, if_neg n3, h3, Bool.false_eq_true, if_false]
        case a3 => dsimp only; omega
        case a4 => dsimp only; omega
        case a8 => dsimp only; simp only [List.length_append, List.length_cons, List.length_nil]; omega
        case a5 => dsimp only; simpa [natInts] using q3.append (IntsAre.cons _ ty IntsAre.nil)
        case a6 => dsimp only; first | (rw [q4, bs_up hlt hu]; simp) | (rw [q4, bs_down hlt hu]; simp)
        case a7 => dsimp only; omega
      · unfold Hold
        rename Fr g' L' _ _ => kF4
        rename News g' L' _ _ => kN4
        have hu : up ((lo' + hi') / 2) = false := by
          cases hb : up ((lo' + hi') / 2) with
          | false => rfl
          | true => rename ¬ _ < (3 : Int) => hq; rw [hb] at hq; simp at hq
        refine' ksw_end (lo', (lo' + hi') / 2, tl, _, vs ++ [Value.int ((lo' + hi') / 2 : Nat) ty], n9, ak ++ [(lo' + hi') / 2]) kF4 kN4 (fun _ hp => hp) trivial ?a1 ?a2 ⟨?a3, ?a4, ?a8, ?a5, ?a6⟩ ?a7
        case a1 =>
          intro q hq
          simp only [List.mem_cons, List.not_mem_nil, or_false] at hq
          rcases hq with rfl | rfl <;> rfl
        case a2 =>
          intro z h2 h3
          have n1 : z ≠ Str.ofString "lo" := h2 _ (List.Mem.head _)
          have n2 : z ≠ Str.ofString "hi" := h2 _ (List.Mem.tail _ (List.Mem.head _))
          have n3 : z ≠ Str.ofString "mid" := by intro e; rw [e] at h3; simp at h3
          simp only [kstB, if_neg n1, if_neg n2, if_neg n3, h3, Bool.false_eq_true, if_false]
        case a3 => dsimp only; omega
        case a4 => dsimp only; omega
        case a8 => dsimp only; simp only [List.length_append, List.length_cons, List.length_nil]; omega
        case a5 => dsimp only; simpa [natInts] using q3.append (IntsAre.cons _ ty IntsAre.nil)
        case a6 => dsimp only; first | (rw [q4, bs_up hlt hu]; simp) | (rw [q4, bs_down hlt hu]; simp)
        case a7 => dsimp only; omega
    · unfold Hold
      have hge : ¬ lo' < hi' := by omega
      rw [bs_done hge] at q4
      show LeaveK _ _ _ _ _ _ _
      refine leaveK_ kF kN ?_
      intro kF5 kN5
      dsimp only
      refine hret _ _ _ _ kF5 kN5 ⟨tl, vs, nn, ?_, ?_, rfl⟩
      · rw [q4]
      · rw [q4]; simpa using q3
  case pe => passes_own
end Mine
end
section
namespace Mine
theorem off_C2 : True := by
  w_top off
  trivial
end Mine
open PySem PySem.W PyProof.Rows
namespace Mine
local macro_rules | `(tactic| k_all) => `(tactic| assumption)
local macro_rules | `(tactic| k_room) => `(tactic| ktr_room)
local macro_rules | `(tactic| walk_at "eval Lambda") => `(tactic| refine Hold.mk ?_)
local macro_rules | `(tactic| walk_at "call ref") => `(tactic| refine Hold.mk ?_)
local macro_rules | `(tactic| walk_at "LeaveK") => `(tactic| refine Hold.mk ?_)
set_option maxRecDepth 100000 in
set_option maxHeartbeats 8000000 in
theorem count_claim (w : World) (p : Program) (loose : List Str) (mean : ExcName → Option Value) (mg mb : Str → Option Value) (tail : List (Addr × Obj)) (hne : ∀ p ∈ tail, p.1 ≠ 53) (ps : Array Value) (hps : TabSt 79 49 qual1 ps tail) (text sign : Str) (c : Nat) (hsg : sign = ⟨#[c]⟩) (t1 t2 : Tok) (htl : text.length ≤ 8) (hsl : sign.length = 1) (hc : c ≠ 46) :
   Claim w p loose mean mg mb 30 200 58 ((53, tabObj ps) :: tail) [.str text t1, .str sign t2] [] (fun v led' => ∃ t ps' ex, v = .int (text.cps.toList.count c : Nat) t ∧ led' = (53, tabObj ps') :: ex ∧ TabSt 79 49 qual1 ps' ex ∧ Ext tail ex) := by
  unfold Claim
  k_fill
  intro dp un gd cn cs a ccd cl outer A₀ base h₀ L m s Q E B F X N0 T hk hdp hun hret
  refine wpAny_call ?_
  k_dflt (refine' code_defC ?k1 ?k2 ?k3 ?k4 ?k5 ?kA ?kF ?kK ?k6 ?k7 ?k8 ?k9 ?kB ?kD ?_ ?c2 ?c3 ?c4; (case kA => exact rfl); (case kF => exact rfl); (case kK => assumption); (case k1 => k_asm); (case k2 => k_asm); (case k3 => k_asm); (case k4 => k_asm); (case k5 => k_asm); (case k6 => k_is); (case k7 => k_is); (case k8 => exact (show dp < recursionLimit by omega)); (case k9 => exact BindsTo.of_eq rfl); (case kB => exact rfl); (case kD => decide +kernel); (case c2 => exact rfl); (case c3 => exact rfl); (case c4 => exact rfl); k_whole; intro g' L' h' tk' cells' FG' F' N' Y' B' X' T' l1; (try k_lt l1); k_cells Y'; (try simp only [List.cons_append, List.nil_append] at N'); (try dsimp only); (try k_lift B'); (try k_fold))
  have hC : CodeHd g' 57 53 := codeHd_of_K X' (by kernel_rfl)
  have l2 := allLt_succ l1.2
  have l3 := allLt_succ l2
  have l4 := allLt_succ l3
  k_steps
  unfold Hold
  rename Fr g' L' _ _ => kF
  rename News g' L' _ _ => kN
  rename NewPlain _ _ _ _ => kP
  rename CarriedAll _ _ => kC
  rename g'.get? _ = none => kG
  rename_i oA0 oS oT dA0 dS dT la hq1 lla hq2 oA fq1 nq1 dA hq3 tkq1 tq uq vq rq fq2 nq2 aq hh tkq2 ys hkq xq mkq
  obtain ⟨yn, kN2⟩ := plain_news kF kN kP kG
  have kI : IntsAre ys (natInts (List.range 10)) := natInts_rangeInts 10 ▸ IntsAre.ofCarried kC
  have hD : @LT.lt Nat _ 53 hq3.objs.size := Heap.lt_size (nq2 (53, tabObj ps) (by simp)).1
  have hDl : @LT.lt Nat _ la hq3.objs.size := Heap.lt_size (nq2 (la, listOf #[] 0) (by simp)).1
  clear kN kP kC kG xq hkq aq nq2 fq2 rq nq1 fq1 mkq
  replace dS : oS.data = .cell (some (.str sign t2)) := dS
  replace dT : oT.data = .cell (some (.str text t1)) := dT
  clear dA0
  generalize hq3.objs.size = D at *
  refine lam_both kF kN2 T' hC rfl (by k_updF) (hps.mono (fun q hq => by simp [hq])) rfl rfl ?_
  intro f c' oc vsC tC ctv h9 tk9 kF3 kN3 dC1 dC2 lf
  dsimp only at kN3
  obtain ⟨fd, kN3, hfd⟩ := fd_of kN3
  have hfl : @LT.lt Nat _ la f := lf (la, listOf #[] 0) (by simp)
  have hcl : @Ne Nat c' la := news_ne kN3 (a := c') (b := la) (o1 := oc) (o2 := listOf #[] 0) (by simp) (by simp) (by rw [dC1]; simp)
  have htla : ∀ q ∈ tail, q.1 ≠ la := fun q hq => Nat.ne_of_lt (kst_ltOf lla.2.2.2.2 q hq)
  clear kF kN2
  k_steps
  unfold Hold
  refine Claim.use (bisR0 w p loose mean mg mb f D la fd ((c', oc) :: (L' + 1 + 1 + 1, oA) :: (L' + 1 + 1, oS) :: (L' + 1, oT) :: (53, tabObj #[rawInt 79, rawInt 49, .ref c']) :: tail) ys yn 10 kI (fun i => (List.replicate i c).isSublist text.cps.toList) ?hkey 0 _ (by omega)) B' kF3 X' (kst_newsOf kN3 ?sub) T' rfl (show dp + 1 + 10 < recursionLimit by omega) (show un + 3 + 60 < cLine by omega) ?ret
  case sub =>
    intro q hq
    simp only [List.mem_cons] at hq ⊢
    rcases hq with h | h | h | h | h | h | h | h | h <;> simp [h]
  case hkey =>
    subst hfd
    intro vs n i t hi hvl
    unfold Claim
    clear hret kF3 kN3 lf B F X N0 T hk hdp hun FG' B' X' T' hC
    intro dp un gd cn cs a ccd cl outer A₀ base h₀ L m s Q E B F X N0 T hk hdp hun hret
    refine wpAny_call ?_
    k_dflt (refine' kla_code B F X N0 T ?kA ?kF ?kK ?k6 ?k7 ?k8 ?k9 ?kB ?_ ?c2 ?c3 ?c4 ?c5; (case kA => exact rfl); (case kF => exact rfl); (case kK => exact hk); (case k6 => exact List.Mem.head _); (case k7 => exact codeRec_news N0 (by k_mem) dC1 dC2); (case k8 => exact (show dp < recursionLimit by omega)); (case k9 => exact rfl); (case c5 => decide); (case kB => exact locs rfl); (case c2 => exact rfl); (case c3 => exact rfl); (case c4 => exact rfl); k_whole; intro g' L2 h' FG' F' N' B' X' T'; (try dsimp only); (try k_lift B'); (try k_fold))
    have hC2 : CodeHd g' 57 53 := codeHd_of_K X' (by kernel_rfl)
    k_steps
    unfold Hold
    rename Fr g' L2 _ _ => kF7
    rename News g' L2 _ _ => kN7
    rw [List.push_toArray] at kN7
    rw [hsg]
    refine Claim.use (taken_claim w p loose mean mg mb _ text (Txt.mul ⟨#[c]⟩ i) t1 _ (okw_mul htl hc (by omega))) B' kF7 X' kN7 T' rfl (show dp + 1 + 3 < recursionLimit by omega) (show un + 3 + 20 < cLine by omega) ?_
    clear kF7 kN7
    rintro v led' h8 tk8 kF8 kN8 ⟨rfl, rfl⟩
    dsimp only
    rw [up_eq]
    cases hup : (List.replicate i c).isSublist text.cps.toList with
    | true =>
      k_steps
      unfold Hold
      refine leaveK_ kF8 kN8 ?_
      intro kF9 kN9
      exact hret _ _ _ _ kF9 kN9 ⟨_, n + 1, by rw [hup]; rfl, rfl⟩
    | false =>
      k_steps
      unfold Hold
      refine leaveK_ kF8 kN8 ?_
      intro kF9 kN9
      exact hret _ _ _ _ kF9 kN9 ⟨_, n + 1, by rw [hup]; rfl, rfl⟩
  case ret =>
    clear kF3 kN3
    rintro v led' h10 tk10 kF4 kN4 ⟨t4, vs4, n4, rfl, hI4, rfl⟩
    dsimp only
    k_steps
    unfold Hold
    rename Fr g' L' _ _ => kF5
    rename News g' L' _ _ => kN5
    refine Claim.use (astray_claim w p loose mean mg mb _ la vs4 n4 _ (List.Mem.tail _ (List.Mem.tail _ (List.Mem.head _))) hI4 0 10 _ _ (by omega) (by omega) (Nat.le_trans (asked_len _ 0 10) (by decide)) (not_astray _ _ _)) B' kF5 X' kN5 T' rfl (show dp + 1 + 3 < recursionLimit by omega) (show un + 3 + 80 < cLine by omega) ?_
    clear kF5 kN5
    rintro v led' h8 tk8 kF8 kN8 ⟨rfl, rfl⟩
    dsimp only
    rw [not_astray]
    k_steps
    unfold Hold
    refine leaveK_ kF8 kN8 ?_
    intro kF9 kN9
    dsimp only
    have hb := bs_count text.cps.toList c htl
    refine hret _ _ _ _ kF9 (kst_newsOf kN9 ?_) ⟨tk8 + 1, #[rawInt 79, rawInt 49, .ref c'], (c', oc) :: tail, ?_, rfl, .inr ⟨c', oc, vsC, tC, rfl, List.Mem.head _, dC1, dC2⟩, (Ext.refl _).cons ⟨_, _, _, dC1, dC2⟩⟩
    · intro q hq
      simp only [List.mem_cons] at hq ⊢
      rcases hq with h | h | h <;> simp [h]
    · rw [hb]
      congr 1
      omega
end Mine
end
section
namespace Mine
theorem off_A1 : True := by
  w_top off
  trivial
end Mine
open PySem PySem.W PyProof.Rows
namespace Mine
local macro_rules | `(tactic| k_all) => `(tactic| assumption)
local macro_rules | `(tactic| k_room) => `(tactic| ktr_room)
local macro_rules | `(tactic| walk_at "eval Lambda") => `(tactic| refine Hold.mk ?_)
local macro_rules | `(tactic| walk_at "call ref") => `(tactic| refine Hold.mk ?_)
local macro_rules | `(tactic| walk_at "LeaveK") => `(tactic| refine Hold.mk ?_)
local macro_rules | `(tactic| walk_at "exec For Name Call cons nil") => `(tactic| refine Hold.mk ?_)
def lowA (pl : Nat → Nat) (k : Nat) : Nat := if k = 0 then 0 else pl (k - 1)
theorem lowA_le {pl : Nat → Nat} {cnt k n : Nat} (h : ∀ k, k < cnt → pl k ≤ n) (hk : k < cnt) : lowA pl k ≤ n := by
  unfold lowA
  split
  · omega
  · exact h _ (by omega)
def JA (pl : Nat → Nat) (L' D lp : Addr) (ys : List Value) (yn : Nat) (oC oS oN oT : Obj) (tail : List (Addr × Obj)) (i : Nat) (m : Str → Option Value) (led : List (Addr × Obj)) : Prop :=
  ∃ (tlo : Tok) (pvs : List Value) (pn : Nat) (oK oA : Obj) (vK vA : Option Value) (ps : Array Value) (ex : List (Addr × Obj)),
    m (Str.ofString "low") = some (.int (lowA pl i : Nat) tlo) ∧ m (Str.ofString "places") = some (.ref lp) ∧ m (Str.ofString "tries") = some (.ref D) ∧
    led = (lp, listOf pvs.toArray pn) :: (D, listOf ys.toArray yn) :: (L' + 1 + 1 + 1 + 1 + 1 + 1, oK) :: (L' + 1 + 1 + 1 + 1 + 1, oA) :: (L' + 1 + 1 + 1 + 1, oC) :: (L' + 1 + 1 + 1, oS) :: (L' + 1 + 1, oN) :: (L' + 1, oT) :: (60, tabObj ps) :: ex ∧
    IntsAre pvs (natInts ((List.range i).map pl)) ∧ oK.data = .cell vK ∧ oA.data = .cell vA ∧ Ext tail ex ∧ TabSt 87 48 qual2 ps ex ∧
    (∀ q ∈ ex, q.1 ≠ 60) ∧ (∀ q ∈ ex, q.1 ≠ lp) ∧ (∀ q ∈ ex, q.1 ≠ L' + 1 + 1 + 1 + 1 + 1 + 1) ∧ (∀ q ∈ ex, q.1 ≠ L' + 1 + 1 + 1 + 1 + 1)
local macro_rules | `(tactic| walk_at "pyIter ref") => `(tactic| refine Hold.mk ?_)
local macro_rules | `(tactic| walk_at "call builtin:len") => `(tactic| (k_here; (with_reducible show wpAny _ _ (call (Value.builtin "len") [Value.ref _]) _ _ _); refine Hold.mk ?_))
local macro_rules | `(tactic| walk_at "binaryOp Add str str") => `(tactic| refine Hold.mk ?_)
set_option maxRecDepth 100000 in
set_option maxHeartbeats 2000000 in
theorem ahead_claim (w : World) (p : Program) (loose : List Str) (mean : ExcName → Option Value) (mg mb : Str → Option Value) (tail : List (Addr × Obj)) (hne : ∀ p ∈ tail, p.1 ≠ 60) (ps : Array Value) (hps : TabSt 87 48 qual2 ps tail) (text known sign : Str) (c cnt : Nat) (hsg : sign = ⟨#[c]⟩) (t1 t2 t3 t4 : Tok) (htl : text.length ≤ 8) (hkl : known.length ≤ 8) (hkc : ∀ c ∈ known.cps.toList, c ≠ 46) (hsl : sign.length = 1) (hc : c ≠ 46) (hcnt : cnt ≤ 8)
   (pl : Nat → Nat) (hpl : ∀ k, k < cnt → (bs (upA text.cps.toList known.cps.toList c cnt k) (lowA pl k) (known.length + 1)).1 = pl k + 1 ∧ pl k ≤ known.length) :
   Claim w p loose mean mg mb 30 200 65 ((60, tabObj ps) :: tail) [.str text t1, .str known t2, .str sign t3, .int cnt t4] [] (fun v led' => ∃ lp vsP nP ps' ex, v = .ref lp ∧ IntsAre vsP (natInts ((List.range cnt).map pl)) ∧ led' = (lp, listOf vsP.toArray nP) :: (60, tabObj ps') :: ex ∧ TabSt 87 48 qual2 ps' ex ∧ Ext tail ex) := by
  unfold Claim
  k_fill
  intro dp un gd cn cs a ccd cl outer A₀ base h₀ L m s Q E B F X N0 T hk hdp hun hret
  refine wpAny_call ?_
  k_dflt (refine' code_defC ?k1 ?k2 ?k3 ?k4 ?k5 ?kA ?kF ?kK ?k6 ?k7 ?k8 ?k9 ?kB ?kD ?_ ?c2 ?c3 ?c4; (case kA => exact rfl); (case kF => exact rfl); (case kK => assumption); (case k1 => k_asm); (case k2 => k_asm); (case k3 => k_asm); (case k4 => k_asm); (case k5 => k_asm); (case k6 => k_is); (case k7 => k_is); (case k8 => exact (show dp < recursionLimit by omega)); (case k9 => exact BindsTo.of_eq rfl); (case kB => exact rfl); (case kD => decide +kernel); (case c2 => exact rfl); (case c3 => exact rfl); (case c4 => exact rfl); k_whole; intro g' L' h' tk' cells' FG' F' N' Y' B' X' T' l1; (try k_lt l1); k_cells Y'; (try simp only [List.cons_append, List.nil_append] at N'); (try dsimp only); (try k_lift B'); (try k_fold))
  have hC : CodeHd g' 64 60 := codeHd_of_K X' (by kernel_rfl)
  have l2 := allLt_succ l1.2
  have l3 := allLt_succ l2
  have l4 := allLt_succ l3
  have l5 := allLt_succ l4
  have l6 := allLt_succ l5
  have l7 := allLt_succ l6
  k_steps
  unfold Hold
  refine wpAny_For ?_ (by intro _; rfl)
  k_steps
  unfold Hold
  rename_i oK oA oC oS oN oT dK dA dC dS dN dT hq1 tkq1 tq1 uq1 vq1 rq1 kq1 D ys yn hq2 tkq2 hI lD hq3 tkS lp hq4 lP hq5 hq6 fq1 nq1 hq7 tkq3 tq2 uq2 vq2 hR kF kN kq2
  clear fq1 nq1 kq2 kq1 rq1
  replace dC : oC.data = .cell (some (.int cnt t4)) := dC
  replace dS : oS.data = .cell (some (.str sign t3)) := dS
  replace dN : oN.data = .cell (some (.str known t2)) := dN
  replace dT : oT.data = .cell (some (.str text t1)) := dT
  replace hI : IntsAre ys (natInts (List.range (known.length + 1))) := by
    rw [← natInts_rangeKs]; have e : ((known.length : Int) + 1 - 0).toNat = known.length + 1 := by omega
    rw [e] at hI; exact hI
  refine for_range (JA pl L' D lp ys yn oC oS oN oT tail) hR (by omega) rfl kF kN ?j0 ?turn ?done ?pe
  case pe => passes_own
  case j0 =>
    have hx : AllLt lp tail := by tbn_find
    refine ⟨_, [], 0, oK, oA, _, _, ps, tail, rfl, rfl, rfl, rfl, IntsAre.nil, dK, dA, Ext.refl _, hps, hne, fun q hq => Nat.ne_of_lt (kst_ltOf hx q hq), fun q hq => Nat.ne_of_lt (kst_ltOf l7 q hq), fun q hq => Nat.ne_of_lt (kst_ltOf l6 q hq)⟩
  case done =>
    clear kF kN
    rintro m₁ led₁ h tk ⟨tlo, pvs, pn, oK', oA', vK, vA, ps', ex, m1, m2, m3, rfl, hpv, dK', dA', hsub, hps', x1, x2, x3, x4⟩ kF kN
    replace kF := fr3 kF m1 m2 m3
    dsimp only
    k_steps
    unfold Hold
    show LeaveK _ _ _ _ _ _ _
    refine leaveK_ kF kN ?_
    intro kF9 kN9
    dsimp only
    refine hret _ _ _ _ kF9 (kst_newsOf kN9 ?_) ⟨lp, pvs, pn, ps', ex, rfl, hpv, rfl, hps', hsub⟩
    intro q hq
    simp only [List.mem_cons] at hq ⊢
    rcases hq with h | h | h <;> simp [h]
  case turn =>
    clear kF kN
    rintro I i m₁ led₁ h tk t hi ⟨tlo, pvs, pn, oK', oA', vK, vA, ps', ex, m1, m2, m3, rfl, hpv, dK', dA', hsub, hps', x1, x2, x3, x4⟩ kF kN hIn
    replace kF := fr3 kF m1 m2 m3
    have i1 : @Ne Nat I lp := (hIn (lp, _) (List.Mem.head _)).symm
    have i2 : @Ne Nat I D := (hIn (D, _) (List.Mem.tail _ (List.Mem.head _))).symm
    have i3 : @Ne Nat I (L' + 1 + 1 + 1 + 1 + 1 + 1) := (hIn (L' + 1 + 1 + 1 + 1 + 1 + 1, oK') (by k_mem)).symm
    have i4 : @Ne Nat I (L' + 1 + 1 + 1 + 1 + 1) := (hIn (L' + 1 + 1 + 1 + 1 + 1, oA') (by k_mem)).symm
    have i5 : @Ne Nat I 60 := (hIn (60, tabObj ps') (by k_mem)).symm
    k_steps
    unfold Hold
    rename_i hx1 oK2 dK2 tkx la hx2 lla hx3 oA2 kF2 kN2 dA2
    have hlax : AllLt la ex := by tbn_find
    refine lam_both kF2 kN2 T' hC rfl (by k_updF) (hps'.mono (fun q hq => by simp [hq])) rfl rfl ?_
    intro f c' oc vsC tC ctv h9 tk9 kF3 kN3 dC1 dC2 lf
    dsimp only at kN3
    obtain ⟨fd, kN3, hfd⟩ := fd_of kN3
    have hfl : @LT.lt Nat _ la f := lf (la, listOf #[] 0) (by k_mem)
    have hcl : @Ne Nat c' la := news_ne kN3 (a := c') (b := la) (o1 := oc) (o2 := listOf #[] 0) (by k_mem) (by k_mem) (by rw [dC1]; simp)
    have htla : ∀ q ∈ ex, q.1 ≠ la := fun q hq => Nat.ne_of_lt (kst_ltOf hlax q hq)
    clear kF2 kN2
    k_steps
    unfold Hold
    refine Claim.use (bisR w p loose mean mg mb f D la fd ((c', oc) :: (I, rit (i + 1) cnt) :: (lp, listOf pvs.toArray pn) :: (L' + 1 + 1 + 1 + 1 + 1 + 1, oK2) :: (L' + 1 + 1 + 1 + 1 + 1, oA2) :: (L' + 1 + 1 + 1 + 1, oC) :: (L' + 1 + 1 + 1, oS) :: (L' + 1 + 1, oN) :: (L' + 1, oT) :: (60, tabObj #[rawInt 87, rawInt 48, .ref c']) :: ex) ys yn (known.length + 1) hI (upA text.cps.toList known.cps.toList c cnt i) ?hkey (lowA pl i) 0 _ _ (Nat.le_succ_of_le (lowA_le (fun k hk => (hpl k hk).2) hi)) (by omega)) B' kF3 X' (kst_newsOf kN3 ?sub) T' rfl (show dp + 1 + 10 < recursionLimit by omega) (show un + 3 + 60 < cLine by omega) ?ret
    case sub =>
      intro q hq
      simp only [List.mem_cons] at hq ⊢
      rcases hq with h | h | h | h | h | h | h | h | h | h | h | h | h | h <;> simp [h]
    case hkey =>
      subst hfd
      intro vs n j t hj hvl
      unfold Claim
      clear hret kF3 kN3 lf B F X N0 T hk hdp hun FG' B' X' T' hC
      intro dp un gd cn cs a ccd cl outer A₀ base h₀ L m s Q E B F X N0 T hk hdp hun hret
      refine wpAny_call ?_
      k_dflt (refine' kla_code B F X N0 T ?kA ?kF ?kK ?k6 ?k7 ?k8 ?k9 ?kB ?_ ?c2 ?c3 ?c4 ?c5; (case kA => exact rfl); (case kF => exact rfl); (case kK => exact hk); (case k6 => exact List.Mem.head _); (case k7 => exact codeRec_news N0 (by k_mem) dC1 dC2); (case k8 => exact (show dp < recursionLimit by omega)); (case k9 => exact rfl); (case c5 => decide); (case kB => exact locs rfl); (case c2 => exact rfl); (case c3 => exact rfl); (case c4 => exact rfl); k_whole; intro g' L2 h' FG' F' N' B' X' T'; (try dsimp only); (try k_lift B'); (try k_fold))
      have hC2 : CodeHd g' 57 53 := codeHd_of_K X' (by kernel_rfl)
      k_steps
      unfold Hold
      have hj' : j ≤ known.length := by omega
      have hsz := okwA (text := text) htl hkl hkc hc hcnt hj' (Nat.le_of_lt hi)
      rw [hsg]
      refine SB.add (fun tw kw => ?_) (by rw [← Str.length_append]; exact sizeLine_100 (Nat.le_trans hsz.2.1 (by decide)))
      k_steps
      unfold Hold
      rename Fr g' L2 _ _ => kF7
      rename News g' L2 _ _ => kN7
      rw [List.push_toArray] at kN7
      refine Claim.use (taken_claim w p loose mean mg mb _ text _ t1 _ hsz) B' kF7 X' kN7 T' rfl (show dp + 1 + 3 < recursionLimit by omega) (show un + 3 + 20 < cLine by omega) ?_
      clear kF7 kN7
      rintro v led' h8 tk8 kF8 kN8 ⟨rfl, rfl⟩
      dsimp only
      rw [upA_eq hj' (Nat.le_of_lt hi)]
      cases hup : upA text.cps.toList known.cps.toList c cnt i j with
      | true =>
        k_steps
        unfold Hold
        refine leaveK_ kF8 kN8 ?_
        intro kF9 kN9
        exact hret _ _ _ _ kF9 kN9 ⟨_, n + 1, by rw [hup]; rfl, rfl⟩
      | false =>
        k_steps
        unfold Hold
        refine leaveK_ kF8 kN8 ?_
        intro kF9 kN9
        exact hret _ _ _ _ kF9 kN9 ⟨_, n + 1, by rw [hup]; rfl, rfl⟩
    case ret =>
      clear kF3 kN3
      rintro v led' h10 tk10 kF4 kN4 ⟨t9, vs4, n4, rfl, hI4, rfl⟩
      dsimp only
      rw [(hpl i hi).1]
      k_steps
      unfold Hold
      refine kst_len (by k_asm) (by k_mem) (show ys.length = known.length + 1 by rw [hI.length]; simp [natInts]) (by omega) ?_
      k_steps
      unfold Hold
      rename Fr g' L' _ _ => kF5
      rename News g' L' _ _ => kN5
      have hlow := lowA_le (fun k hk => (hpl k hk).2) hi
      refine Claim.use (astray_claim w p loose mean mg mb _ la vs4 n4 _ (List.Mem.tail _ (List.Mem.tail _ (List.Mem.head _))) hI4 (lowA pl i) (known.length + 1) _ _ (by omega) (by omega) (Nat.le_trans (asked_len _ _ _) (Nat.le_trans (bitLen_le _) (by omega))) (not_astray _ _ _)) B' kF5 X' kN5 T' rfl (show dp + 1 + 3 < recursionLimit by omega) (show un + 3 + 80 < cLine by omega) ?_
      clear kF5 kN5
      rintro v led' h8 tk8 kF8 kN8 ⟨rfl, rfl⟩
      dsimp only
      rw [not_astray]
      have hpvl : pvs.length = i := by rw [hpv.length]; simp [natInts]
      have hpv8 : pvs.length ≤ 8 := by omega
      have hfp : @LT.lt Nat _ lp f := lf (lp, listOf pvs.toArray pn) (by k_mem)
      have hcp : @Ne Nat c' lp := news_ne kN8 (a := c') (b := lp) (o1 := oc) (o2 := listOf pvs.toArray pn) (by k_mem) (by k_mem) (by rw [dC1]; simp)
      have hcK : c' ≠ L' + 1 + 1 + 1 + 1 + 1 + 1 := news_ne kN8 (a := c') (o1 := oc) (o2 := oK2) (by k_mem) (by k_mem) (by rw [dC1, dK2]; simp)
      have hcA : c' ≠ L' + 1 + 1 + 1 + 1 + 1 := news_ne kN8 (a := c') (o1 := oc) (o2 := oA2) (by k_mem) (by k_mem) (by rw [dC1, dA2]; simp)
      have hcT : c' ≠ 60 := code_ne_tab kN8 (oc := oc) (by k_mem) (by k_mem) dC1 dC2
      have hcI : c' ≠ I := code_ne kN8 (o2 := oc) (o := rit (i + 1) cnt) (by k_mem) ⟨_, _, _, dC1, dC2⟩ (by k_mem) notCode_rit
      k_steps
      rename Fr g' L' _ _ => kF6
      rename News g' L' _ _ => kN6
      have e1 : (((pl i + 1 : Nat)) : Int) - 1 = ((pl i : Nat) : Int) := by omega
      rw [e1] at kF6 kN6
      rw [List.push_toArray] at kN6
      refine ⟨_, _, _, (lp, listOf (pvs ++ [Value.int (pl i : Nat) (tk8 + 1)]).toArray (pn + 1)) :: (D, listOf ys.toArray yn) :: (L' + 1 + 1 + 1 + 1 + 1 + 1, oK2) :: (L' + 1 + 1 + 1 + 1 + 1, oA2) :: (L' + 1 + 1 + 1 + 1, oC) :: (L' + 1 + 1 + 1, oS) :: (L' + 1 + 1, oN) :: (L' + 1, oT) :: (60, tabObj #[rawInt 87, rawInt 48, .ref c']) :: (c', oc) :: ex, rfl, kF6, kst_newsOf kN6 ?_, ?_, ?_⟩
      · intro q hq
        simp only [List.mem_cons] at hq ⊢
        rcases hq with h | h | h | h | h | h | h | h | h | h | h | h <;> simp [h]
      · intro q hq
        simp only [List.mem_cons] at hq
        rcases hq with h | h | h | h | h | h | h | h | h | h | h
        · rw [h]; exact i1.symm
        · rw [h]; exact i2.symm
        · rw [h]; exact i3.symm
        · rw [h]; exact i4.symm
        · rw [h]; exact hIn (L' + 1 + 1 + 1 + 1, oC) (by k_mem)
        · rw [h]; exact hIn (L' + 1 + 1 + 1, oS) (by k_mem)
        · rw [h]; exact hIn (L' + 1 + 1, oN) (by k_mem)
        · rw [h]; exact hIn (L' + 1, oT) (by k_mem)
        · rw [h]; exact i5.symm
        · rw [h]; exact hcI
        · exact hIn q (by simp [h])
      · refine ⟨tk8 + 1, _, pn + 1, oK2, oA2, _, _, _, (c', oc) :: ex, ?_, rfl, rfl, rfl, ?_, dK2, dA2, hsub.cons ⟨_, _, _, dC1, dC2⟩, .inr ⟨c', oc, vsC, tC, rfl, List.Mem.head _, dC1, dC2⟩, ?_, ?_, ?_, ?_⟩
        · simp [lowA]
        · rw [List.range_succ, List.map_append]
          unfold natInts
          rw [List.map_append]
          exact hpv.append (IntsAre.cons _ _ IntsAre.nil)
        · intro q hq; rcases List.mem_cons.mp hq with rfl | hq; exact hcT; exact x1 q hq
        · intro q hq; rcases List.mem_cons.mp hq with rfl | hq; exact hcp; exact x2 q hq
        · intro q hq; rcases List.mem_cons.mp hq with rfl | hq; exact hcK; exact x3 q hq
        · intro q hq; rcases List.mem_cons.mp hq with rfl | hq; exact hcA; exact x4 q hq
end Mine
end
section
namespace Mine
theorem off_A2 : True := by
  w_top off
  trivial
end Mine
open PySem PySem.W PyProof.Rows
namespace Mine
local macro_rules | `(tactic| k_all) => `(tactic| assumption)
local macro_rules | `(tactic| k_room) => `(tactic| ktr_room)
local macro_rules | `(tactic| walk_at "eval Lambda") => `(tactic| refine Hold.mk ?_)
local macro_rules | `(tactic| walk_at "call ref") => `(tactic| refine Hold.mk ?_)
local macro_rules | `(tactic| walk_at "LeaveK") => `(tactic| refine Hold.mk ?_)
local macro_rules | `(tactic| walk_at "exec For Name Call cons nil") => `(tactic| refine Hold.mk ?_)
def highB (M : Nat) (pl : Nat → Nat) (k : Nat) : Nat := if k = 0 then M else pl (k - 1) + 1
theorem highB_le {M : Nat} {pl : Nat → Nat} {cnt k : Nat} (h : ∀ k, k < cnt → pl k + 1 ≤ M) (hk : k < cnt) : highB M pl k ≤ M := by
  unfold highB
  split
  · omega
  · exact h _ (by omega)
def JB (M : Nat) (pl : Nat → Nat) (L' D lp : Addr) (ys : List Value) (yn : Nat) (oC oS oN oT : Obj) (tail : List (Addr × Obj)) (i : Nat) (m : Str → Option Value) (led : List (Addr × Obj)) : Prop :=
  ∃ (tlo : Tok) (pvs : List Value) (pn : Nat) (oK oA : Obj) (vK vA : Option Value) (ps : Array Value) (ex : List (Addr × Obj)),
    m (Str.ofString "high") = some (.int (highB M pl i : Nat) tlo) ∧ m (Str.ofString "places") = some (.ref lp) ∧ m (Str.ofString "tries") = some (.ref D) ∧
    led = (lp, listOf pvs.toArray pn) :: (D, listOf ys.toArray yn) :: (L' + 1 + 1 + 1 + 1 + 1 + 1, oK) :: (L' + 1 + 1 + 1 + 1 + 1, oA) :: (L' + 1 + 1 + 1 + 1, oC) :: (L' + 1 + 1 + 1, oS) :: (L' + 1 + 1, oN) :: (L' + 1, oT) :: (67, tabObj ps) :: ex ∧
    IntsAre pvs (natInts ((List.range i).map pl)) ∧ oK.data = .cell vK ∧ oA.data = .cell vA ∧ Ext tail ex ∧ TabSt 99 51 qual3 ps ex ∧
    (∀ q ∈ ex, q.1 ≠ 67) ∧ (∀ q ∈ ex, q.1 ≠ lp) ∧ (∀ q ∈ ex, q.1 ≠ L' + 1 + 1 + 1 + 1 + 1 + 1) ∧ (∀ q ∈ ex, q.1 ≠ L' + 1 + 1 + 1 + 1 + 1)
local macro_rules | `(tactic| walk_at "pyIter ref") => `(tactic| refine Hold.mk ?_)
local macro_rules | `(tactic| walk_at "call builtin:len") => `(tactic| (k_here; (with_reducible show wpAny _ _ (call (Value.builtin "len") [Value.ref _]) _ _ _); refine Hold.mk ?_))
local macro_rules | `(tactic| walk_at "binaryOp Add str str") => `(tactic| refine Hold.mk ?_)
local macro_rules | `(tactic| walk_at "subscriptTail Name Slice ref ref") => `(tactic| refine Hold.mk ?_)
set_option maxRecDepth 100000 in
set_option maxHeartbeats 2000000 in
theorem behind_claim (w : World) (p : Program) (loose : List Str) (mean : ExcName → Option Value) (mg mb : Str → Option Value) (tail : List (Addr × Obj)) (hne : ∀ p ∈ tail, p.1 ≠ 67) (ps : Array Value) (hps : TabSt 99 51 qual3 ps tail) (text known sign : Str) (c cnt : Nat) (hsg : sign = ⟨#[c]⟩) (t1 t2 t3 t4 : Tok) (htl : text.length ≤ 8) (hkl : known.length ≤ 8) (hkc : ∀ c ∈ known.cps.toList, c ≠ 46) (hsl : sign.length = 1) (hc : c ≠ 46) (hcnt : cnt ≤ 8)
   (pl : Nat → Nat) (hpl : ∀ k, k < cnt → (bs (upB text.cps.toList known.cps.toList c cnt k) 0 (highB (known.length + 1) pl k)).1 = pl k ∧ pl k + 1 ≤ known.length + 1) :
   Claim w p loose mean mg mb 30 200 72 ((67, tabObj ps) :: tail) [.str text t1, .str known t2, .str sign t3, .int cnt t4] [] (fun v led' => ∃ lp vsP nP ps' ex, v = .ref lp ∧ IntsAre vsP (natInts ((List.range cnt).map pl).reverse) ∧ led' = (lp, listOf vsP.toArray nP) :: (67, tabObj ps') :: ex ∧ TabSt 99 51 qual3 ps' ex ∧ Ext tail ex) := by
  unfold Claim
  k_fill
  intro dp un gd cn cs a ccd cl outer A₀ base h₀ L m s Q E B F X N0 T hk hdp hun hret
  refine wpAny_call ?_
  k_dflt (refine' code_defC ?k1 ?k2 ?k3 ?k4 ?k5 ?kA ?kF ?kK ?k6 ?k7 ?k8 ?k9 ?kB ?kD ?_ ?c2 ?c3 ?c4; (case kA => exact rfl); (case kF => exact rfl); (case kK => assumption); (case k1 => k_asm); (case k2 => k_asm); (case k3 => k_asm); (case k4 => k_asm); (case k5 => k_asm); (case k6 => k_is); (case k7 => k_is); (case k8 => exact (show dp < recursionLimit by omega)); (case k9 => exact BindsTo.of_eq rfl); (case kB => exact rfl); (case kD => decide +kernel); (case c2 => exact rfl); (case c3 => exact rfl); (case c4 => exact rfl); k_whole; intro g' L' h' tk' cells' FG' F' N' Y' B' X' T' l1; (try k_lt l1); k_cells Y'; (try simp only [List.cons_append, List.nil_append] at N'); (try dsimp only); (try k_lift B'); (try k_fold))
  have hC : CodeHd g' 71 67 := codeHd_of_K X' (by kernel_rfl)
  have l2 := allLt_succ l1.2
  have l3 := allLt_succ l2
  have l4 := allLt_succ l3
  have l5 := allLt_succ l4
  have l6 := allLt_succ l5
  have l7 := allLt_succ l6
  k_steps
  unfold Hold
  rename_i oK oA oC oS oN oT dK dA dC dS dN dT hq1 tkq1 tq1 uq1 vq1 rq1 kq1 D ys yn hq2 tkq2 hI lD hq3 tkS lp hq4 lP hq5 kF kN
  clear kq1 rq1
  replace dC : oC.data = .cell (some (.int cnt t4)) := dC
  replace dS : oS.data = .cell (some (.str sign t3)) := dS
  replace dN : oN.data = .cell (some (.str known t2)) := dN
  replace dT : oT.data = .cell (some (.str text t1)) := dT
  replace hI : IntsAre ys (natInts (List.range (known.length + 1))) := by
    rw [← natInts_rangeKs]; have e : ((known.length : Int) + 1 - 0).toNat = known.length + 1 := by omega
    rw [e] at hI; exact hI
  have hyl : ys.length = known.length + 1 := by rw [hI.length]; simp [natInts]
  refine kst_len kN (by k_mem) hyl (by omega) ?_
  k_steps
  unfold Hold
  refine wpAny_For ?_ (by intro _; rfl)
  k_steps
  unfold Hold
  rename_i hq6 fq1 nq1 hq7 tkq3 tq2 uq2 vq2 hR kF kN kq2
  clear fq1 nq1 kq2
  refine for_range (JB (known.length + 1) pl L' D lp ys yn oC oS oN oT tail) hR (by omega) rfl kF kN ?j0 ?turn ?done ?pe
  case pe => passes_own
  case j0 =>
    have hx : AllLt lp tail := by tbn_find
    refine ⟨_, [], 0, oK, oA, _, _, ps, tail, rfl, rfl, rfl, rfl, IntsAre.nil, dK, dA, Ext.refl _, hps, hne, fun q hq => Nat.ne_of_lt (kst_ltOf hx q hq), fun q hq => Nat.ne_of_lt (kst_ltOf l7 q hq), fun q hq => Nat.ne_of_lt (kst_ltOf l6 q hq)⟩
  case done =>
    clear kF kN
    rintro m₁ led₁ h tk ⟨tlo, pvs, pn, oK', oA', vK, vA, ps', ex, m1, m2, m3, rfl, hpv, dK', dA', hsub, hps', x1, x2, x3, x4⟩ kF kN
    replace kF := fr3 kF m1 m2 m3
    have hpvl : pvs.length = cnt := by rw [hpv.length]; simp [natInts]
    dsimp only
    k_steps
    unfold Hold
    k_dflt (refine' krv_ints kF kN (newsList kN (List.Mem.head _)) (IsPart.int _ _) hpv ?_ ?s ?t ?z; (case s => with_unfolding_all rfl); (case t => kmk_pure); (case z => (rw [List.size_toArray, hpvl]; exact sizeLine_100 (by omega))))
    clear kF kN
    intro lr ws h8 kF kN lr1 hws hws2
    k_steps
    unfold Hold
    show LeaveK _ _ _ _ _ _ _
    refine leaveK_ kF kN ?_
    intro kF9 kN9
    dsimp only
    refine hret _ _ _ _ kF9 (kst_newsOf kN9 ?_) ⟨lr, ws, 0, ps', ex, rfl, ?_, rfl, hps', hsub⟩
    · intro q hq
      simp only [List.mem_cons] at hq ⊢
      rcases hq with h | h | h <;> simp [h]
    · have e : natInts ((List.range cnt).map pl).reverse = (natInts ((List.range cnt).map pl)).reverse := by simp [natInts]
      rw [e]; exact hws
  case turn =>
    clear kF kN
    rintro I i m₁ led₁ h tk t hi ⟨tlo, pvs, pn, oK', oA', vK, vA, ps', ex, m1, m2, m3, rfl, hpv, dK', dA', hsub, hps', x1, x2, x3, x4⟩ kF kN hIn
    replace kF := fr3 kF m1 m2 m3
    have i1 : @Ne Nat I lp := (hIn (lp, _) (List.Mem.head _)).symm
    have i2 : @Ne Nat I D := (hIn (D, _) (List.Mem.tail _ (List.Mem.head _))).symm
    have i3 : @Ne Nat I (L' + 1 + 1 + 1 + 1 + 1 + 1) := (hIn (L' + 1 + 1 + 1 + 1 + 1 + 1, oK') (by k_mem)).symm
    have i4 : @Ne Nat I (L' + 1 + 1 + 1 + 1 + 1) := (hIn (L' + 1 + 1 + 1 + 1 + 1, oA') (by k_mem)).symm
    have i5 : @Ne Nat I 67 := (hIn (67, tabObj ps') (by k_mem)).symm
    k_steps
    unfold Hold
    rename_i hx1 oK2 dK2 tkx la hx2 lla hx3 oA2 kF2 kN2 dA2
    have hlax : AllLt la ex := by tbn_find
    refine lam_both kF2 kN2 T' hC rfl (by k_updF) (hps'.mono (fun q hq => by simp [hq])) rfl rfl ?_
    intro f c' oc vsC tC ctv h9 tk9 kF3 kN3 dC1 dC2 lf
    dsimp only at kN3
    obtain ⟨fd, kN3, hfd⟩ := fd_of kN3
    have hfl : @LT.lt Nat _ la f := lf (la, listOf #[] 0) (by k_mem)
    have hcl : @Ne Nat c' la := news_ne kN3 (a := c') (b := la) (o1 := oc) (o2 := listOf #[] 0) (by k_mem) (by k_mem) (by rw [dC1]; simp)
    have htla : ∀ q ∈ ex, q.1 ≠ la := fun q hq => Nat.ne_of_lt (kst_ltOf hlax q hq)
    clear kF2 kN2
    k_steps
    unfold Hold
    refine Claim.use (bisL w p loose mean mg mb f D la fd ((c', oc) :: (I, rit (i + 1) cnt) :: (lp, listOf pvs.toArray pn) :: (L' + 1 + 1 + 1 + 1 + 1 + 1, oK2) :: (L' + 1 + 1 + 1 + 1 + 1, oA2) :: (L' + 1 + 1 + 1 + 1, oC) :: (L' + 1 + 1 + 1, oS) :: (L' + 1 + 1, oN) :: (L' + 1, oT) :: (67, tabObj #[rawInt 99, rawInt 51, .ref c']) :: ex) ys yn (known.length + 1) hI (upB text.cps.toList known.cps.toList c cnt i) ?hkey (highB (known.length + 1) pl i) 0 _ _ _ (highB_le (fun k hk => (hpl k hk).2) hi) (by omega)) B' kF3 X' (kst_newsOf kN3 ?sub) T' rfl (show dp + 1 + 10 < recursionLimit by omega) (show un + 3 + 60 < cLine by omega) ?ret
    case sub =>
      intro q hq
      simp only [List.mem_cons] at hq ⊢
      rcases hq with h | h | h | h | h | h | h | h | h | h | h | h | h | h <;> simp [h]
    case hkey =>
      subst hfd
      intro vs n j t hj hvl
      unfold Claim
      clear hret kF3 kN3 lf B F X N0 T hk hdp hun FG' B' X' T' hC
      intro dp un gd cn cs a ccd cl outer A₀ base h₀ L m s Q E B F X N0 T hk hdp hun hret
      refine wpAny_call ?_
      k_dflt (refine' kla_code B F X N0 T ?kA ?kF ?kK ?k6 ?k7 ?k8 ?k9 ?kB ?_ ?c2 ?c3 ?c4 ?c5; (case kA => exact rfl); (case kF => exact rfl); (case kK => exact hk); (case k6 => exact List.Mem.head _); (case k7 => exact codeRec_news N0 (by k_mem) dC1 dC2); (case k8 => exact (show dp < recursionLimit by omega)); (case k9 => exact rfl); (case c5 => decide); (case kB => exact locs rfl); (case c2 => exact rfl); (case c3 => exact rfl); (case c4 => exact rfl); k_whole; intro g' L2 h' FG' F' N' B' X' T'; (try dsimp only); (try k_lift B'); (try k_fold))
      have hC2 : CodeHd g' 57 53 := codeHd_of_K X' (by kernel_rfl)
      k_steps
      unfold Hold
      have hj' : j ≤ known.length := by omega
      have hsz := okwB (text := text) htl hkl hkc hc hcnt hj' (Nat.le_of_lt hi)
      rw [hsg]
      refine SB.add (fun tw kw => ?_) (by rw [← Str.length_append]; exact sizeLine_100 (Nat.le_trans hsz.2.1 (by decide)))
      k_steps
      unfold Hold
      rename Fr g' L2 _ _ => kF7
      rename News g' L2 _ _ => kN7
      rw [List.push_toArray] at kN7
      refine Claim.use (taken_claim w p loose mean mg mb _ text _ t1 _ hsz) B' kF7 X' kN7 T' rfl (show dp + 1 + 3 < recursionLimit by omega) (show un + 3 + 20 < cLine by omega) ?_
      clear kF7 kN7
      rintro v led' h8 tk8 kF8 kN8 ⟨rfl, rfl⟩
      dsimp only
      rw [upB_eq hj' (Nat.le_of_lt hi)]
      cases hup : upB text.cps.toList known.cps.toList c cnt i j with
      | true =>
        k_steps
        unfold Hold
        refine leaveK_ kF8 kN8 ?_
        intro kF9 kN9
        exact hret _ _ _ _ kF9 kN9 ⟨_, n + 1, by rw [hup]; rfl, rfl⟩
      | false =>
        k_steps
        unfold Hold
        refine leaveK_ kF8 kN8 ?_
        intro kF9 kN9
        exact hret _ _ _ _ kF9 kN9 ⟨_, n + 1, by rw [hup]; rfl, rfl⟩
    case ret =>
      clear kF3 kN3
      rintro v led' h10 tk10 kF4 kN4 ⟨t9, vs4, n4, rfl, hI4, rfl⟩
      dsimp only
      rw [(hpl i hi).1]
      k_steps
      unfold Hold
      rename Fr g' L' _ _ => kF5
      rename News g' L' _ _ => kN5
      have hlow := highB_le (fun k hk => (hpl k hk).2) hi
      refine Claim.use (astray_claim w p loose mean mg mb _ la vs4 n4 _ (List.Mem.tail _ (List.Mem.tail _ (List.Mem.head _))) hI4 0 (highB (known.length + 1) pl i) _ _ (by omega) (by omega) (Nat.le_trans (asked_len _ _ _) (Nat.le_trans (bitLen_le _) (by omega))) (not_astray _ _ _)) B' kF5 X' kN5 T' rfl (show dp + 1 + 3 < recursionLimit by omega) (show un + 3 + 80 < cLine by omega) ?_
      clear kF5 kN5
      rintro v led' h8 tk8 kF8 kN8 ⟨rfl, rfl⟩
      dsimp only
      rw [not_astray]
      have hpvl : pvs.length = i := by rw [hpv.length]; simp [natInts]
      have hpv8 : pvs.length ≤ 8 := by omega
      have hfp : @LT.lt Nat _ lp f := lf (lp, listOf pvs.toArray pn) (by k_mem)
      have hcp : @Ne Nat c' lp := news_ne kN8 (a := c') (b := lp) (o1 := oc) (o2 := listOf pvs.toArray pn) (by k_mem) (by k_mem) (by rw [dC1]; simp)
      have hcK : c' ≠ L' + 1 + 1 + 1 + 1 + 1 + 1 := news_ne kN8 (a := c') (o1 := oc) (o2 := oK2) (by k_mem) (by k_mem) (by rw [dC1, dK2]; simp)
      have hcA : c' ≠ L' + 1 + 1 + 1 + 1 + 1 := news_ne kN8 (a := c') (o1 := oc) (o2 := oA2) (by k_mem) (by k_mem) (by rw [dC1, dA2]; simp)
      have hcT : c' ≠ 67 := code_ne_tab kN8 (oc := oc) (by k_mem) (by k_mem) dC1 dC2
      have hcI : c' ≠ I := code_ne kN8 (o2 := oc) (o := rit (i + 1) cnt) (by k_mem) ⟨_, _, _, dC1, dC2⟩ (by k_mem) notCode_rit
      k_steps
      rename Fr g' L' _ _ => kF6
      rename News g' L' _ _ => kN6
      have e1 : ((pl i : Nat) : Int) + 1 = (((pl i + 1 : Nat)) : Int) := by omega
      rw [e1] at kF6
      rw [List.push_toArray] at kN6
      refine ⟨_, _, _, (lp, listOf (pvs ++ [Value.int (pl i : Nat) t9]).toArray (pn + 1)) :: (D, listOf ys.toArray yn) :: (L' + 1 + 1 + 1 + 1 + 1 + 1, oK2) :: (L' + 1 + 1 + 1 + 1 + 1, oA2) :: (L' + 1 + 1 + 1 + 1, oC) :: (L' + 1 + 1 + 1, oS) :: (L' + 1 + 1, oN) :: (L' + 1, oT) :: (67, tabObj #[rawInt 99, rawInt 51, .ref c']) :: (c', oc) :: ex, rfl, kF6, kst_newsOf kN6 ?_, ?_, ?_⟩
      · intro q hq
        simp only [List.mem_cons] at hq ⊢
        rcases hq with h | h | h | h | h | h | h | h | h | h | h | h <;> simp [h]
      · intro q hq
        simp only [List.mem_cons] at hq
        rcases hq with h | h | h | h | h | h | h | h | h | h | h
        · rw [h]; exact i1.symm
        · rw [h]; exact i2.symm
        · rw [h]; exact i3.symm
        · rw [h]; exact i4.symm
        · rw [h]; exact hIn (L' + 1 + 1 + 1 + 1, oC) (by k_mem)
        · rw [h]; exact hIn (L' + 1 + 1 + 1, oS) (by k_mem)
        · rw [h]; exact hIn (L' + 1 + 1, oN) (by k_mem)
        · rw [h]; exact hIn (L' + 1, oT) (by k_mem)
        · rw [h]; exact i5.symm
        · rw [h]; exact hcI
        · exact hIn q (by simp [h])
      · refine ⟨tk8 + 1, _, pn + 1, oK2, oA2, _, _, _, (c', oc) :: ex, ?_, rfl, rfl, rfl, ?_, dK2, dA2, hsub.cons ⟨_, _, _, dC1, dC2⟩, .inr ⟨c', oc, vsC, tC, rfl, List.Mem.head _, dC1, dC2⟩, ?_, ?_, ?_, ?_⟩
        · simp [highB]
        · rw [List.range_succ, List.map_append]
          unfold natInts
          rw [List.map_append]
          exact hpv.append (IntsAre.cons _ _ IntsAre.nil)
        · intro q hq; rcases List.mem_cons.mp hq with rfl | hq; exact hcT; exact x1 q hq
        · intro q hq; rcases List.mem_cons.mp hq with rfl | hq; exact hcp; exact x2 q hq
        · intro q hq; rcases List.mem_cons.mp hq with rfl | hq; exact hcK; exact x3 q hq
        · intro q hq; rcases List.mem_cons.mp hq with rfl | hq; exact hcA; exact x4 q hq
end Mine
end
section
open PySem PySem.W PyProof.Rows PySem.Calls PySem.Spec
namespace Mine
def put (a : Addr) (o : Obj) (led : List (Addr × Obj)) : List (Addr × Obj) := (a, o) :: led.filter (fun q => !(q.1 == a))
def off (a : Addr) (led : List (Addr × Obj)) : List (Addr × Obj) := led.filter (fun q => !(q.1 == a))
theorem off_ne {a : Addr} {led : List (Addr × Obj)} : ∀ q ∈ off a led, q.1 ≠ a := by
  intro q hq
  have := (List.mem_filter.mp hq).2
  simpa using this
theorem off_sub {a : Addr} {led : List (Addr × Obj)} : ∀ q ∈ off a led, q ∈ led := fun q hq => (List.mem_filter.mp hq).1
theorem mem_off {a b : Addr} {o : Obj} {led : List (Addr × Obj)} (h : (b, o) ∈ led) (hne : b ≠ a) : (b, o) ∈ off a led := List.mem_filter.mpr ⟨h, by simpa using hne⟩
theorem off_news {h₀ h : Heap} {L a : Addr} {o : Obj} {led : List (Addr × Obj)} (N : News h₀ L h led) (hm : (a, o) ∈ led) : News h₀ L h ((a, o) :: off a led) := by
  intro q hq
  rcases List.mem_cons.mp hq with rfl | hq
  · exact N _ hm
  · exact N q (off_sub q hq)
theorem TabSt.off {h₀ h : Heap} {L a : Addr} {o : Obj} {line col : Int} {qual : Str} {ps : Array Value} {led : List (Addr × Obj)} (N : News h₀ L h led) (hm : (a, o) ∈ led) (hno : ¬ IsCode o) (h : TabSt line col qual ps led) : TabSt line col qual ps (off a led) := by
  rcases h with h | ⟨c0, oc0, vs0, t0, h1, h2, h3, h4⟩
  · exact .inl h
  · exact .inr ⟨c0, oc0, vs0, t0, h1, mem_off h2 (code_ne N h2 ⟨vs0, t0, qual, h3, h4⟩ hm hno), h3, h4⟩
abbrev sit (x : Str) (t : Tok) (o : Obj) (i : Nat) : Prop := o.cls = .type "str_ascii_iterator" ∧ o.data = .fields #[.str x t, .int i 0]
theorem notCode_sit {x : Str} {t : Tok} {o : Obj} {i : Nat} (h : sit x t o i) : ¬ IsCode o := by
  rintro ⟨vs, u, q, h1, h2⟩
  rw [h.2] at h1
  have e : #[Value.str x t, Value.int (i : Int) 0] = vs := by injection h1
  subst e
  simp at h2
section
variable {prog : Program} {w : World} {A : Around} {E : Value → Shared → Prop} {Q : Flow → Shared → Prop} {s : Shared} {env : Env} {h₀ : Heap} {L r : Addr} {m : Str → Option Value} {led : List (Addr × Obj)} {x y : Str} {px : Pos} {body : List Stmt} {t : Tok}
theorem for_str (J : Nat → (Str → Option Value) → List (Addr × Obj) → Prop) (ha : y.cps.all (· < 128) = true) (hh : A.handled = none) (F : Fr h₀ L s.heap m) (N : News h₀ L s.heap led) (hj : J 0 m led)
    (turn : ∀ I oI i c m₁ led₁ h tk u, y.cps[i]? = some c → sit y t oI (i + 1) → J i m₁ led₁ → Fr h₀ L h m₁ → News h₀ L h ((I, oI) :: led₁) → (∀ q ∈ led₁, q.1 ≠ I) →
      wpAny (model prog w) A (storeName env x (.str ⟨#[c]⟩ u)) (fun _ s₂ => wpAny (model prog w) A (execs body env) (FrPost h₀ L I oI (J (i + 1)) s Q) E s₂) E { s with heap := h, toks := tk })
    (done : ∀ m₁ led₁ h tk, J y.cps.size m₁ led₁ → Fr h₀ L h m₁ → News h₀ L h led₁ → Q .next { s with heap := h, toks := tk })
    (hE : PassesOwn (model prog w) A env E) :
    wpAny (model prog w) A (pyIter (.str y t)) (fun it s₂ => codeAny (model prog w) A (.forLoop (.Name x px) it body [] env) (fun r s' => match r with | .ok f => Q f s' | .error e => cameBackBy (model prog w) A env E e s') s₂) E s := by
  refine wpAny_pyIter_ascii ha ?_
  refine codeAny_forLoop
    (fun k s' => ∃ h' tk m' led' i, s' = { s with heap := h', toks := tk } ∧ h'.IsStrIter s.heap.objs.size "str_ascii_iterator" y t i ∧ Fr h₀ L h' m' ∧ News h₀ L h' led' ∧ (∀ q ∈ led', q.1 ≠ s.heap.objs.size) ∧ J i m' led' ∧ i ≤ y.cps.size ∧ k = y.cps.size + 1 - i) ?_ (y.cps.size + 1)
    ⟨_, _, m, led, 0, rfl, ⟨_, Heap.get?_push_size _ rfl, rfl, rfl⟩, F.push _, (fun p hp => ⟨Heap.get?_push_of_some _ (N p hp).1, (N p hp).2⟩), (fun q hq => Nat.ne_of_lt (Heap.lt_size (N q hq).1)), hj, Nat.zero_le _, rfl⟩
  rintro k s' ⟨h', tk, m', led', i, rfl, hst, F', N', hne, hJ, hi, rfl⟩
  have hIL : s.heap.objs.size ≠ L := Nat.ne_of_gt F.ns.lt
  have hI0 : h₀.get? s.heap.objs.size = none := next_is_new F
  have W := Walks.strAscii (prog := prog) (w := w) hh s.heap.objs.size y t
  have keep : ∀ h₁ : Heap, (∀ b o, b ∉ [s.heap.objs.size] → h'.get? b = some o → h₁.get? b = some o) → Fr h₀ L h₁ m' ∧ News h₀ L h₁ led' := fun h₁ hk₁ =>
    ⟨⟨F'.ns.at' fun o e => hk₁ _ o (by simp [hIL.symm]) e, fun b o e => hk₁ b o (by intro hb; rw [List.mem_singleton.mp hb, hI0] at e; cases e) (F'.keep b o e), F'.above⟩, fun p hp => ⟨hk₁ _ _ (by simp [hne p hp]) (N' p hp).1, (N' p hp).2⟩⟩
  by_cases hlt : i < y.cps.size
  · refine W.item i _ _ _ hlt hst fun v h₁ tk₁ hP hst₁ hk₁ => ?_
    obtain ⟨c, u, hc, rfl⟩ := hP
    obtain ⟨F₁, N₁⟩ := keep h₁ hk₁
    obtain ⟨oI, ho, hs1, hs2⟩ := hst₁
    refine wpAny_assign_Name (wpAny_passesOwn hE (wpAny_mono (turn s.heap.objs.size oI i c m' led' h₁ tk₁ u hc ⟨hs1, hs2⟩ hJ F₁ ?_ hne) (fun _ s₂ h₂ => wpAny_passesOwn hE (wpAny_mono h₂ (fun f s₃ h₃ => ?_) fun _ _ e => e)) fun _ _ e => e))
    · intro p hp
      rcases List.mem_cons.mp hp with rfl | hp
      · exact ⟨ho, hIL, hI0⟩
      · exact N₁ p hp
    · cases f with
      | ret v => exact h₃
      | brk => exact h₃
      | next =>
        obtain ⟨h4, tk4, m4, led4, rfl, F4, N4, ne4, J4⟩ := h₃
        exact ⟨y.cps.size + 1 - (i + 1), by omega, h4, tk4, m4, led4, i + 1, rfl, ⟨oI, (N4 _ (.head _)).1, hs1, hs2⟩, F4, fun p hp => N4 p (.tail _ hp), ne4, J4, hlt, rfl⟩
      | cont =>
        obtain ⟨h4, tk4, m4, led4, rfl, F4, N4, ne4, J4⟩ := h₃
        exact ⟨y.cps.size + 1 - (i + 1), by omega, h4, tk4, m4, led4, i + 1, rfl, ⟨oI, (N4 _ (.head _)).1, hs1, hs2⟩, F4, fun p hp => N4 p (.tail _ hp), ne4, J4, hlt, rfl⟩
  · have hin : i = y.cps.size := by omega
    subst hin
    refine W.done _ _ _ hst fun h₁ tk₁ hk₁ => wpAny_execs_nil ?_
    obtain ⟨F₁, N₁⟩ := keep h₁ hk₁
    exact done m' led' h₁ tk₁ hJ F₁ N₁
end
end Mine
end
section
open PySem PySem.W PyProof.Rows PySem.Calls PySem.Spec
namespace Mine
def Keep (a : Addr) (led led' : List (Addr × Obj)) : Prop := ∀ b o, (b, o) ∈ led → b ≠ a → (b, o) ∈ led'
theorem Keep.tab {h₀ h : Heap} {L a : Addr} {o : Obj} {line col : Int} {qual : Str} {ps : Array Value} {led led' : List (Addr × Obj)} (k : Keep a led led') (N : News h₀ L h led) (hm : (a, o) ∈ led) (hno : ¬ IsCode o) (h : TabSt line col qual ps led) : TabSt line col qual ps led' := by
  rcases h with h | ⟨c0, oc0, vs0, t0, h1, h2, h3, h4⟩
  · exact .inl h
  · exact .inr ⟨c0, oc0, vs0, t0, h1, k _ _ h2 (code_ne N h2 ⟨vs0, t0, qual, h3, h4⟩ hm hno), h3, h4⟩
theorem keep_off {a : Addr} {o : Obj} {led ex : List (Addr × Obj)} (h : Ext (off a led) ex) : Keep a led ((a, o) :: ex) := fun b ob hb hne => .tail _ (h.1 _ (mem_off hb hne))
structure LS (L I : Addr) (oI oP oS oK : Obj) (p67 p60 p53 : Array Value) (led : List (Addr × Obj)) : Prop where
  i : (I, oI) ∈ led
  p : (L + 1 + 1 + 1, oP) ∈ led
  s : (L + 1 + 1, oS) ∈ led
  k : (L + 1, oK) ∈ led
  t67 : (67, tabObj p67) ∈ led
  t60 : (60, tabObj p60) ∈ led
  t53 : (53, tabObj p53) ∈ led
  s67 : TabSt 99 51 qual3 p67 led
  s60 : TabSt 87 48 qual2 p60 led
  s53 : TabSt 79 49 qual1 p53 led
structure LN (L I : Addr) : Prop where
  hL : @LT.lt Nat _ 67 L
  ip : @Ne Nat I (L + 1 + 1 + 1)
  is : @Ne Nat I (L + 1 + 1)
  ik : @Ne Nat I (L + 1)
  i67 : @Ne Nat I 67
  i60 : @Ne Nat I 60
  i53 : @Ne Nat I 53
section
variable {h₀ h : Heap} {L L₀ I : Addr} {oI oP oS oK : Obj} {p67 p60 p53 : Array Value} {led led' : List (Addr × Obj)}
theorem LS.mono (x : LS L I oI oP oS oK p67 p60 p53 led) (hs : ∀ q ∈ led, q ∈ led') : LS L I oI oP oS oK p67 p60 p53 led' :=
  ⟨hs _ x.i, hs _ x.p, hs _ x.s, hs _ x.k, hs _ x.t67, hs _ x.t60, hs _ x.t53, x.s67.mono hs, x.s60.mono hs, x.s53.mono hs⟩
theorem LS.setS (x : LS L I oI oP oS oK p67 p60 p53 led) (n : LN L I) (N : News h₀ L₀ h led) {oS' : Obj} {v : Option Value} (hd : oS.data = .cell v) (k : Keep (L + 1 + 1) led led') (hm : (L + 1 + 1, oS') ∈ led') : LS L I oI oP oS' oK p67 p60 p53 led' :=
  have hL := n.hL
  ⟨k _ _ x.i n.is, k _ _ x.p (show @Ne Nat _ _ by omega), hm, k _ _ x.k (show @Ne Nat _ _ by omega), k _ _ x.t67 (show @Ne Nat _ _ by omega), k _ _ x.t60 (show @Ne Nat _ _ by omega), k _ _ x.t53 (show @Ne Nat _ _ by omega), k.tab N x.s (notCode_cell hd) x.s67, k.tab N x.s (notCode_cell hd) x.s60, k.tab N x.s (notCode_cell hd) x.s53⟩
theorem LS.setP (x : LS L I oI oP oS oK p67 p60 p53 led) (n : LN L I) (N : News h₀ L₀ h led) {oP' : Obj} {v : Option Value} (hd : oP.data = .cell v) (k : Keep (L + 1 + 1 + 1) led led') (hm : (L + 1 + 1 + 1, oP') ∈ led') : LS L I oI oP' oS oK p67 p60 p53 led' :=
  have hL := n.hL
  ⟨k _ _ x.i n.ip, hm, k _ _ x.s (show @Ne Nat _ _ by omega), k _ _ x.k (show @Ne Nat _ _ by omega), k _ _ x.t67 (show @Ne Nat _ _ by omega), k _ _ x.t60 (show @Ne Nat _ _ by omega), k _ _ x.t53 (show @Ne Nat _ _ by omega), k.tab N x.p (notCode_cell hd) x.s67, k.tab N x.p (notCode_cell hd) x.s60, k.tab N x.p (notCode_cell hd) x.s53⟩
theorem LS.setK (x : LS L I oI oP oS oK p67 p60 p53 led) (n : LN L I) (N : News h₀ L₀ h led) {oK' : Obj} {v : Option Value} (hd : oK.data = .cell v) (k : Keep (L + 1) led led') (hm : (L + 1, oK') ∈ led') : LS L I oI oP oS oK' p67 p60 p53 led' :=
  have hL := n.hL
  ⟨k _ _ x.i n.ik, k _ _ x.p (show @Ne Nat _ _ by omega), k _ _ x.s (show @Ne Nat _ _ by omega), hm, k _ _ x.t67 (show @Ne Nat _ _ by omega), k _ _ x.t60 (show @Ne Nat _ _ by omega), k _ _ x.t53 (show @Ne Nat _ _ by omega), k.tab N x.k (notCode_cell hd) x.s67, k.tab N x.k (notCode_cell hd) x.s60, k.tab N x.k (notCode_cell hd) x.s53⟩
theorem LS.set53 (x : LS L I oI oP oS oK p67 p60 p53 led) (n : LN L I) (N : News h₀ L₀ h led) {ps : Array Value} (k : Keep 53 led led') (hm : (53, tabObj ps) ∈ led') (ht : TabSt 79 49 qual1 ps led') : LS L I oI oP oS oK p67 p60 ps led' :=
  have hL := n.hL
  ⟨k _ _ x.i n.i53, k _ _ x.p (show @Ne Nat _ _ by omega), k _ _ x.s (show @Ne Nat _ _ by omega), k _ _ x.k (show @Ne Nat _ _ by omega), k _ _ x.t67 (show @Ne Nat _ _ by omega), k _ _ x.t60 (show @Ne Nat _ _ by omega), hm, k.tab N x.t53 (notCode_tab x.s53) x.s67, k.tab N x.t53 (notCode_tab x.s53) x.s60, ht⟩
theorem LS.set60 (x : LS L I oI oP oS oK p67 p60 p53 led) (n : LN L I) (N : News h₀ L₀ h led) {ps : Array Value} (k : Keep 60 led led') (hm : (60, tabObj ps) ∈ led') (ht : TabSt 87 48 qual2 ps led') : LS L I oI oP oS oK p67 ps p53 led' :=
  have hL := n.hL
  ⟨k _ _ x.i n.i60, k _ _ x.p (show @Ne Nat _ _ by omega), k _ _ x.s (show @Ne Nat _ _ by omega), k _ _ x.k (show @Ne Nat _ _ by omega), k _ _ x.t67 (show @Ne Nat _ _ by omega), hm, k _ _ x.t53 (show @Ne Nat _ _ by omega), k.tab N x.t60 (notCode_tab x.s60) x.s67, ht, k.tab N x.t60 (notCode_tab x.s60) x.s53⟩
theorem LS.set67 (x : LS L I oI oP oS oK p67 p60 p53 led) (n : LN L I) (N : News h₀ L₀ h led) {ps : Array Value} (k : Keep 67 led led') (hm : (67, tabObj ps) ∈ led') (ht : TabSt 99 51 qual3 ps led') : LS L I oI oP oS oK ps p60 p53 led' :=
  have hL := n.hL
  ⟨k _ _ x.i n.i67, k _ _ x.p (show @Ne Nat _ _ by omega), k _ _ x.s (show @Ne Nat _ _ by omega), k _ _ x.k (show @Ne Nat _ _ by omega), hm, k _ _ x.t60 (show @Ne Nat _ _ by omega), k _ _ x.t53 (show @Ne Nat _ _ by omega), ht, k.tab N x.t67 (notCode_tab x.s67) x.s60, k.tab N x.t67 (notCode_tab x.s67) x.s53⟩
end
theorem LN.of {L I : Addr} {oI oP oS oK : Obj} {p67 p60 p53 : Array Value} {led : List (Addr × Obj)} (hL : @LT.lt Nat _ 67 L) (x : LS L 0 oI oP oS oK p67 p60 p53 ((0, oI) :: led)) (hIn : ∀ q ∈ led, q.1 ≠ I) : LN L I := by
  have key : ∀ (b : Nat) (o : Obj), (b, o) ∈ (0, oI) :: led → b ≠ 0 → @Ne Nat I b := by
    intro b o hb h0
    rcases List.mem_cons.mp hb with h | h
    · exact absurd (congrArg Prod.fst h) h0
    · exact (hIn _ h).symm
  exact ⟨hL, key _ _ x.p (by omega), key _ _ x.s (by omega), key _ _ x.k (by omega), key _ _ x.t67 (by omega), key _ _ x.t60 (by omega), key _ _ x.t53 (by omega)⟩
theorem LS.at0 {L : Addr} {oI oP oS oK : Obj} {p67 p60 p53 : Array Value} {led : List (Addr × Obj)} (x : LS L 0 oI oP oS oK p67 p60 p53 ((0, oI) :: led)) : (L + 1, oK) ∈ led ∧ (67, tabObj p67) ∈ led ∧ (60, tabObj p60) ∈ led ∧ (53, tabObj p53) ∈ led := by
  have key : ∀ (b : Nat) (o : Obj), (b, o) ∈ (0, oI) :: led → b ≠ 0 → (b, o) ∈ led := by
    intro b o hb h0
    rcases List.mem_cons.mp hb with h | h
    · exact absurd (congrArg Prod.fst h) h0
    · exact h
  exact ⟨key _ _ x.k (by omega), key _ _ x.t67 (by omega), key _ _ x.t60 (by omega), key _ _ x.t53 (by omega)⟩
theorem LS.close {h₀ h : Heap} {L L₀ I : Addr} {oI oP oS oK : Obj} {p67 p60 p53 : Array Value} {led : List (Addr × Obj)} (x : LS L I oI oP oS oK p67 p60 p53 led) (n : LN L I) (N : News h₀ L₀ h led) (hno : ¬ IsCode oI) :
    ∀ I' oI', LS L I' oI' oP oS oK p67 p60 p53 ((I', oI') :: off I led) := fun _ _ =>
  ⟨.head _, .tail _ (mem_off x.p n.ip.symm), .tail _ (mem_off x.s n.is.symm), .tail _ (mem_off x.k n.ik.symm), .tail _ (mem_off x.t67 n.i67.symm), .tail _ (mem_off x.t60 n.i60.symm), .tail _ (mem_off x.t53 n.i53.symm),
    (x.s67.off N x.i hno).mono fun _ h => .tail _ h, (x.s60.off N x.i hno).mono fun _ h => .tail _ h, (x.s53.off N x.i hno).mono fun _ h => .tail _ h⟩
def JL (text : Str) (L : Addr) (i : Nat) (m : Str → Option Value) (led : List (Addr × Obj)) : Prop :=
  ∃ (tt tk : Tok) (known : Str) (oP oS oK : Obj) (vP vS : Option Value) (p67 p60 p53 : Array Value), m (Str.ofString "text") = some (.str text tt) ∧ oP.data = .cell vP ∧ oS.data = .cell vS ∧ oK.data = .cell (some (.str known tk)) ∧
    known.cps.toList = text.cps.toList.filter (fun c => decide (c < 97 + i)) ∧ ∀ I oI, LS L I oI oP oS oK p67 p60 p53 ((I, oI) :: led)
theorem fr1 {h₀ h : Heap} {L : Addr} {m : Str → Option Value} {a : Str} {va : Value} (F : Fr h₀ L h m) (ha : m a = some va) : Fr h₀ L h (fun y => if y = a then some va else m y) := by
  have e : (fun y => if y = a then some va else m y) = m := by
    funext y
    by_cases h1 : y = a
    · simp [h1, ha]
    · simp [h1]
  rw [e]; exact F
theorem text_of {h₀ h : Heap} {L : Addr} {m : Str → Option Value} (F : Fr h₀ L h m) {T : Str} {t : Tok} (e : m (Str.ofString "text") = some (.str T t)) : ∃ text tt, text = T ∧ Fr h₀ L h (fun y => if y = Str.ofString "text" then some (.str text tt) else m y) := ⟨T, t, rfl, fr1 F e⟩
theorem abcd_at {i c : Nat} (h : (Str.ofString "abcd").cps[i]? = some c) : i < 4 ∧ c = 97 + i := by
  have e : (Str.ofString "abcd").cps = #[97, 98, 99, 100] := by decide +kernel
  rw [e] at h
  match i, h with
  | 0, h => simp at h; omega
  | 1, h => simp at h; omega
  | 2, h => simp at h; omega
  | 3, h => simp at h; omega
  | n + 4, h => simp at h
section
variable {M : Model} {A : Around} {E : Value → Shared → Prop} {s : Shared} {h₀ : Heap} {L a : Addr} {m : Str → Option Value} {cn : Str} {cs : Scope} {ccd : Value} {cl : List (Str × Addr)} {x : Str} {v : Value} {Q : Unit → Shared → Prop} {led : List (Addr × Obj)} {c : Addr} {o : Obj} {v₀ : Option Value}
theorem store_cell (F : Fr h₀ L s.heap m) (N : News h₀ L s.heap led) (hm : (c, o) ∈ led) (hc : cl.lookup x = some c) (hd : o.data = .cell v₀)
    (h : ∀ h' o' led', Fr h₀ L h' m → News h₀ L h' led' → (c, o') ∈ led' → o'.data = .cell (some v) → Keep c led led' → Q () { s with heap := h' })
    (hk : cs.kind = .function) (hx : (envX cn cs L a ccd cl).kindOf x = some .cell) : wpAny M A (storeName (envX cn cs L a ccd cl) x v) Q E s := by
  refine storeX_C F (off_news N hm) hc (UpdF.head off_ne) hd (fun h' o' F' N' hd' => ?_) hk hx
  exact h h' o' _ F' N' (.head _) hd' (fun b ob hb hne => .tail _ (mem_off hb hne))
end
section
variable (w : World) (p : Program) (loose : List Str) (mean : ExcName → Option Value) (mg mb : Str → Option Value) (led : List (Addr × Obj)) (ps : Array Value)
theorem count_set (hm : (53, tabObj ps) ∈ led) (hps : TabSt 79 49 qual1 ps led) (text sign : Str) (c : Nat) (hsg : sign = ⟨#[c]⟩) (t1 t2 : Tok) (htl : text.length ≤ 8) (hsl : sign.length = 1) (hc : c ≠ 46) :
   Claim w p loose mean mg mb 30 200 58 led [.str text t1, .str sign t2] [] (fun v led' => ∃ t ps', v = .int (text.cps.toList.count c : Nat) t ∧ (53, tabObj ps') ∈ led' ∧ TabSt 79 49 qual1 ps' led' ∧ Keep 53 led led') := by
  intro dp un gd cn cs a ccd cl outer A₀ base h₀ L m s Q E B F X N T hk hdp hun hret
  refine count_claim w p loose mean mg mb (off 53 led) off_ne ps (hps.off N hm (notCode_tab hps)) text sign c hsg t1 t2 htl hsl hc _ _ _ _ _ _ _ _ _ _ _ _ _ _ _ _ _ B F X (off_news N hm) T hk hdp hun ?_
  rintro v led' h' tk' F' N' ⟨t, ps', ex, rfl, rfl, h1, h2⟩
  exact hret _ _ _ _ F' N' ⟨t, ps', rfl, .head _, h1.mono fun q hq => .tail _ hq, keep_off h2⟩
theorem ahead_set (hm : (60, tabObj ps) ∈ led) (hps : TabSt 87 48 qual2 ps led) (text known sign : Str) (c cnt : Nat) (hsg : sign = ⟨#[c]⟩) (t1 t2 t3 t4 : Tok) (htl : text.length ≤ 8) (hkl : known.length ≤ 8) (hkc : ∀ c ∈ known.cps.toList, c ≠ 46) (hsl : sign.length = 1) (hc : c ≠ 46) (hcnt : cnt ≤ 8)
   (pl : Nat → Nat) (hpl : ∀ k, k < cnt → (bs (upA text.cps.toList known.cps.toList c cnt k) (lowA pl k) (known.length + 1)).1 = pl k + 1 ∧ pl k ≤ known.length) :
   Claim w p loose mean mg mb 30 200 65 led [.str text t1, .str known t2, .str sign t3, .int cnt t4] [] (fun v led' => ∃ lp vsP nP ps', v = .ref lp ∧ IntsAre vsP (natInts ((List.range cnt).map pl)) ∧ (lp, listOf vsP.toArray nP) ∈ led' ∧ (60, tabObj ps') ∈ led' ∧ TabSt 87 48 qual2 ps' led' ∧ Keep 60 led led') := by
  intro dp un gd cn cs a ccd cl outer A₀ base h₀ L m s Q E B F X N T hk hdp hun hret
  refine ahead_claim w p loose mean mg mb (off 60 led) off_ne ps (hps.off N hm (notCode_tab hps)) text known sign c cnt hsg t1 t2 t3 t4 htl hkl hkc hsl hc hcnt pl hpl _ _ _ _ _ _ _ _ _ _ _ _ _ _ _ _ _ B F X (off_news N hm) T hk hdp hun ?_
  rintro v led' h' tk' F' N' ⟨lp, vsP, nP, ps', ex, rfl, hi, rfl, h1, h2⟩
  exact hret _ _ _ _ F' N' ⟨lp, vsP, nP, ps', rfl, hi, .head _, .tail _ (.head _), h1.mono fun q hq => .tail _ (.tail _ hq), fun b ob hb hne => .tail _ (keep_off h2 b ob hb hne)⟩
theorem behind_set (hm : (67, tabObj ps) ∈ led) (hps : TabSt 99 51 qual3 ps led) (text known sign : Str) (c cnt : Nat) (hsg : sign = ⟨#[c]⟩) (t1 t2 t3 t4 : Tok) (htl : text.length ≤ 8) (hkl : known.length ≤ 8) (hkc : ∀ c ∈ known.cps.toList, c ≠ 46) (hsl : sign.length = 1) (hc : c ≠ 46) (hcnt : cnt ≤ 8)
   (pl : Nat → Nat) (hpl : ∀ k, k < cnt → (bs (upB text.cps.toList known.cps.toList c cnt k) 0 (highB (known.length + 1) pl k)).1 = pl k ∧ pl k + 1 ≤ known.length + 1) :
   Claim w p loose mean mg mb 30 200 72 led [.str text t1, .str known t2, .str sign t3, .int cnt t4] [] (fun v led' => ∃ lp vsP nP ps', v = .ref lp ∧ IntsAre vsP (natInts ((List.range cnt).map pl).reverse) ∧ (lp, listOf vsP.toArray nP) ∈ led' ∧ (67, tabObj ps') ∈ led' ∧ TabSt 99 51 qual3 ps' led' ∧ Keep 67 led led') := by
  intro dp un gd cn cs a ccd cl outer A₀ base h₀ L m s Q E B F X N T hk hdp hun hret
  refine behind_claim w p loose mean mg mb (off 67 led) off_ne ps (hps.off N hm (notCode_tab hps)) text known sign c cnt hsg t1 t2 t3 t4 htl hkl hkc hsl hc hcnt pl hpl _ _ _ _ _ _ _ _ _ _ _ _ _ _ _ _ _ B F X (off_news N hm) T hk hdp hun ?_
  rintro v led' h' tk' F' N' ⟨lp, vsP, nP, ps', ex, rfl, hi, rfl, h1, h2⟩
  exact hret _ _ _ _ F' N' ⟨lp, vsP, nP, ps', rfl, hi, .head _, .tail _ (.head _), h1.mono fun q hq => .tail _ (.tail _ hq), fun b ob hb hne => .tail _ (keep_off h2 b ob hb hne)⟩
end
end Mine
end
section
open PySem PySem.W PyProof.Rows
namespace Mine
noncomputable def pl (c : Nat) : List Nat → Nat → Nat
  | [], _ => 0
  | x :: r, k => if x = c then (if k = 0 then 0 else pl c r (k - 1)) else (if x < c then 1 else 0) + pl c r k
abbrev kn (c : Nat) (l : List Nat) : List Nat := l.filter (fun x => decide (x < c))
theorem pl_split (c : Nat) : ∀ (l : List Nat) (k : Nat), k < l.count c → ∃ a b, l = a ++ c :: b ∧ a.count c = k ∧ pl c l k = (kn c a).length
  | [], k, h => by simp at h
  | x :: r, k, h => by
    by_cases hx : x = c
    · subst hx
      cases k with
      | zero => exact ⟨[], r, rfl, by simp, by simp [pl, kn]⟩
      | succ k =>
        obtain ⟨a, b, h1, h2, h3⟩ := pl_split x r k (by rw [List.count_cons_self] at h; omega)
        refine ⟨x :: a, b, by rw [h1]; rfl, by rw [List.count_cons_self, h2], ?_⟩
        simp [pl, kn, h3]
    · obtain ⟨a, b, h1, h2, h3⟩ := pl_split c r k (by rw [List.count_cons_of_ne hx] at h; exact h)
      refine ⟨x :: a, b, by rw [h1]; rfl, by rw [List.count_cons_of_ne hx, h2], ?_⟩
      by_cases hl : x < c
      · simp [pl, kn, hx, hl, h3]; omega
      · simp [pl, kn, hx, hl, h3]
theorem kn_append (c : Nat) (a b : List Nat) : kn c (a ++ b) = kn c a ++ kn c b := by simp [kn]
theorem kn_mid (c : Nat) (a b : List Nat) : kn c (a ++ c :: b) = kn c a ++ kn c b := by simp [kn]
theorem kn_kn (c : Nat) (l : List Nat) (h : ∀ x ∈ l, x < c) : kn c l = l := by
  unfold kn; rw [List.filter_eq_self]; intro x hx; simpa using h x hx
theorem pl_mono (c : Nat) : ∀ (l : List Nat) (j k : Nat), j ≤ k → k < l.count c → pl c l j ≤ pl c l k
  | [], j, k, _, h => by simp at h
  | x :: r, j, k, hjk, h => by
    by_cases hx : x = c
    · subst hx
      cases j with
      | zero => simp [pl]
      | succ j =>
        cases k with
        | zero => omega
        | succ k =>
          have := pl_mono x r j k (by omega) (by rw [List.count_cons_self] at h; omega)
          simpa [pl] using this
    · have := pl_mono c r j k hjk (by rw [List.count_cons_of_ne hx] at h; exact h)
      simp only [pl, if_neg hx]; omega
theorem pl_le {c : Nat} {l : List Nat} {k : Nat} (h : k < l.count c) : pl c l k ≤ (kn c l).length := by
  obtain ⟨a, b, h1, h2, h3⟩ := pl_split c l k h
  rw [h3, h1, kn_mid, List.length_append]; omega
theorem sub_ahead {l : List Nat} {c k i : Nat} (hk : k < l.count c) (hi : i ≤ (kn c l).length) : upA l (kn c l) c (l.count c) k i = decide (i < pl c l k + 1) := by
  obtain ⟨a, b, h1, h2, h3⟩ := pl_split c l k hk
  have hcnt : l.count c = k + 1 + b.count c := by rw [h1, List.count_append, h2, List.count_cons_self]; omega
  unfold upA
  rw [Bool.eq_iff_iff, List.isSublist_iff_sublist, decide_eq_true_eq]
  constructor
  · intro hs
    rw [List.append_sublist_iff] at hs
    obtain ⟨r1, r2, e, s1, s2⟩ := hs
    have c2 : l.count c - k ≤ r2.count c := List.replicate_sublist_iff.mp s2
    have c1 : r1.count c + r2.count c = l.count c := by rw [← List.count_append, ← e]
    have hlen : r1.length ≤ a.length := by
      refine Nat.not_lt.mp fun hgt => ?_
      have hp : a ++ [c] <+: r1 := by
        refine List.prefix_of_prefix_length_le (l₃ := l) ⟨b, by rw [h1]; simp⟩ ⟨r2, e.symm⟩ (by simp; omega)
      have := hp.sublist.count_le c
      rw [List.count_append, h2] at this
      simp at this
      omega
    have hpre : r1 <+: a := List.prefix_of_prefix_length_le (l₃ := l) ⟨r2, e.symm⟩ ⟨c :: b, h1.symm⟩ hlen
    have s3 : List.Sublist (kn c ((kn c l).take i)) (kn c a) := (s1.filter _).trans (hpre.sublist.filter _)
    rw [kn_kn c _ (fun x hx => by have := List.mem_of_mem_take hx; simpa [kn] using (List.mem_filter.mp this).2)] at s3
    have := s3.length_le
    rw [List.length_take] at this
    omega
  · intro hlt
    rw [h3] at hlt
    have e1 : List.Sublist ((kn c l).take i) a := by
      rw [h1, kn_mid, List.take_append_of_le_length (by omega)]
      exact (List.take_sublist _ _).trans List.filter_sublist
    have e2 : List.Sublist (List.replicate (l.count c - k) c) (c :: b) := by
      rw [List.replicate_sublist_iff, List.count_cons_self]; omega
    have e3 := e1.append e2
    rw [← h1] at e3
    exact e3
theorem sub_behind {l : List Nat} {c k i : Nat} (hk : k < l.count c) (hi : i ≤ (kn c l).length) : upB l (kn c l) c (l.count c) k i = decide (i < pl c l (l.count c - 1 - k)) := by
  have hj : l.count c - 1 - k < l.count c := by omega
  obtain ⟨a, b, h1, h2, h3⟩ := pl_split c l _ hj
  have hkl : (kn c l).length = (kn c a).length + (kn c b).length := by rw [h1, kn_mid, List.length_append]
  have key : (List.replicate (l.count c - k) c ++ (kn c l).drop i).isSublist l = decide (pl c l (l.count c - 1 - k) ≤ i) := by
    rw [Bool.eq_iff_iff, List.isSublist_iff_sublist, decide_eq_true_eq]
    constructor
    · intro hs
      rw [List.append_sublist_iff] at hs
      obtain ⟨r1, r2, e, s1, s2⟩ := hs
      have c1 : l.count c - k ≤ r1.count c := List.replicate_sublist_iff.mp s1
      have hlen : a.length + 1 ≤ r1.length := by
        refine Nat.not_lt.mp fun hgt => ?_
        have hp : r1 <+: a := List.prefix_of_prefix_length_le (l₃ := l) ⟨r2, e.symm⟩ ⟨c :: b, h1.symm⟩ (by omega)
        have := hp.sublist.count_le c
        omega
      have hp : a ++ [c] <+: r1 := List.prefix_of_prefix_length_le (l₃ := l) ⟨b, by rw [h1]; simp⟩ ⟨r2, e.symm⟩ (by simp; omega)
      obtain ⟨d, hd⟩ := hp
      have eb : b = d ++ r2 := by
        have : a ++ c :: b = a ++ c :: (d ++ r2) := by rw [← h1, e, ← hd]; simp
        have := List.append_cancel_left this
        simpa using this
      have s3 : List.Sublist (kn c ((kn c l).drop i)) (kn c b) := by
        rw [eb]
        exact (s2.filter _).trans ((List.sublist_append_right d r2).filter _)
      rw [kn_kn c _ (fun x hx => by have := List.mem_of_mem_drop hx; simpa [kn] using (List.mem_filter.mp this).2)] at s3
      have := s3.length_le
      rw [List.length_drop] at this
      omega
    · intro hle
      rw [h3] at hle
      have e1 : List.Sublist (List.replicate (l.count c - k) c) (a ++ [c]) := by
        rw [List.replicate_sublist_iff, List.count_append, h2]; simp; omega
      have e2 : List.Sublist ((kn c l).drop i) b := by
        rw [h1, kn_mid, List.drop_append, List.drop_of_length_le (by omega), List.nil_append]
        exact (List.drop_sublist _ _).trans List.filter_sublist
      have e3 := e1.append e2
      have e4 : a ++ [c] ++ b = l := by rw [h1]; simp
      rw [e4] at e3
      exact e3
  unfold upB
  rw [key]
  by_cases hq : pl c l (l.count c - 1 - k) ≤ i
  · simp [hq]
  · simp [hq]; omega
theorem pl_ahead (l : List Nat) (c k : Nat) (hk : k < l.count c) : (bs (upA l (kn c l) c (l.count c) k) (lowA (pl c l) k) ((kn c l).length + 1)).1 = pl c l k + 1 ∧ pl c l k ≤ (kn c l).length := by
  refine ⟨bs_val _ _ _ _ _ (Nat.le_refl _) (fun i _ h2 => sub_ahead hk (by omega)) ?_ (by have := pl_le hk; omega), pl_le hk⟩
  unfold lowA
  split
  · omega
  · exact Nat.le_succ_of_le (pl_mono c l _ _ (by omega) hk)
theorem pl_behind (l : List Nat) (c k : Nat) (hk : k < l.count c) : (bs (upB l (kn c l) c (l.count c) k) 0 (highB ((kn c l).length + 1) (fun k => pl c l (l.count c - 1 - k)) k)).1 = pl c l (l.count c - 1 - k) ∧ pl c l (l.count c - 1 - k) + 1 ≤ (kn c l).length + 1 := by
  have hle := pl_le (c := c) (l := l) (k := l.count c - 1 - k) (by omega)
  have hhi : highB ((kn c l).length + 1) (fun k => pl c l (l.count c - 1 - k)) k ≤ (kn c l).length + 1 := by
    unfold highB
    split
    · omega
    · have := pl_le (c := c) (l := l) (k := l.count c - 1 - (k - 1)) (by omega)
      dsimp only; omega
  refine ⟨bs_val _ _ _ _ _ (Nat.le_refl _) (fun i _ h2 => sub_behind hk (by omega)) (Nat.zero_le _) ?_, by omega⟩
  unfold highB
  split
  · omega
  · exact Nat.le_succ_of_le (pl_mono c l _ _ (by omega) (by omega))
theorem rev_range (f : Nat → Nat) (n : Nat) : ((List.range n).map (fun k => f (n - 1 - k))).reverse = (List.range n).map f := by
  have e : (List.range n).map (fun k => f (n - 1 - k)) = ((List.range n).map (fun k => n - 1 - k)).map f := by rw [List.map_map]; rfl
  rw [e, krv_range, List.map_reverse, List.reverse_reverse]
noncomputable def piece (l : List Nat) (c k : Nat) : List Nat := List.replicate (((List.range (l.count c)).map (pl c l)).count k) c ++ ((kn c l).drop k).take 1
noncomputable def plcs (c : Nat) (l : List Nat) : List Nat := (List.range (l.count c)).map (pl c l)
theorem plcs_self (c : Nat) (r : List Nat) : plcs c (c :: r) = 0 :: plcs c r := by
  unfold plcs
  rw [List.count_cons_self, List.range_succ_eq_map, List.map_cons, List.map_map]
  congr 1
  · simp [pl]
  · refine List.map_congr_left fun k _ => ?_
    simp [pl]
theorem plcs_lt {c x : Nat} (h : x < c) (r : List Nat) : plcs c (x :: r) = (plcs c r).map (· + 1) := by
  unfold plcs
  rw [List.count_cons_of_ne (by omega), List.map_map]
  refine List.map_congr_left fun k _ => ?_
  simp only [pl, if_neg (show ¬ x = c by omega), if_pos h, Function.comp]
  omega
theorem plcs_gt {c x : Nat} (h : c < x) (r : List Nat) : plcs c (x :: r) = plcs c r := by
  unfold plcs
  rw [List.count_cons_of_ne (by omega)]
  refine List.map_congr_left fun k _ => ?_
  simp [pl, show ¬ x = c by omega, show ¬ x < c by omega]
theorem piece_eq (l : List Nat) (c k : Nat) : piece l c k = List.replicate ((plcs c l).count k) c ++ ((kn c l).drop k).take 1 := rfl
theorem merge (l : List Nat) (c : Nat) : (List.range ((kn c l).length + 1)).flatMap (piece l c) = kn (c + 1) l := by
  induction l with
  | nil => rfl
  | cons x r ih =>
    by_cases h1 : x = c
    · subst h1
      have hk : kn x (x :: r) = kn x r := by simp [kn]
      have hk2 : kn (x + 1) (x :: r) = x :: kn (x + 1) r := by simp [kn]
      rw [hk, hk2, ← ih, List.range_succ_eq_map, List.flatMap_cons, List.flatMap_cons]
      have e0 : piece (x :: r) x 0 = x :: piece r x 0 := by
        rw [piece_eq, piece_eq, plcs_self, hk, List.count_cons_self, List.replicate_succ]; rfl
      have e1 : ∀ q : List Nat, (q.map Nat.succ).flatMap (piece (x :: r) x) = (q.map Nat.succ).flatMap (piece r x) := by
        intro q
        rw [List.flatMap_map, List.flatMap_map, List.flatMap_def, List.flatMap_def]
        congr 1
        refine List.map_congr_left fun k _ => ?_
        rw [piece_eq, piece_eq, plcs_self, hk, List.count_cons_of_ne (by simp)]
      rw [e0, e1]; rfl
    · by_cases h2 : x < c
      · have hk : kn c (x :: r) = x :: kn c r := by simp [kn, h2]
        have hk2 : kn (c + 1) (x :: r) = x :: kn (c + 1) r := by simp [kn, show x < c + 1 by omega]
        rw [hk, hk2, ← ih, List.length_cons, List.range_succ_eq_map, List.flatMap_cons]
        have e0 : piece (x :: r) c 0 = [x] := by
          rw [piece_eq, plcs_lt h2, hk]
          have : (List.map (fun x => x + 1) (plcs c r)).count 0 = 0 := by
            rw [List.count_eq_zero]; simp
          rw [this]; rfl
        have e1 : ((List.range ((kn c r).length + 1)).map Nat.succ).flatMap (piece (x :: r) c) = (List.range ((kn c r).length + 1)).flatMap (piece r c) := by
          rw [List.flatMap_map, List.flatMap_def, List.flatMap_def]
          congr 1
          refine List.map_congr_left fun k _ => ?_
          rw [piece_eq, piece_eq, plcs_lt h2, hk]
          have : (List.map (fun x => x + 1) (plcs c r)).count k.succ = (plcs c r).count k := by
            generalize plcs c r = q
            induction q with
            | nil => rfl
            | cons y q ih => simp [List.count_cons, ih]
          rw [this]; rfl
        rw [e0, e1]; rfl
      · have hk : kn c (x :: r) = kn c r := by simp [kn, h2]
        have hk2 : kn (c + 1) (x :: r) = kn (c + 1) r := by simp [kn, show ¬ x < c + 1 by omega]
        rw [hk, hk2, ← ih, List.flatMap_def, List.flatMap_def]
        congr 1
        refine List.map_congr_left fun k _ => ?_
        rw [piece_eq, piece_eq, plcs_gt (by omega), hk]
theorem natInts_count (l : List Nat) (k : Nat) : (natInts l).count (k : Int) = l.count k := by
  unfold natInts
  induction l with
  | nil => simp
  | cons a r ih => simp only [List.map_cons, List.count_cons, ih]; congr 1; by_cases h : a = k <;> simp [h]; omega
theorem mulOk_one {c n : Nat} (hn : n ≤ 100) : MulOk ⟨#[c]⟩ (n : Int) := by
  have hl : (⟨#[c]⟩ : Str).length = 1 := rfl
  refine ⟨?_, ?_, ?_⟩
  · simp; omega
  · intro h1 _
    rw [hl]
    have : (1 : Int) ≤ (2 ^ 63 - 1) / (n : Int) := by
      rw [Int.le_ediv_iff_mul_le (by omega)]; omega
    omega
  · intro _ _
    rw [hl]
    unfold Builtin.Str.tooLong
    simp only [decide_eq_false_iff_not, Nat.not_lt, gt_iff_lt]
    exact sizeLine_100 (by omega)
end Mine
end
section
open PySem PySem.W PyProof.Rows Builtin Builtin.Str
namespace Mine
theorem slice_one {x : Str} {k : Nat} (h : k ≤ x.length) : (Txt.slice x (some (k : Int)) (some ((k : Int) + 1))).cps.toList = (x.cps.toList.drop k).take 1 := by
  have e : Txt.slice x (some (k : Int)) (some ((k : Int) + 1)) = StrLaws.sliceText x (some (k : Int)) (some ((k : Int) + 1)) := rfl
  by_cases hk : k < x.length
  · rw [e, StrLaws.sliceText_plain ⟨by omega, by omega, by rw [len_list]; omega⟩]
    have e2 : ((k : Int) + 1 - k).toNat = 1 := by omega
    simp [e2]
  · have hk' : k = x.length := by omega
    have e1 : strSliceIndices (some (k : Int)) (some ((k : Int) + 1)) 1 x.length = [] := by
      unfold strSliceIndices sliceRange
      subst hk'
      simp
      omega
    rw [e]
    unfold StrLaws.sliceText
    rw [e1]
    subst hk'
    rw [List.drop_of_length_le (by rw [len_list]; exact Nat.le_refl _)]
    split
    · rename_i h0
      simp at h0
      have : x.cps.toList.length = 0 := by rw [len_list]; exact h0.symm
      simp [List.length_eq_zero_iff.mp this]
    · simp
theorem join_flat : ∀ ls : List Str, (Txt.join (Str.ofString "") ls).cps.toList = ls.flatMap (fun s => s.cps.toList) := by
  intro ls
  rw [show Txt.join (Str.ofString "") ls = Str.join (Str.ofString "") ls from StrLaws.glued_eq_join _ _]
  have h0 : (Str.ofString "").cps.toList = [] := by decide +kernel
  induction ls with
  | nil => rfl
  | cons a r ih =>
    cases r with
    | nil => simp [Str.join]
    | cons b r =>
      have e2 : Str.join (Str.ofString "") (a :: b :: r) = a ++ Str.ofString "" ++ Str.join (Str.ofString "") (b :: r) := rfl
      rw [e2, app_list, app_list, h0, ih]
      simp
theorem item_abcd (a : Int) : ∃ c, (Txt.item (Str.ofString "abcd") (a.fmod 4)).cps.toList = [c] ∧ 97 ≤ c ∧ c ≤ 100 := by
  have h1 : 0 ≤ a.fmod 4 := Int.fmod_nonneg_of_pos a (by omega)
  have h2 : a.fmod 4 < 4 := Int.fmod_lt_of_pos a (by omega)
  have h3 : a.fmod 4 = 0 ∨ a.fmod 4 = 1 ∨ a.fmod 4 = 2 ∨ a.fmod 4 = 3 := by omega
  rcases h3 with h | h | h | h <;> rw [h]
  · exact ⟨97, by decide +kernel, by omega, by omega⟩
  · exact ⟨98, by decide +kernel, by omega, by omega⟩
  · exact ⟨99, by decide +kernel, by omega, by omega⟩
  · exact ⟨100, by decide +kernel, by omega, by omega⟩
theorem slice_mem {x : Str} {l u : Option Int} : ∀ c ∈ (Txt.slice x l u).cps.toList, c ∈ x.cps.toList := by
  intro c hc
  unfold Txt.slice at hc
  split at hc
  · exact hc
  · simp only [List.mem_filterMap] at hc
    obtain ⟨i, _, hi⟩ := hc
    exact Array.mem_toList_iff.mpr (Array.mem_of_getElem? hi)
theorem text_len (x : Str) : (Txt.slice x none (some 8)).length ≤ 8 := by
  by_cases h : 8 ≤ x.length
  · rw [← len_list, show (some (8 : Int)) = some ((8 : Nat) : Int) from rfl, slice_take h, List.length_take]; omega
  · exact Nat.le_trans (Txt.slice_le _ _ _) (by omega)
theorem text_chars (ns : List Int) : ∀ c ∈ (Txt.slice (Txt.join (Str.ofString "") (ns.map fun a => Txt.item (Str.ofString "abcd") (a.fmod 4)) ++ Str.ofString "cabbad") none (some 8)).cps.toList, 97 ≤ c ∧ c ≤ 100 := by
  intro c hc
  have hc := slice_mem c hc
  rw [app_list] at hc
  rcases List.mem_append.mp hc with hc | hc
  · rw [join_flat, List.flatMap_map, List.mem_flatMap] at hc
    obtain ⟨a, _, ha⟩ := hc
    obtain ⟨d, h1, h2, h3⟩ := item_abcd a
    rw [h1, List.mem_singleton] at ha
    omega
  · have e : (Str.ofString "cabbad").cps.toList = [99, 97, 98, 98, 97, 100] := by decide +kernel
    rw [e] at hc
    simp at hc
    omega
theorem piece_str {text known : Str} {c k : Nat} (hkn : known.cps.toList = kn c text.cps.toList) (hk : k ≤ known.length) :
    (Txt.mul ⟨#[c]⟩ (((natInts ((List.range (text.cps.toList.count c)).map (pl c text.cps.toList))).count (k : Int) : Nat) : Int) ++ Txt.slice known (some (k : Int)) (some ((k : Int) + 1))).cps.toList = piece text.cps.toList c k := by
  rw [app_list, mul_one_cast, slice_one hk, natInts_count, hkn]
  rfl
theorem known_next {text known : Str} {c : Nat} (hkn : known.cps.toList = kn c text.cps.toList) :
    (Txt.join (Str.ofString "") ((rangeKs 0 (known.length + 1)).map fun k => Txt.mul ⟨#[c]⟩ (((natInts ((List.range (text.cps.toList.count c)).map (pl c text.cps.toList))).count k : Nat) : Int) ++ Txt.slice known (some k) (some (k + 1)))).cps.toList = kn (c + 1) text.cps.toList := by
  rw [join_flat, ← merge, natInts_rangeKs]
  unfold natInts
  rw [List.map_map, List.flatMap_map]
  have hl : known.length = (kn c text.cps.toList).length := by rw [← len_list, hkn]
  rw [← hl]
  rw [List.flatMap_def, List.flatMap_def]
  congr 1
  refine List.map_congr_left ?_
  intro k hk
  have hk' := List.mem_range.mp hk
  exact piece_str hkn (by omega)
theorem known_text {text known : Str} (htc : ∀ c ∈ text.cps.toList, 97 ≤ c ∧ c ≤ 100) (hkn : known.cps.toList = text.cps.toList.filter (fun c => decide (c < 97 + 4))) : known = text := by
  rw [List.filter_eq_self.mpr (fun c hc => by have := htc c hc; simp; omega)] at hkn
  exact Str.ext' (Array.toList_inj.mp hkn)
theorem mul_add_size {known : Str} {c n : Nat} {a b : Option Int} (hn : n ≤ 8) (hk : known.length ≤ 8) : (Txt.mul ⟨#[c]⟩ (n : Int)).length + (Txt.slice known a b).length ≤ sizeLine := by
  have h1 : (Txt.mul ⟨#[c]⟩ (n : Int)).length = n := by rw [← len_list, mul_one_cast, List.length_replicate]
  have h2 := Txt.slice_le known a b
  exact sizeLine_100 (by omega)
theorem piece_len {text known : Str} {c : Nat} (htl : text.length ≤ 8) (hkn : known.cps.toList = kn c text.cps.toList) : ∀ a ∈ rangeKs 0 (known.length + 1), (Txt.mul ⟨#[c]⟩ (((natInts ((List.range (text.cps.toList.count c)).map (pl c text.cps.toList))).count a : Nat) : Int) ++ Txt.slice known (some a) (some (a + 1))).length ≤ 10 := by
  intro a ha
  rw [natInts_rangeKs] at ha
  obtain ⟨k, hk, rfl⟩ := List.mem_map.mp ha
  have hk' := List.mem_range.mp hk
  rw [← len_list, piece_str hkn (by omega)]
  unfold piece
  rw [List.length_append, List.length_replicate, List.length_take]
  have h1 : ((List.range (text.cps.toList.count c)).map (pl c text.cps.toList)).count k ≤ 8 := by
    refine Nat.le_trans List.count_le_length ?_
    rw [List.length_map, List.length_range]
    exact Nat.le_trans List.count_le_length (by rw [len_list]; exact htl)
  omega
end Mine
end
section
namespace Mine
theorem off_L1 : True := by
  w_top off
  trivial
end Mine
open PySem PySem.W PyProof.Rows
namespace Mine
local macro_rules | `(tactic| k_all) => `(tactic| assumption)
local macro_rules | `(tactic| walk_at "call ref") => `(tactic| refine Hold.mk ?_)
local macro_rules | `(tactic| walk_at "CompSrc") => `(tactic| refine Hold.mk ?_)
local macro_rules | `(tactic| walk_at "CompEnd") => `(tactic| refine Hold.mk ?_)
local macro_rules | `(tactic| walk_at "exec For Name Constant cons nil") => `(tactic| refine Hold.mk ?_)
local macro_rules | `(tactic| walk_at "pyIter str") => `(tactic| refine Hold.mk ?_)
local macro_rules | `(tactic| walk_at "storeName") => `(tactic| ((with_reducible show wpAny _ _ (storeName _ (Str.ofString "places") _) _ _ _); refine Hold.mk ?_))
local macro_rules | `(tactic| walk_at "compareOp NotEq ref ref") => `(tactic| refine Hold.mk ?_)
local macro_rules | `(tactic| walk_at "call builtin:list.count") => `(tactic| refine Hold.mk ?_)
local macro_rules | `(tactic| walk_at "binaryOp Mult str int") => `(tactic| refine Hold.mk ?_)
local macro_rules | `(tactic| walk_at "binaryOp Add str str") => `(tactic| ((with_reducible show wpAny _ _ (binaryOp _ (Value.str (Txt.mul _ _) _) _) _ _ _); refine Hold.mk ?_))
local macro_rules | `(tactic| walk_at "call builtin:str.join") => `(tactic| refine Hold.mk ?_)
local macro_rules | `(tactic| walk_at "getMethod ref") => `(tactic| refine Hold.mk ?_)
local macro_rules | `(tactic| walk_at "eval Name") => `(tactic| ((with_reducible show wpAny _ _ (eval (Expr.Name (Str.ofString "sign") _) (compEnvC _ _ _ _)) _ _ _); refine Hold.mk ?_))
local macro_rules | `(tactic| walk_at "eval Name") => `(tactic| ((with_reducible show wpAny _ _ (eval (Expr.Name (Str.ofString "places") _) (compEnvC _ _ _ _)) _ _ _); refine Hold.mk ?_))
local macro_rules | `(tactic| walk_at "eval Name") => `(tactic| ((with_reducible show wpAny _ _ (eval (Expr.Name (Str.ofString "known") _) (compEnvC _ _ _ _)) _ _ _); refine Hold.mk ?_))
local macro_rules | `(tactic| walk_at "storeName") => `(tactic| ((with_reducible show wpAny _ _ (storeName _ (Str.ofString "known") (Value.str (Txt.join _ (List.map _ (rangeKs _ _))) _)) _ _ _); refine Hold.mk ?_))
set_option maxRecDepth 100000 in
set_option maxHeartbeats 2000000 in
theorem lw : PySem.Challenge.rw_ph0078_01.Holds := hd (by
  k_go0
  (all_goals try k_fold)
  k_steps
  unfold Hold
  rename IntsAre _ (List.take 8 _) => hI
  refine LCg.CompSrc.ledger rfl (by k_asm) (by k_asm) (by k_mem) (by rw [List.size_toArray, hI.length, List.length_take]; exact sizeLine_100 (by omega)) ?_
  intro g'
  refine kct_list (fun k => Txt.item (Str.ofString "abcd") (Int.fmod k 4)) hI (fun k t I oI C oC D m2 ys h tk E' hk hC hx F N off ne mk => ?turn) ?fin
  case turn =>
    k_steps
    unfold Hold
    refine ⟨_, _, _, rfl, F, N, off, .inr ⟨_, by k_mem, rfl, _, rfl⟩, rfl, _, rfl⟩
  case fin =>
    unfold KPfDone
    intro ys hys hlen
    k_steps
    unfold Hold
    rename Fr _ _ _ _ => kFa
    rename News _ _ _ _ => kNa
    refine KT.join_1 (newsList kNa (List.Mem.head _)) hys (fun a ha => rfl) (by rw [List.length_take]; omega) ?_
    intro t2 k2 ktE
    k_steps
    unfold Hold
    rename_i oP oS oK0 dP dS dK0 X0 X' T' K' cH1 cH2 l0 D1 ws hh1 hC1 hL1 l1 D2 hh2 tk2 o1 t3 tkE a1 hx1 tx kx a2 hx2 hx3 oK kF kN dK
    refine wpAny_For ?_ (by intro _; rfl)
    k_steps
    unfold Hold
    obtain ⟨text, tt, htext, kF⟩ := text_of kF rfl
    have htl : text.length ≤ 8 := by rw [htext]; exact text_len _
    have htc : ∀ c ∈ text.cps.toList, 97 ≤ c ∧ c ≤ 100 := by rw [htext]; exact text_chars _
    refine' for_str (JL text _) (by decide +kernel) rfl kF kN ?j0 ?turn ?done ?pe
    case pe => passes_own
    case j0 =>
      refine ⟨_, _, Str.ofString "", oP, oS, oK, _, _, #[], #[], #[], rfl, dP, dS, dK, ?_, ?_⟩
      · symm
        rw [List.filter_eq_nil_iff.mpr (fun c hc => by have := htc c hc; simp; omega)]
        decide +kernel
      · intro I oI
        exact ⟨by k_mem, by k_mem, by k_mem, by k_mem, by k_mem, by k_mem, by k_mem, .inl rfl, .inl rfl, .inl rfl⟩
    case done =>
      clear kF kN
      rintro m₁ led₁ h tk ⟨tt, tkn, known, oP, oS, oK, vP, vS, p67, p60, p53, m1, dP, dS, dK, hkn, hLS⟩ kF kN
      have kF := fr1 kF m1
      obtain ⟨mK, m67, m60, m53⟩ := (hLS 0 oP).at0
      have hkt : known = text := known_text htc hkn
      subst hkt
      dsimp only
      k_steps
    case turn =>
      clear kF kN
      rintro I oI i c m₁ led₁ h tk u hci hsit ⟨tt, tkn, known, oP, oS, oK, vP, vS, p67, p60, p53, m1, dP, dS, dK, hkn, hLS⟩ kF kN hIn
      obtain ⟨hi4, hc⟩ := abcd_at hci
      have x1 := hLS I oI
      have kF := fr1 kF m1
      have hLN : LN _ I := LN.of l0.1 (hLS 0 oI) hIn
      k_dflt (refine' store_cell kF kN x1.s ?hc1 dS ?_ ?hk1 ?hx1; (case hc1 => exact rfl); (case hk1 => exact rfl); (case hx1 => exact rfl))
      intro h2 oS2 led2 kF2 kN2 hm2 dS2 hk2
      have x2 := x1.setS hLN kN dS hk2 hm2
      clear kF kN x1 hIn hLS hk2 hm2
      have mS := x2.s
      have mK := x2.k
      k_steps
      unfold Hold
      have hcne : c ≠ 46 := by omega
      refine Claim.use (count_set _ _ _ _ _ _ led2 p53 x2.t53 x2.s53 text ⟨#[c]⟩ c rfl _ _ htl rfl hcne) K' kF2 X' kN2 T' rfl (by first | decide | ktr_room) (by first | decide | ktr_units) ?_
      rintro v led3 h3 tk3 kF3 kN3 ⟨t3, q53, rfl, hm3, ht3, hk3⟩
      have x3 := x2.set53 hLN kN2 hk3 hm3 ht3
      clear kF2 kN2 x2 hm3 ht3 hk3 mS mK
      have mS := x3.s
      have mK := x3.k
      dsimp only
      k_steps
      unfold Hold
      rename Fr _ _ _ _ => kF4
      rename News _ _ _ led3 => kN4
      have hkl : known.length ≤ 8 := by
        rw [← len_list, hkn]; refine Nat.le_trans (List.length_filter_le _ _) ?_; rw [len_list]; exact htl
      have hkc : ∀ c ∈ known.cps.toList, c ≠ 46 := by
        intro x hx; rw [hkn] at hx; have := htc x (List.mem_filter.mp hx).1; omega
      have hcnt : text.cps.toList.count c ≤ 8 := Nat.le_trans List.count_le_length (by rw [len_list]; exact htl)
      have hkn' : known.cps.toList = kn c text.cps.toList := by rw [hkn, hc]
      have hknl : known.length = (kn c text.cps.toList).length := by rw [← len_list, hkn']
      refine Claim.use (ahead_set _ _ _ _ _ _ led3 p60 x3.t60 x3.s60 text known ⟨#[c]⟩ c _ rfl _ _ _ _ htl hkl hkc rfl hcne hcnt (pl c text.cps.toList) (fun k hk => by rw [hkn', hknl]; exact pl_ahead _ c k hk)) K' kF4 X' kN4 T' rfl (by first | decide | ktr_room) (by first | decide | ktr_units) ?_
      rintro v led4 h4 tk4 kF5 kN5 ⟨lp, vsP, nP, q60, rfl, hIp, hlp, hm4, ht4, hk4⟩
      have x4 := x3.set60 hLN kN4 hk4 hm4 ht4
      clear kF4 kN4 x3 hm4 ht4 hk4 mS mK
      dsimp only
      k_steps
      unfold Hold
      k_dflt (refine' store_cell kF5 kN5 x4.p ?hc1 dP ?_ ?hk1 ?hx1; (case hc1 => exact rfl); (case hk1 => exact rfl); (case hx1 => exact rfl))
      intro h5 oP5 led5 kF6 kN6 hm5 dP5 hk5
      have hlp5 := hk5 _ _ hlp (news_ne kN5 hlp x4.p (by rw [dP]; simp))
      have x5 := x4.setP hLN kN5 dP hk5 hm5
      clear kF5 kN5 x4 hm5 hk5 hlp
      have mS := x5.s
      have mK := x5.k
      k_steps
      unfold Hold
      refine Claim.use (behind_set _ _ _ _ _ _ led5 p67 x5.t67 x5.s67 text known ⟨#[c]⟩ c _ rfl _ _ _ _ htl hkl hkc rfl hcne hcnt (fun k => pl c text.cps.toList (text.cps.toList.count c - 1 - k)) (fun k hk => by rw [hkn', hknl]; exact pl_behind _ c k hk)) K' kF6 X' kN6 T' rfl (by first | decide | ktr_room) (by first | decide | ktr_units) ?_
      rintro v led6 h6 tk6 kF7 kN7 ⟨lr, vsR, nR, q67, rfl, hIr, hlr, hm6, ht6, hk6⟩
      have hlp6 := hk6 _ _ hlp5 (news_ne kN6 hlp5 x5.t67 (by simp))
      have x6 := x5.set67 hLN kN6 hk6 hm6 ht6
      clear kF6 kN6 x5 hm6 ht6 hk6 mS mK hlp5
      have mS := x6.s
      have mK := x6.k
      have mP := x6.p
      dsimp only
      k_steps
      unfold Hold
      rw [rev_range] at hIr
      refine ne_intsK (newsList kN7 hlr) hIr (newsList kN7 hlp6) hIp (by first | decide | ktr_units) ?_
      rw [decide_eq_true rfl]
      k_steps
      unfold Hold
      rename IsRange _ _ _ _ _ _ _ _ => hR
      rename Fr _ _ _ _ => kF8
      rename News _ _ _ led6 => kN8
      have hrs := range_small (n := known.length + 1) (by omega)
      refine LCg.CompSrc.range rfl kF8 kN8 hR hrs.1 hrs.2 (sizeLine_100 (by omega)) ?_
      intro g'
      refine kct_range (fun k => Txt.mul ⟨#[c]⟩ (((natInts ((List.range (text.cps.toList.count c)).map (pl c text.cps.toList))).count k : Nat) : Int) ++ Txt.slice known (some k) (some (k + 1))) (fun k t I2 oI2 C oC D m2 ys h tk E' hlo hhi hC hx F N off ne mk => ?cturn) ?cfin
      case cturn =>
        k_steps
        unfold Hold
        k_dflt (refine' kcf_cell N ?a1 (List.Mem.tail _ (List.Mem.tail _ (List.Mem.tail _ mS))) dS2 ?_ ?a2 ?a3; (case a1 => exact rfl); (case a2 => exact rfl); (case a3 => exact rfl))
        k_steps
        unfold Hold
        k_dflt (refine' kcf_cell N ?a1 (List.Mem.tail _ (List.Mem.tail _ (List.Mem.tail _ mP))) dP5 ?_ ?a2 ?a3; (case a1 => exact rfl); (case a2 => exact rfl); (case a3 => exact rfl))
        k_steps
        unfold Hold
        k_dflt (refine kl_method N (List.Mem.tail _ (List.Mem.tail _ (List.Mem.tail _ hlp6))) PySem.F.slot_list_count PySem.F.type_list_count ?_)
        k_steps
        unfold Hold
        refine count_list_ints (newsList N (List.Mem.tail _ (List.Mem.tail _ (List.Mem.tail _ hlp6)))) hIp ?_
        k_steps
        unfold Hold
        have hcl : ((natInts ((List.range (text.cps.toList.count c)).map (pl c text.cps.toList))).count k) ≤ 8 := Nat.le_trans List.count_le_length (by unfold natInts; rw [List.length_map, List.length_map, List.length_range]; exact hcnt)
        refine SB.mul (mulOk_one (by omega)) (fun t9 k9 => ?_)
        k_steps
        unfold Hold
        k_dflt (refine' kcf_cell N ?a1 (List.Mem.tail _ (List.Mem.tail _ (List.Mem.tail _ mK))) dK ?_ ?a2 ?a3; (case a1 => exact rfl); (case a2 => exact rfl); (case a3 => exact rfl))
        k_steps
        unfold Hold
        rename Fr _ _ _ _ => kFx
        rename News _ _ _ _ => kNx
        refine SB.add (fun ta ka => ?_) (mul_add_size hcl hkl)
        k_steps
        unfold Hold
        exact ⟨_, _, _, rfl, kFx, kNx, off, trivial, rfl, _, rfl⟩
      case cfin =>
        unfold KPfDone
        intro ys hys hlen
        k_steps
        unfold Hold
        rename Fr _ _ _ _ => kF9
        rename News _ _ _ _ => kN9
        refine KT.join_B 10 (newsList kN9 (List.Mem.head _)) hys ?_ (by rw [hlen]; omega) (by decide) ?_
        · exact piece_len htl hkn'
        · intro t9 k9
          k_steps
          unfold Hold
          k_dflt (refine' store_cell kF9 kN9 (List.Mem.tail _ mK) ?hc1 dK ?_ ?hk1 ?hx1; (case hc1 => exact rfl); (case hk1 => exact rfl); (case hx1 => exact rfl))
          intro h7 oK7 led7 kF10 kN10 hm7 dK7 hk7
          have x7 := (x6.mono (fun q hq => List.Mem.tail _ hq)).setK hLN kN9 dK hk7 hm7
          k_steps
          refine ⟨_, _, _, off I led7, rfl, kF10, off_news kN10 x7.i, off_ne, ⟨tt, _, _, oP5, oS2, oK7, _, _, q67, q60, q53, rfl, dP5, dS2, dK7, ?_, x7.close hLN kN10 (notCode_sit hsit)⟩⟩
          rw [known_next hkn']
          show List.filter _ _ = List.filter _ _
          rw [hc, Nat.add_assoc])
end Mine
end
theorem PySem.Challenge.cw_ph0078_01_holds : PySem.Challenge.rw_ph0078_01.Holds :=
  Mine.lw
