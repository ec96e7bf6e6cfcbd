import PyProof.Rows.All
import Wide.All
import OpenK.AllK
import Wide.FinOn
import KE.KTypeName
import Lean
import PySem.Challenge.RW_wa0022_01
set_option Elab.async false
namespace Mine
section
theorem freshSreL : True := by (w_top off; trivial)
open PySem PySem.Sre
set_option maxRecDepth 100000
/-- the code of (?m)^(?!$) -/
abbrev reC : Array Nat := #[14, 4, 0, 0, 0, 6, 1, 5, 5, 0, 6, 6, 1, 1]
abbrev f0 (s : Nat) (first : Bool) : Sre.Frame := { wait := .nextStart, pc := 5, pos := s, outermost := first }
abbrev f1 (s : Nat) (first : Bool) : Sre.Frame := { wait := .lookNot, pc := 7, pos := s, outermost := first, kept := { lastmark := -1, lastindex := -1, whole := false, marks := #[] } }
/-- the machine within an attempt at s -/
abbrev reM (text : Array Nat) (lim s : Nat) (must : Bool) (pc : Nat) (om : Bool) (fs : List Sre.Frame) (wt : Nat) (ans : Option Bool) (oc : Option Sre.Outcome) (seen : Seen) : M :=
  { code := reC, text, lim, start := s, lastStart := lim, mustAdvance := must, pc, pos := s, handed := s, outermost := om, marks := #[], frames := fs, weight := wt, answer := ans, outcome := oc, seen }
abbrev reSt (text : Array Nat) (lim s : Nat) (must first : Bool) (seen : Seen) : M := reM text lim s must 5 first [f0 s first] 1 none none seen
def bol (text : Array Nat) (s : Nat) : Bool := s == 0 || text.getD (s - 1) 0 == 10
def eol (text : Array Nat) (lim s : Nat) : Bool := s == lim || text.getD s 0 == 10
theorem runFor_add (a b : Nat) : ∀ m : M, m.runFor (a + b) = (m.runFor a).runFor b := by
  induction a with
  | zero => intro m; rw [Nat.zero_add]; rfl
  | succ a ih =>
    intro m
    rw [Nat.add_right_comm]
    show (if m.outcome.isSome then m else M.runFor (a + b) m.step) = M.runFor b (if m.outcome.isSome then m else M.runFor a m.step)
    split
    · rename_i h
      cases b with
      | zero => rfl
      | succ b => show m = if m.outcome.isSome then m else _; rw [if_pos h]
    · exact ih _
theorem runFor_stop {m : M} (h : m.outcome.isSome = true) : ∀ n : Nat, m.runFor n = m
  | 0 => rfl
  | n + 1 => by show (if m.outcome.isSome then m else _) = m; rw [if_pos h]
section
variable {text : Array Nat} {lim s wt : Nat} {must first om : Bool} {seen : Seen} {fs : List Sre.Frame}
theorem s1 : (reM text lim s must 5 om fs wt none none seen).step = if bol text s = true then reM text lim s must 7 om fs wt none none ((seen.add 6).add 44) else reM text lim s must 5 om fs wt (some false) none ((seen.add 6).add 44) := rfl
theorem s2 : (reM text lim s must 7 first [f0 s first] 1 none none seen).step = reM text lim s must 10 false [f1 s first, f0 s first] 2 none none (seen.add 5) := rfl
theorem s3 : (reM text lim s must 10 om fs wt none none seen).step = if eol text lim s = true then reM text lim s must 12 om fs wt none none ((seen.add 6).add 49) else reM text lim s must 10 om fs wt (some false) none ((seen.add 6).add 49) := rfl
theorem s4 : (reM text lim s must 12 false fs wt none none seen).step = reM text lim s must 12 false fs wt (some true) none (seen.add 1) := rfl
theorem s5t : (reM text lim s must 12 false [f1 s first, f0 s first] 2 (some true) none seen).step = reM text lim s must 7 first [f0 s first] 1 (some false) none seen := rfl
theorem s5f : (reM text lim s must 10 false [f1 s first, f0 s first] 2 (some false) none seen).step = reM text lim s must 13 first [f0 s first] 1 none none seen := rfl
theorem s6 : (reM text lim s must 13 first fs wt none none seen).step = reM text lim s must 13 first fs wt (some (!(first && must))) none (seen.add 1) := by
  cases first <;> cases must <;> simp [M.step, M.exec, M.word, M.say, ops]
theorem s7t {pc : Nat} : (reM text lim s must pc om [f0 s first] 1 (some true) none seen).step = reM text lim s must 5 first [] 0 (some true) none seen := rfl
theorem s7f {pc : Nat} : (reM text lim s must pc om [f0 s first] 1 (some false) none seen).step = if s < lim then reSt text lim (s + 1) false false seen else reM text lim s must 5 first [] 0 (some false) none seen := rfl
theorem s8 {b : Bool} {pc : Nat} : (reM text lim s must pc om [] wt (some b) none seen).step = reM text lim s must pc om [] wt (some b) (some (if b then .matched else .failed)) seen := rfl
/-- a row begins at s -/
def good (text : Array Nat) (lim s : Nat) : Bool := bol text s && !eol text lim s
theorem go1 {m : M} (h : m.outcome = none) (n : Nat) : m.runFor (n + 1) = m.step.runFor n := by
  show (if m.outcome.isSome then m else M.runFor n m.step) = _
  rw [h]; rfl
/-- an attempt that fails, in 6 steps at most -/
theorem try_no (h : good text lim s = false ∨ (first && must) = true) : ∃ pc seen', (∃ n, n ≤ 5 ∧ (reSt text lim s must first seen).runFor n = reM text lim s must pc first [f0 s first] 1 (some false) none seen') := by
  cases hb : bol text s with
  | false =>
    refine ⟨5, (seen.add 6).add 44, 1, by omega, ?_⟩
    rw [go1 rfl, s1, if_neg (by rw [hb]; decide)]; rfl
  | true =>
    cases he : eol text lim s with
    | true =>
      refine ⟨7, ((((((seen.add 6).add 44).add 5).add 6).add 49).add 1), 5, by omega, ?_⟩
      rw [go1 rfl, s1, if_pos hb, go1 rfl, s2, go1 rfl, s3, if_pos he, go1 rfl, s4, go1 rfl, s5t]; rfl
    | false =>
      rcases h with h | h
      · unfold good at h; rw [hb, he] at h; cases h
      · refine ⟨13, ((((((seen.add 6).add 44).add 5).add 6).add 49).add 1), 5, by omega, ?_⟩
        rw [go1 rfl, s1, if_pos hb, go1 rfl, s2, go1 rfl, s3, if_neg (by rw [he]; decide), go1 rfl, s5f, go1 rfl, s6, h]; rfl
theorem try_yes (hg : good text lim s = true) (h : (first && must) = false) : ∃ pc seen', (reSt text lim s must first seen).runFor 7 = reM text lim s must pc first [] 0 (some true) (some .matched) seen' := by
  unfold good at hg
  simp only [Bool.and_eq_true, Bool.not_eq_true'] at hg
  refine ⟨5, ((((((seen.add 6).add 44).add 5).add 6).add 49).add 1), ?_⟩
  rw [go1 rfl, s1, if_pos hg.1, go1 rfl, s2, go1 rfl, s3, if_neg (by rw [hg.2]; decide), go1 rfl, s5f, go1 rfl, s6, h, go1 rfl]
  show (reM text lim s must 13 first [f0 s first] 1 (some true) none _).step.runFor 1 = _
  rw [s7t, go1 rfl, s8]; rfl
theorem try_next (h : good text lim s = false ∨ (first && must) = true) (hl : s < lim) : ∃ n seen', n ≤ 6 ∧ (reSt text lim s must first seen).runFor n = reSt text lim (s + 1) false false seen' := by
  obtain ⟨pc, seen', n, hn, e⟩ := try_no (must := must) (first := first) (seen := seen) h
  refine ⟨n + 1, seen', by omega, ?_⟩
  rw [runFor_add, e, go1 rfl, s7f, if_pos hl]; rfl
theorem try_last (h : good text lim s = false ∨ (first && must) = true) (hl : ¬ s < lim) : ∃ n m', n ≤ 7 ∧ (reSt text lim s must first seen).runFor n = m' ∧ m'.outcome = some .failed := by
  obtain ⟨pc, seen', n, hn, e⟩ := try_no (must := must) (first := first) (seen := seen) h
  refine ⟨n + 2, _, by omega, rfl, ?_⟩
  rw [runFor_add, e, go1 rfl, s7f, if_neg hl, go1 rfl, s8]; rfl
end
/-- the search finds the first row that begins from s on -/
theorem finds {text : Array Nat} {lim p : Nat} (hp : good text lim p = true) (hl : p < lim) : ∀ (d s : Nat) (must first : Bool) (seen : Seen), s + d = p → (0 < d → good text lim s = false ∨ (first && must) = true) → (d = 0 → (first && must) = false) → (∀ j, s < j → j < p → good text lim j = false) →
    ∃ n m', n ≤ 7 * (d + 1) ∧ (reSt text lim s must first seen).runFor n = m' ∧ m'.outcome = some .matched ∧ m'.start = p ∧ m'.handed = p
  | 0, s, must, first, seen, e, _, h, _ => by
    obtain rfl : s = p := by omega
    obtain ⟨pc, seen', e'⟩ := try_yes (seen := seen) hp (h rfl)
    exact ⟨7, _, by omega, e', rfl, rfl, rfl⟩
  | d + 1, s, must, first, seen, e, h1, _, h => by
    obtain ⟨n, seen', hn, e'⟩ := try_next (seen := seen) (h1 (by omega)) (by omega : s < lim)
    obtain ⟨n', m', hn', e'', r⟩ := finds hp hl d (s + 1) false false seen' (by omega) (fun hd => .inl (h (s + 1) (by omega) (by omega))) (fun _ => rfl) fun j h1 h2 => h j (by omega) h2
    exact ⟨n + n', m', by omega, by rw [runFor_add, e', e''], r⟩
/-- the search that finds none -/
theorem finds_none {text : Array Nat} {lim : Nat} : ∀ (d s : Nat) (must first : Bool) (seen : Seen), s + d = lim → (good text lim s = false ∨ (first && must) = true) → (∀ j, s < j → j ≤ lim → good text lim j = false) →
    ∃ n m', n ≤ 7 * (d + 1) ∧ (reSt text lim s must first seen).runFor n = m' ∧ m'.outcome = some .failed
  | 0, s, must, first, seen, e, h, _ => by
    obtain ⟨n, m', hn, e', r⟩ := try_last (seen := seen) h (by omega : ¬ s < lim)
    exact ⟨n, m', by omega, e', r⟩
  | d + 1, s, must, first, seen, e, h, hj => by
    obtain ⟨n, seen', hn, e'⟩ := try_next (seen := seen) h (by omega : s < lim)
    obtain ⟨n', m', hn', e'', r⟩ := finds_none d (s + 1) false false seen' (by omega) (.inl (hj (s + 1) (by omega) (by omega))) fun j h1 h2 => hj j (by omega) h2
    exact ⟨n + n', m', by omega, by rw [runFor_add, e', e''], r⟩
theorem search_is {text : Array Nat} {lim s : Nat} {must : Bool} (h : s ≤ lim) : Sre.forSearch reC text 0 s lim must = reSt text lim s must true (({} : Seen).add 14) := by
  unfold Sre.forSearch
  show (if (decide (s > lim) || decide (lim - s < 0)) = true then _ else _) = _
  rw [if_neg (by simp; omega)]
  rfl
end
section
theorem freshHd : True := by (w_top off; trivial)
open PySem PySem.W PyProof.Rows
set_option maxRecDepth 100000 in
set_option maxHeartbeats 8000000 in
open_top hd for PySem.Challenge.rw_wa0022_01
end
section
theorem freshLoops : True := by (w_top off; trivial)
open PySem PySem.W PySem.Spec PySem.Calls PyProof.Rows PyProof.V
set_option maxRecDepth 100000
abbrev Led := List (Addr × Obj)
theorem mem_mk {α : Type} {a : α} {l : List α} (h : a ∈ l) : List.Mem a l := h
theorem ne_of_all {news : Led} {d : Addr} (h : ∀ p ∈ news, p.1 < d) : ∀ p ∈ news, p.1 ≠ d := fun p hp => Nat.ne_of_lt (h p hp)
theorem ne_of_allLt {news : Led} {d : Addr} (h : AllLt d news) : ∀ p ∈ news, p.1 ≠ d := fun p hp => Nat.ne_of_lt (tb_ltOf h p hp)
theorem off1_all {I : Addr} : ∀ {l : Led}, LCg.Off1 I l → ∀ p ∈ l, p.1 ≠ I
  | [], _, _, h => nomatch h
  | _ :: _, x, p, h => by
    rcases List.mem_cons.mp h with rfl | h
    · exact x.1
    · exact off1_all x.2 p h
theorem all_off1 {I : Addr} : ∀ {l : Led}, (∀ p ∈ l, p.1 ≠ I) → LCg.Off1 I l
  | [], _ => trivial
  | _ :: _, h => ⟨h _ List.mem_cons_self, all_off1 fun p hp => h p (List.mem_cons_of_mem _ hp)⟩
theorem ne_of_off1 {news : Led} {d : Addr} (h : LCg.Off1 d news) : ∀ p ∈ news, p.1 ≠ d := off1_all h
theorem news_cons {h₀ h : Heap} {L : Addr} {p : Addr × Obj} {l : Led} (a : h.get? p.1 = some p.2 ∧ p.1 ≠ L ∧ h₀.get? p.1 = none) (N : News h₀ L h l) : News h₀ L h (p :: l) := fun q hq => by
  rcases List.mem_cons.mp hq with rfl | hq
  · exact a
  · exact N q hq
/-- what a turn of a loop leaves behind: a letter c with its ledger, its names and its word -/
def LStep {σ : Type} (h₀ : Heap) (L : Addr) (Ld : σ → Led) (ps : σ → List (Str × Value)) (x : Str) (stored : List Str) (m₀ : Str → Option Value) (P : σ → Prop) (I : Addr) (oI : Obj) (s₁ : Shared) (Q : Flow → Shared → Prop) (f : Flow) (s₂ : Shared) : Prop :=
  match f with
  | .ret v => Q (.ret v) s₂
  | .brk => Q .next s₂
  | _ => ∃ c h' tk m', s₂ = { s₁ with heap := h', toks := tk } ∧ Fr h₀ L h' m' ∧ News h₀ L h' ((I, oI) :: Ld c) ∧ (∀ p ∈ Ld c, p.1 ≠ I) ∧ (∀ p ∈ ps c, m' p.1 = some p.2) ∧ (∀ z, z ≠ x → (∀ p ∈ ps c, z ≠ p.1) → stored.contains z = false → m' z = m₀ z) ∧ P c
section
variable {σ : Type} {h₀ : Heap} {L : Addr} {Ld : σ → Led} {ps : σ → List (Str × Value)} {x : Str} {stored : List Str} {m₀ : Str → Option Value} {P : σ → Prop} {I : Addr} {oI : Obj} {s₁ : Shared} {Q : Flow → Shared → Prop}
theorem LStep.intro {m' : Str → Option Value} {all : Led} {h' : Heap} {tk : Nat} (c : σ) (F : Fr h₀ L h' m') (N : News h₀ L h' all) (hs : ∀ p ∈ (I, oI) :: Ld c, p ∈ all) (off : ∀ p ∈ Ld c, p.1 ≠ I)
    (hk : ∀ p ∈ ps c, m' p.1 = some p.2) (hr : ∀ z, z ≠ x → (∀ p ∈ ps c, z ≠ p.1) → stored.contains z = false → m' z = m₀ z) (hp : P c) :
    LStep h₀ L Ld ps x stored m₀ P I oI s₁ Q .next { s₁ with heap := h', toks := tk } := ⟨c, h', tk, m', rfl, F, fun p hp => N p (hs p hp), off, hk, hr, hp⟩
theorem LStep.brk {s₂ : Shared} (h : Q .next s₂) : LStep h₀ L Ld ps x stored m₀ P I oI s₁ Q .brk s₂ := h
theorem LStep.ret {v : Value} {s₂ : Shared} (h : Q (.ret v) s₂) : LStep h₀ L Ld ps x stored m₀ P I oI s₁ Q (.ret v) s₂ := h
end
section
variable {prog : Program} {w : World} {A : Around} {E : Value → Shared → Prop} {s : Shared} {env : Env} {h₀ : Heap} {x : Str} {body : List Stmt} {Q : Flow → Shared → Prop}
/-- the loop's rule, over anything that is walked -/
theorem loopG {σ : Type} {I : Addr} {fp : List Addr} {n : Nat} {Pv : Nat → Value → Prop} {St : Nat → Heap → Prop} {m₀ : Str → Option Value} {keep : Led} (Ld : σ → Led) (ps : σ → List (Str × Value)) (stored : List Str) (P : Nat → σ → Prop) (c₀ : σ)
    (W : Walks prog w A I fp [I] n Pv St) (hIo : ∀ i h, St i h → ∃ o, h.get? I = some o) (hLf : env.locals ∉ fp) (hI₀ : h₀.get? I = none)
    (hfp : ∀ b ∈ fp, b = I ∨ (∃ o, h₀.get? b = some o) ∨ ∃ o, (b, o) ∈ keep) (hkp : ∀ c, ∀ p ∈ keep, p ∈ Ld c)
    (hst : St 0 s.heap) (F : Fr h₀ env.locals s.heap m₀) (N : News h₀ env.locals s.heap (Ld c₀)) (hoff : ∀ p ∈ Ld c₀, p.1 ≠ I) (hk : ∀ p ∈ ps c₀, m₀ p.1 = some p.2) (hp : P 0 c₀)
    (turn : ∀ i v c (u : Str → Option Value) h tk oI, i < n → Pv i v → (∀ p ∈ Ld c, p.1 ≠ I) → P i c → Fr h₀ env.locals h (fun y => if y = x then some v else kstB (fun z => if stored.contains z then u z else m₀ z) (ps c) y) → News h₀ env.locals h ((I, oI) :: Ld c) →
      wpAny (model prog w) A (execs body env) (LStep h₀ env.locals Ld ps x stored m₀ (P (i + 1)) I oI { s with heap := h, toks := tk } Q) E { s with heap := h, toks := tk })
    (done : ∀ c (u : Str → Option Value) h tk, P n c → Fr h₀ env.locals h (fun y => if y = x then u y else kstB (fun z => if stored.contains z then u z else m₀ z) (ps c) y) → News h₀ env.locals h (Ld c) → Q .next { s with heap := h, toks := tk }) :
    LoopAtV prog w A h₀ env x body Q E (.ref I) s := by
  have hwr : ∀ b ∈ [I], h₀.get? b = none := fun b hb => by rw [List.mem_singleton.mp hb]; exact hI₀
  have nw : ∀ {c : σ}, (∀ p ∈ Ld c, p.1 ≠ I) → ∀ p ∈ Ld c, p.1 ∉ [I] := fun h p hp hb => h p hp (List.mem_singleton.mp hb)
  refine ⟨I, fp, [I], n, Pv, St, m₀, Ld c₀, fun i m nx => ∃ c, nx = Ld c ∧ (∀ p ∈ ps c, m p.1 = some p.2) ∧ (∀ z, z ≠ x → (∀ p ∈ ps c, z ≠ p.1) → stored.contains z = false → m z = m₀ z) ∧ P i c, rfl, W, hLf, hwr, nw hoff, hst, F, N, ⟨c₀, rfl, hk, fun _ _ _ _ => rfl, hp⟩, ?_, ?_⟩
  · rintro i v m₁ news₁ s₁ own ⟨h, tk, rfl⟩ hi hP ⟨c, rfl, h1, h2, hpc⟩ ho hsub hget hall hst₁ F₁ N₁
    have hst₂ : St (i + 1) h := hst₁
    have F₂ : Fr h₀ env.locals h (fun y => if y = x then some v else m₁ y) := F₁
    have N₂ : News h₀ env.locals h (own ++ Ld c) := N₁
    obtain ⟨oI, heI⟩ := hIo _ _ hst₂
    have hI : (I, oI) ∈ own := hall I (W.sub I (List.mem_singleton.mpr rfl)) hI₀ oI heI
    have off : ∀ p ∈ Ld c, p.1 ≠ I := fun p hp e => ho p hp (by rw [e]; exact List.mem_singleton.mpr rfl)
    have N₃ : News h₀ env.locals h ((I, oI) :: Ld c) := fun p hp => by
      rcases List.mem_cons.mp hp with rfl | hp
      · exact N₂ _ (List.mem_append_left _ hI)
      · exact N₂ _ (List.mem_append_right _ hp)
    refine wpAny_mono (turn i v c m₁ h tk oI hi hP off hpc (kst_fr h1 h2 F₂) N₃) (fun f s₂ q => ?_) fun _ _ e => e
    have fin : ∀ {f' : Flow}, f' = .next ∨ f' = .cont → LStep h₀ env.locals Ld ps x stored m₀ (P (i + 1)) I oI { s with heap := h, toks := tk } Q f' s₂ →
        LoopStepU h₀ env.locals [I] own (fun m nx => ∃ c, nx = Ld c ∧ (∀ p ∈ ps c, m p.1 = some p.2) ∧ (∀ z, z ≠ x → (∀ p ∈ ps c, z ≠ p.1) → stored.contains z = false → m z = m₀ z) ∧ P (i + 1) c) { s with heap := h, toks := tk } .next s₂ := by
      intro f' hf' q
      have q' : ∃ c h' tk' m', s₂ = { s with heap := h', toks := tk' } ∧ Fr h₀ env.locals h' m' ∧ News h₀ env.locals h' ((I, oI) :: Ld c) ∧ (∀ p ∈ Ld c, p.1 ≠ I) ∧ (∀ p ∈ ps c, m' p.1 = some p.2) ∧ (∀ z, z ≠ x → (∀ p ∈ ps c, z ≠ p.1) → stored.contains z = false → m' z = m₀ z) ∧ P (i + 1) c := by
        rcases hf' with rfl | rfl <;> exact q
      obtain ⟨c', h', tk', m', rfl, F', N', off', k1, k2, hp'⟩ := q'
      refine ⟨rfl, h', tk', m', Ld c', rfl, F', fun p hp => ?_, nw off', c', rfl, k1, k2, hp'⟩
      rcases List.mem_append.mp hp with hp | hp
      · have hg : h.get? p.1 = some p.2 := hget p hp
        rcases hfp p.1 (hsub p hp) with e | ⟨o, e⟩ | ⟨o, e⟩
        · have : p.2 = oI := by rw [e] at hg; rw [hg] at heI; exact Option.some.inj heI
          have ep : p = (I, oI) := Prod.ext e this
          rw [ep]; exact N' _ (List.mem_cons_self ..)
        · have := (N₂ p (List.mem_append_left _ hp)).2.2
          rw [this] at e; cases e
        · have z := (N₂ _ (List.mem_append_right _ (hkp c _ e))).1
          have z' : h.get? p.1 = some o := z
          rw [hg] at z'
          have ep : p = (p.1, o) := Prod.ext rfl (Option.some.inj z')
          rw [ep]; exact N' _ (List.mem_cons_of_mem _ (hkp c' _ e))
      · exact N' p (List.mem_cons_of_mem _ hp)
    cases f with
    | ret v => exact .ret q
    | brk => exact .brk q
    | next => exact .next (fin (.inl rfl) q)
    | cont => exact .cont (fin (.inr rfl) q)
  · rintro h' tk m' news' F' N' _ ⟨c, rfl, h1, h2, hpc⟩
    exact done c m' h' tk hpc (kst_frOut h1 h2 F') N'
/-- for x in a list of the ledger -/
theorem for_list {σ : Type} {ax : Addr} {vs : List Value} {nn : Nat} {m₀ : Str → Option Value} (Ld : σ → Led) (ps : σ → List (Str × Value)) (stored : List Str) (P : Nat → σ → Prop) (c₀ : σ)
    (hh : A.handled = none) (hl : ∀ c, (ax, listOf vs.toArray nn) ∈ Ld c) (F : Fr h₀ env.locals s.heap m₀) (N : News h₀ env.locals s.heap (Ld c₀)) (hk : ∀ p ∈ ps c₀, m₀ p.1 = some p.2) (hp : P 0 c₀)
    (turn : ∀ i v c (u : Str → Option Value) h tk I oI, vs[i]? = some v → (∀ p ∈ Ld c, p.1 ≠ I) → P i c → Fr h₀ env.locals h (fun y => if y = x then some v else kstB (fun z => if stored.contains z then u z else m₀ z) (ps c) y) → News h₀ env.locals h ((I, oI) :: Ld c) →
      wpAny (model prog w) A (execs body env) (LStep h₀ env.locals Ld ps x stored m₀ (P (i + 1)) I oI { s with heap := h, toks := tk } Q) E { s with heap := h, toks := tk })
    (done : ∀ c (u : Str → Option Value) h tk, P vs.length c → Fr h₀ env.locals h (fun y => if y = x then u y else kstB (fun z => if stored.contains z then u z else m₀ z) (ps c) y) → News h₀ env.locals h (Ld c) → Q .next { s with heap := h, toks := tk }) :
    wpAny (model prog w) A (pyIter (.ref ax)) (fun it s₂ => LoopAtV prog w A h₀ env x body Q E it s₂) E s := by
  have hax := N _ (hl c₀)
  have hls : s.heap.IsList ax vs.toArray := ⟨_, hax.1, rfl, _, rfl⟩
  have hlt : ax < s.heap.objs.size := Heap.lt_size hax.1
  refine wpAny_pyIter_list hls ?_
  have up : ∀ b o, s.heap.get? b = some o → (s.heap.push { cls := .type "list_iterator", data := .fields #[.ref ax, .int 0 0] }).get? b = some o := fun b o e => Heap.get?_push_of_some _ e
  have W := Walks.list (prog := prog) (w := w) hh s.heap.objs.size ax (Nat.ne_of_lt hlt) vs.toArray
  rw [List.size_toArray] at W
  refine loopG (keep := [(ax, listOf vs.toArray nn)]) Ld ps stored P c₀ W (fun i h st => by obtain ⟨o, e, _⟩ := st.1; exact ⟨o, e⟩) ?_ (next_is_new F) ?_ (fun c p hp => by rw [List.mem_singleton.mp hp]; exact hl c)
    ⟨⟨_, Heap.get?_push_size _ rfl, rfl, rfl⟩, hls.at fun o e => up _ _ e⟩ (F.keeps up) (N.grown up) (fun p hp => Nat.ne_of_lt (Heap.lt_size (N p hp).1)) hk hp ?_ ?_
  · intro hm
    rcases List.mem_cons.mp hm with e | hm
    · exact absurd F.ns.lt (e ▸ Nat.lt_irrefl _)
    · exact hax.2.1 (List.mem_singleton.mp hm).symm
  · intro b hb
    rcases List.mem_cons.mp hb with e | hb
    · exact .inl e
    · exact .inr (.inr ⟨_, by rw [List.mem_singleton.mp hb]; exact List.mem_singleton.mpr rfl⟩)
  · intro i v c u h tk oI _ hv off hpc F₁ N₁
    exact turn i v c u h tk _ oI (by simpa using hv) off hpc F₁ N₁
  · intro c u h tk hpc F₁ N₁
    exact done c u h tk hpc F₁ N₁
/-- for x in range(a, b) -/
theorem for_range {σ : Type} {r : Addr} {a₀ b₀ : Int} {t₀ u₀ v₀ : Tok} {n : Nat} {m₀ : Str → Option Value} (Ld : σ → Led) (ps : σ → List (Str × Value)) (stored : List Str) (P : Nat → σ → Prop) (c₀ : σ)
    (hh : A.handled = none) (hr : IsRange s.heap r a₀ b₀ 1 t₀ u₀ v₀) (hsmall : Builtin.Range.small a₀ b₀ 1 = true) (hn : Builtin.Range.rangeSize a₀ b₀ 1 = (n : Int)) (F : Fr h₀ env.locals s.heap m₀) (N : News h₀ env.locals s.heap (Ld c₀)) (hk : ∀ p ∈ ps c₀, m₀ p.1 = some p.2) (hp : P 0 c₀)
    (turn : ∀ (i : Nat) t c (u : Str → Option Value) h tk I oI, i < n → (∀ p ∈ Ld c, p.1 ≠ I) → P i c → Fr h₀ env.locals h (fun y => if y = x then some (.int (a₀ + (i : Int)) t) else kstB (fun z => if stored.contains z then u z else m₀ z) (ps c) y) → News h₀ env.locals h ((I, oI) :: Ld c) →
      wpAny (model prog w) A (execs body env) (LStep h₀ env.locals Ld ps x stored m₀ (P (i + 1)) I oI { s with heap := h, toks := tk } Q) E { s with heap := h, toks := tk })
    (done : ∀ c (u : Str → Option Value) h tk, P n c → Fr h₀ env.locals h (fun y => if y = x then u y else kstB (fun z => if stored.contains z then u z else m₀ z) (ps c) y) → News h₀ env.locals h (Ld c) → Q .next { s with heap := h, toks := tk }) :
    wpAny (model prog w) A (pyIter (.ref r)) (fun it s₂ => LoopAtV prog w A h₀ env x body Q E it s₂) E s := by
  refine wpAny_pyIter_range hr hsmall ?_
  have W : Walks prog w A s.heap.objs.size [s.heap.objs.size] [s.heap.objs.size] n (fun i v => i < n ∧ ∃ t, v = .int (a₀ + i * 1) t)
      (fun i h => IsRangeIter h s.heap.objs.size (a₀ + (i : Nat) * 1) ((n : Int) - (i : Nat)) 1) := (Walks.range hh _ a₀ 1 n).bound
  refine loopG (keep := []) Ld ps stored P c₀ W (fun i h st => ⟨_, st⟩) ?_ (next_is_new F) ?_ (fun c p hp => nomatch hp) (by show IsRangeIter _ _ _ _ _; rw [hn]; simpa using Heap.get?_push_size _ rfl) (F.push _) (fun p hp => ⟨Heap.get?_push_of_some _ (N p hp).1, (N p hp).2⟩) (fun p hp => Nat.ne_of_lt (Heap.lt_size (N p hp).1)) hk hp ?_ ?_
  · intro hm
    exact absurd F.ns.lt ((List.mem_singleton.mp hm) ▸ Nat.lt_irrefl _)
  · intro b hb
    exact .inl (List.mem_singleton.mp hb)
  · rintro i v c u h tk oI hi ⟨_, t, rfl⟩ off hpc F₁ N₁
    have e1 : a₀ + (i : Int) * 1 = a₀ + (i : Int) := by omega
    rw [e1] at F₁
    exact turn i t c u h tk _ oI hi off hpc F₁ N₁
  · intro c u h tk hpc F₁ N₁
    exact done c u h tk hpc F₁ N₁
/-- for ch in a text -/
theorem for_str {σ : Type} {xt : Str} {tx : Tok} {m₀ : Str → Option Value} (Ld : σ → Led) (ps : σ → List (Str × Value)) (stored : List Str) (P : Nat → σ → Prop) (c₀ : σ)
    (hh : A.handled = none) (F : Fr h₀ env.locals s.heap m₀) (N : News h₀ env.locals s.heap (Ld c₀)) (hk : ∀ p ∈ ps c₀, m₀ p.1 = some p.2) (hp : P 0 c₀)
    (turn : ∀ (i k : Nat) t c (u : Str → Option Value) h tk I oI, xt.cps[i]? = some k → (∀ p ∈ Ld c, p.1 ≠ I) → P i c → Fr h₀ env.locals h (fun y => if y = x then some (.str ⟨#[k]⟩ t) else kstB (fun z => if stored.contains z then u z else m₀ z) (ps c) y) → News h₀ env.locals h ((I, oI) :: Ld c) →
      wpAny (model prog w) A (execs body env) (LStep h₀ env.locals Ld ps x stored m₀ (P (i + 1)) I oI { s with heap := h, toks := tk } Q) E { s with heap := h, toks := tk })
    (done : ∀ c (u : Str → Option Value) h tk, P xt.cps.size c → Fr h₀ env.locals h (fun y => if y = x then u y else kstB (fun z => if stored.contains z then u z else m₀ z) (ps c) y) → News h₀ env.locals h (Ld c) → Q .next { s with heap := h, toks := tk }) :
    wpAny (model prog w) A (pyIter (.str xt tx)) (fun it s₂ => LoopAtV prog w A h₀ env x body Q E it s₂) E s := by
  have key : ∀ (o : Obj) (cls : String) (hfree : o.isFreed = false), (∃ St : Nat → Heap → Prop, Walks prog w A s.heap.objs.size [s.heap.objs.size] [s.heap.objs.size] xt.cps.size (SignAt xt) St ∧ St 0 (s.heap.push o) ∧ (∀ i h, St i h → ∃ o, h.get? s.heap.objs.size = some o)) →
      LoopAtV prog w A h₀ env x body Q E (.ref s.heap.objs.size) { s with heap := s.heap.push o } := by
    rintro o cls _ ⟨St, W, hst, hIo⟩
    refine loopG (keep := []) (s := { s with heap := s.heap.push o }) Ld ps stored P c₀ W hIo ?_ (next_is_new F) ?_ (fun c p hp => nomatch hp) hst (F.push _) (fun p hp => ⟨Heap.get?_push_of_some _ (N p hp).1, (N p hp).2⟩) (fun p hp => Nat.ne_of_lt (Heap.lt_size (N p hp).1)) hk hp ?_ ?_
    · intro hm
      exact absurd F.ns.lt ((List.mem_singleton.mp hm) ▸ Nat.lt_irrefl _)
    · intro b hb
      exact .inl (List.mem_singleton.mp hb)
    · rintro i v c u h tk oI hi ⟨k, t, hk', rfl⟩ off hpc F₁ N₁
      exact turn i k t c u h tk _ oI (by simpa using hk') off hpc F₁ N₁
    · intro c u h tk hpc F₁ N₁
      exact done c u h tk hpc F₁ N₁
  cases ha : xt.cps.all (· < 128)
  · exact wpAny_pyIter_wide ha (key _ "" rfl ⟨_, Walks.strWide hh _ xt tx, ⟨_, Heap.get?_push_size _ rfl, rfl, rfl⟩, fun i h st => by obtain ⟨o, e, _⟩ := st; exact ⟨o, e⟩⟩)
  · exact wpAny_pyIter_ascii ha (key _ "" rfl ⟨_, Walks.strAscii hh _ xt tx, ⟨_, Heap.get?_push_size _ rfl, rfl, rfl⟩, fun i h st => by obtain ⟨o, e, _⟩ := st; exact ⟨o, e⟩⟩)
theorem for_str0 {σ : Type} {xt : Str} {tx : Tok} {m₀ : Str → Option Value} {news : Led} (ps : σ → List (Str × Value)) (stored : List Str) (P : Nat → σ → Prop) (c₀ : σ)
    (hh : A.handled = none) (F : Fr h₀ env.locals s.heap m₀) (N : News h₀ env.locals s.heap news) (hk : ∀ p ∈ ps c₀, m₀ p.1 = some p.2) (hp : P 0 c₀)
    (turn : ∀ (i k : Nat) t c (u : Str → Option Value) h tk I oI, xt.cps[i]? = some k → (∀ p ∈ news, p.1 ≠ I) → P i c → Fr h₀ env.locals h (fun y => if y = x then some (.str ⟨#[k]⟩ t) else kstB (fun z => if stored.contains z then u z else m₀ z) (ps c) y) → News h₀ env.locals h ((I, oI) :: news) →
      wpAny (model prog w) A (execs body env) (LStep h₀ env.locals (fun _ => news) ps x stored m₀ (P (i + 1)) I oI { s with heap := h, toks := tk } Q) E { s with heap := h, toks := tk })
    (done : ∀ c (u : Str → Option Value) h tk, P xt.cps.size c → Fr h₀ env.locals h (fun y => if y = x then u y else kstB (fun z => if stored.contains z then u z else m₀ z) (ps c) y) → News h₀ env.locals h news → Q .next { s with heap := h, toks := tk }) :
    wpAny (model prog w) A (pyIter (.str xt tx)) (fun it s₂ => LoopAtV prog w A h₀ env x body Q E it s₂) E s := for_str (fun _ => news) ps stored P c₀ hh F N hk hp turn done
theorem for_range0 {σ : Type} {r : Addr} {a₀ b₀ : Int} {t₀ u₀ v₀ : Tok} {n : Nat} {m₀ : Str → Option Value} {news : Led} (ps : σ → List (Str × Value)) (stored : List Str) (P : Nat → σ → Prop) (c₀ : σ)
    (hh : A.handled = none) (hr : IsRange s.heap r a₀ b₀ 1 t₀ u₀ v₀) (hsmall : Builtin.Range.small a₀ b₀ 1 = true) (hn : Builtin.Range.rangeSize a₀ b₀ 1 = (n : Int)) (F : Fr h₀ env.locals s.heap m₀) (N : News h₀ env.locals s.heap news) (hk : ∀ p ∈ ps c₀, m₀ p.1 = some p.2) (hp : P 0 c₀)
    (turn : ∀ (i : Nat) t c (u : Str → Option Value) h tk I oI, i < n → (∀ p ∈ news, p.1 ≠ I) → P i c → Fr h₀ env.locals h (fun y => if y = x then some (.int (a₀ + (i : Int)) t) else kstB (fun z => if stored.contains z then u z else m₀ z) (ps c) y) → News h₀ env.locals h ((I, oI) :: news) →
      wpAny (model prog w) A (execs body env) (LStep h₀ env.locals (fun _ => news) ps x stored m₀ (P (i + 1)) I oI { s with heap := h, toks := tk } Q) E { s with heap := h, toks := tk })
    (done : ∀ c (u : Str → Option Value) h tk, P n c → Fr h₀ env.locals h (fun y => if y = x then u y else kstB (fun z => if stored.contains z then u z else m₀ z) (ps c) y) → News h₀ env.locals h news → Q .next { s with heap := h, toks := tk }) :
    wpAny (model prog w) A (pyIter (.ref r)) (fun it s₂ => LoopAtV prog w A h₀ env x body Q E it s₂) E s := for_range (fun _ => news) ps stored P c₀ hh hr hsmall hn F N hk hp turn done
end
section
variable {prog : Program} {w : World} {A : Around} {h₀ : Heap} {L : Addr} {m : Str → Option Value} {env : Env} {elt : Expr} {x : Str} {scope : Scope} {cl : List (Str × Addr)} {s : Shared} {S : Led → Prop} {P : Nat → Value → Prop} {Fin : List Value → Led → Prop} {news : Led}
/-- a comprehension by what holds of the items so far and of the ledger -/
theorem comp_rest {n : Nat} (J : Nat → List Value → Led → Prop) (h0 : J 0 [] news)
    (turn : ∀ i v I oI C oC D m₂ ys nx h tk (E' : Value → Shared → Prop), i < n → P i v → J i ys nx → LCg.NsObj oC m₂ → m₂ x = some v → Fr h₀ L h m → News h₀ L h ((I, oI) :: (C, oC) :: (D, LCg.lst ys) :: nx) → LCg.Off3 I C D nx → ((@Ne Nat I C) ∧ (@Ne Nat I D) ∧ (@Ne Nat C D)) →
      wpAny (model prog w) A (eval elt (compEnvC scope cl C env)) (LCg.CompEnd h₀ L m { s with heap := h, toks := tk } I oI C oC D (LCg.lst ys) S (fun y nx' => J (i + 1) (ys ++ [y]) nx')) E' { s with heap := h, toks := tk })
    (fin : ∀ ys nx, J n ys nx → Fin ys nx) : LCg.CompRest prog w A h₀ L m env elt x scope cl s S P Fin n 0 [] news := by
  have key : ∀ (j i : Nat) (ys : List Value) (nx : Led), i + j = n → J i ys nx → LCg.CompRest prog w A h₀ L m env elt x scope cl s S P Fin j i ys nx := by
    intro j
    induction j with
    | zero =>
      intro i ys nx hi hJ
      obtain rfl : i = n := by omega
      exact LCg.CompRest.zero (fin ys nx hJ)
    | succ j ih =>
      intro i ys nx hi hJ
      refine LCg.CompRest.succ ?_
      intro v I oI C oC D m₂ h tk E' hv hC hx F N off ne
      refine wpAny_mono (turn i v I oI C oC D m₂ ys nx h tk E' (by omega) hv hJ hC hx F N off ne) (fun y s₂ hq => ?_) fun _ _ e => e
      obtain ⟨h', tk', nw, e, F', N', off', hS, hJ'⟩ := hq
      exact ⟨h', tk', nw, e, F', N', off', hS, ih (i + 1) _ _ (by omega) hJ'⟩
  exact key n 0 [] news (by omega) h0
end
theorem strs_get : ∀ {vs : List Value} {xs : List Str} {i : Nat} {v : Value}, StrsAre vs xs → vs[i]? = some v → ∃ y t, xs[i]? = some y ∧ v = .str y t
  | _, _, _, _, .nil, h => by simp at h
  | _, _, 0, _, .cons y t _, h => ⟨y, t, rfl, by simpa using h.symm⟩
  | _, _, i + 1, _, .cons y t r, h => strs_get (i := i) r (by simpa using h)
theorem strs_len : ∀ {vs : List Value} {xs : List Str}, StrsAre vs xs → vs.length = xs.length
  | _, _, .nil => rfl
  | _, _, .cons _ _ r => congrArg (· + 1) (strs_len r)
theorem strs_at {vs : List Value} {xs : List Str} {i : Nat} {y : Str} (h : StrsAre vs xs) (hy : xs[i]? = some y) : ∃ t, vs[i]? = some (.str y t) := by
  have hi : i < vs.length := by rw [strs_len h]; exact (List.getElem?_eq_some_iff.mp hy).1
  obtain ⟨y', t, e, e'⟩ := strs_get h (List.getElem?_eq_getElem hi)
  rw [hy] at e; cases e
  exact ⟨t, by rw [List.getElem?_eq_getElem hi, e']⟩
theorem strs_take : ∀ {vs : List Value} {xs : List Str} (k : Nat), StrsAre vs xs → StrsAre (vs.take k) (xs.take k)
  | _, _, 0, _ => by simpa using StrsAre.nil
  | _, _, k + 1, .nil => .nil
  | _, _, k + 1, .cons y t r => .cons y t (strs_take k r)
theorem strs_drop : ∀ {vs : List Value} {xs : List Str} (k : Nat), StrsAre vs xs → StrsAre (vs.drop k) (xs.drop k)
  | _, _, 0, h => h
  | _, _, k + 1, .nil => .nil
  | _, _, k + 1, .cons _ _ r => strs_drop k r
theorem strs_rev : ∀ {vs : List Value} {xs : List Str}, StrsAre vs xs → StrsAre vs.reverse xs.reverse
  | _, _, .nil => .nil
  | _, _, .cons y t r => by
    rw [List.reverse_cons, List.reverse_cons]
    exact (strs_rev r).append' (.cons y t .nil)
theorem strs_values : ∀ {vs : List Value} {xs : List Str}, StrsAre vs xs → ∃ l : List (Str × Tok), vs = strValues l ∧ l.map (·.1) = xs
  | _, _, .nil => ⟨[], rfl, rfl⟩
  | _, _, .cons y t r => by
    obtain ⟨l, rfl, rfl⟩ := strs_values r
    exact ⟨(y, t) :: l, rfl, rfl⟩
section
variable {prog : Program} {w : World} {A : Around} {h₀ : Heap} {L : Addr} {m : Str → Option Value} {env : Env} {elt : Expr} {x : Str} {scope : Scope} {cl : List (Str × Addr)} {s : Shared} {S : Led → Prop} {Fin : List Value → Led → Prop} {news : Led}
/-- a comprehension from texts to texts that makes nothing -/
theorem comp_strs {vs : List Value} {xs : List Str} (g : Str → Str) (hx : StrsAre vs xs)
    (turn : ∀ y t I oI C oC D m₂ ys h tk (E' : Value → Shared → Prop), y ∈ xs → LCg.NsObj oC m₂ → m₂ x = some (.str y t) → Fr h₀ L h m → News h₀ L h ((I, oI) :: (C, oC) :: (D, LCg.lst ys) :: news) → LCg.Off3 I C D news → ((@Ne Nat I C) ∧ (@Ne Nat I D) ∧ (@Ne Nat C D)) →
      wpAny (model prog w) A (eval elt (compEnvC scope cl C env)) (LCg.CompEnd h₀ L m { s with heap := h, toks := tk } I oI C oC D (LCg.lst ys) S (fun v nx' => nx' = news ∧ ∃ t, v = .str (g y) t)) E' { s with heap := h, toks := tk })
    (fin : ∀ ys, StrsAre ys (xs.map g) → Fin ys news) : LCg.CompRest prog w A h₀ L m env elt x scope cl s S (fun i v => vs.toArray[i]? = some v) Fin vs.toArray.size 0 [] news := by
  refine comp_rest (fun i ys nx => nx = news ∧ StrsAre ys ((xs.take i).map g)) ⟨rfl, by simpa using StrsAre.nil⟩ ?_ ?_
  · rintro i v I oI C oC D m₂ ys nx h tk E' hi hv ⟨rfl, hs⟩ hC hxv F N off ne
    obtain ⟨y, t, hy, rfl⟩ := strs_get hx (by simpa using hv)
    refine wpAny_mono (turn y t I oI C oC D m₂ ys h tk E' (List.mem_of_getElem? hy) hC hxv F N off ne) (fun v s₂ hq => ?_) fun _ _ e => e
    obtain ⟨h', tk', nw, e, F', N', off', hS, rfl, t', rfl⟩ := hq
    refine ⟨h', tk', nw, e, F', N', off', hS, rfl, ?_⟩
    rw [List.take_add_one, hy]
    simp only [Option.toList_some, List.map_append, List.map_cons, List.map_nil]
    exact hs.append' (.cons _ _ .nil)
  · rintro ys nx ⟨rfl, hs⟩
    have e : vs.toArray.size = xs.length := by rw [List.size_toArray, strs_len hx]
    rw [e, List.take_length] at hs
    exact fin ys hs
end
end
section
theorem freshOps : True := by (w_top off; trivial)
open PySem PySem.W PySem.Spec PySem.Calls PyProof.Rows PyProof.V
set_option maxRecDepth 100000
section
variable {prog : Program} {w : World} {A : Around} {E : Value → Shared → Prop} {s : Shared} {h₀ : Heap} {L l : Addr} {m : Str → Option Value} {news : Led} {value slice : Expr} {vs : List Value} {n : Nat} {t : Tok} {k : Int} {Q : Value → Shared → Prop}
theorem big_ok {n : Nat} (h : n ≤ 100000) : n ≤ sizeLine := by rw [sizeLine_eq]; omega
theorem len_led (N : News h₀ L s.heap news) (hm : (l, listOf vs.toArray n) ∈ news) (hb : vs.length ≤ 100000) (h : Q (.int (vs.length : Int) (s.toks + 1)) { s with toks := s.toks + 1 + 1 }) :
    wpAny (model prog w) A (call (.builtin "len") [.ref l]) Q E s := by
  refine len_list (News.isList N hm) (by rw [List.size_toArray]; omega) ?_
  rw [List.size_toArray]; exact h
theorem item_led {x : Value} (N : News h₀ L s.heap news) (hm : (l, listOf vs.toArray n) ∈ news) (h0 : 0 ≤ k) (hx : vs[k.toNat]? = some x) (hb : vs.length ≤ 100000) (h : Q x s)
    (hs : subscripted slice false (.ref l) (.int k t) = operate [.ref l, .int k t] (getItem (.ref l) (.int k t)) := by with_unfolding_all rfl) (hg : ∀ r, letTemporaryGo value (.ref l) r = pure () := by intro _; with_unfolding_all rfl) :
    wpAny (model prog w) A (subscriptTail value slice (.ref l) (.int k t)) Q E s :=
  kim_list N hm rfl rfl h0 (by have := (List.getElem?_eq_some_iff.mp hx).1; omega) hx h hs hg
theorem sl_butlast (F : Fr h₀ L s.heap m) (N : News h₀ L s.heap news) (hm : (l, listOf vs.toArray n) ∈ news) (hb : vs.length ≤ 100000)
    (h : ∀ D h', Fr h₀ L h' m → News h₀ L h' ((D, listOf (vs.take (vs.length - 1)).toArray 0) :: news) → (∀ p ∈ news, p.1 < D) → Q (.ref D) { s with heap := h' })
    (hs : subscripted slice false (.ref l) (.ref s.heap.objs.size) = operate [.ref s.heap.objs.size, .ref l] (getItem (.ref l) (.ref s.heap.objs.size))) (ht : ∀ r, letTemporaryGo value (.ref l) r = pure ()) :
    wpAny (model prog w) A (subscriptTail value slice (.ref l) (.ref s.heap.objs.size)) Q E { s with heap := s.heap.push { cls := .type "slice", data := .fields #[.none, .int (-1) t, .none] } } := by
  refine kmk_slice_lit F N (News.isList N hm) .none (.int _ _) ?_ h hs ht (by rw [List.size_toArray]; exact big_ok hb)
  have := slicePick_butLast vs.toArray 1 (Nat.le_refl _)
  rw [show ((-1 : Int)) = -((1 : Nat) : Int) from rfl, this]
  simp
theorem sl_init {x : Value} (F : Fr h₀ L s.heap m) (N : News h₀ L s.heap news) (hm : (l, listOf (vs ++ [x]).toArray n) ∈ news) (hb : vs.length ≤ 90000)
    (h : ∀ D h', Fr h₀ L h' m → News h₀ L h' ((D, listOf vs.toArray 0) :: news) → (∀ p ∈ news, p.1 < D) → Q (.ref D) { s with heap := h' })
    (hs : subscripted slice false (.ref l) (.ref s.heap.objs.size) = operate [.ref s.heap.objs.size, .ref l] (getItem (.ref l) (.ref s.heap.objs.size))) (ht : ∀ r, letTemporaryGo value (.ref l) r = pure ()) :
    wpAny (model prog w) A (subscriptTail value slice (.ref l) (.ref s.heap.objs.size)) Q E { s with heap := s.heap.push { cls := .type "slice", data := .fields #[.none, .int (-1) t, .none] } } := by
  refine sl_butlast F N hm (by rw [List.length_append]; simp only [List.length_cons, List.length_nil]; omega) ?_ hs ht
  have e : (vs ++ [x]).take ((vs ++ [x]).length - 1) = vs := by simp
  rw [e]; exact h
theorem sl_upto (F : Fr h₀ L s.heap m) (N : News h₀ L s.heap news) (hm : (l, listOf vs.toArray n) ∈ news) (h0 : 0 ≤ k) (hb : vs.length ≤ 100000)
    (h : ∀ D h', Fr h₀ L h' m → News h₀ L h' ((D, listOf (vs.take k.toNat).toArray 0) :: news) → (∀ p ∈ news, p.1 < D) → Q (.ref D) { s with heap := h' })
    (hs : subscripted slice false (.ref l) (.ref s.heap.objs.size) = operate [.ref s.heap.objs.size, .ref l] (getItem (.ref l) (.ref s.heap.objs.size))) (ht : ∀ r, letTemporaryGo value (.ref l) r = pure ()) :
    wpAny (model prog w) A (subscriptTail value slice (.ref l) (.ref s.heap.objs.size)) Q E { s with heap := s.heap.push { cls := .type "slice", data := .fields #[.none, .int k t, .none] } } := by
  refine kmk_slice_lit F N (News.isList N hm) .none (.int _ _) ?_ h hs ht (by rw [List.size_toArray]; exact big_ok hb)
  have := slicePick_upto' vs.toArray k.toNat
  rw [show ((k.toNat : Nat) : Int) = k from Int.toNat_of_nonneg h0] at this
  rw [this]
theorem sl_from (F : Fr h₀ L s.heap m) (N : News h₀ L s.heap news) (hm : (l, listOf vs.toArray n) ∈ news) (h0 : 0 ≤ k) (hb : vs.length ≤ 100000)
    (h : ∀ D h', Fr h₀ L h' m → News h₀ L h' ((D, listOf (vs.drop k.toNat).toArray 0) :: news) → (∀ p ∈ news, p.1 < D) → Q (.ref D) { s with heap := h' })
    (hs : subscripted slice false (.ref l) (.ref s.heap.objs.size) = operate [.ref s.heap.objs.size, .ref l] (getItem (.ref l) (.ref s.heap.objs.size))) (ht : ∀ r, letTemporaryGo value (.ref l) r = pure ()) :
    wpAny (model prog w) A (subscriptTail value slice (.ref l) (.ref s.heap.objs.size)) Q E { s with heap := s.heap.push { cls := .type "slice", data := .fields #[.int k t, .none, .none] } } := by
  refine kmk_slice_lit F N (News.isList N hm) (.int _ _) .none ?_ h hs ht (by rw [List.size_toArray]; exact big_ok hb)
  have := slicePick_from' vs.toArray k.toNat
  rw [show ((k.toNat : Nat) : Int) = k from Int.toNat_of_nonneg h0] at this
  rw [this]
theorem sl_rev {ops : List Value} (F : Fr h₀ L s.heap m) (N : News h₀ L s.heap news) (hm : (l, listOf vs.toArray n) ∈ news) (hb : vs.length ≤ 100000)
    (h : ∀ D h', Fr h₀ L h' m → News h₀ L h' ((D, listOf vs.reverse.toArray 0) :: news) → (∀ p ∈ news, p.1 < D) → Q (.ref D) { s with heap := h' })
    (hs : subscripted slice false (.ref l) (.ref s.heap.objs.size) = operate ops (getItem (.ref l) (.ref s.heap.objs.size))) (ht : ∀ r, letTemporaryGo value (.ref l) r = pure ()) :
    wpAny (model prog w) A (subscriptTail value slice (.ref l) (.ref s.heap.objs.size)) Q E { s with heap := s.heap.push { cls := .type "slice", data := .fields #[.none, .none, .int (-1) t] } } :=
  krv_lit F N (News.isList N hm) (.int _ _) rfl h hs ht (by rw [List.size_toArray]; exact big_ok hb)
/-- every sixth item from k on -/
def sixth (vs : List Value) (k : Nat) : List Value := (slicePick vs.toArray (some (k : Int)) none (some 6)).toList
theorem sl_sixth {ops : List Value} (F : Fr h₀ L s.heap m) (N : News h₀ L s.heap news) (hl : s.heap.IsList l vs.toArray) (h0 : 0 ≤ k) (hb : vs.length ≤ 100000)
    (h : ∀ D h', Fr h₀ L h' m → News h₀ L h' ((D, listOf (sixth vs k.toNat).toArray 0) :: news) → (∀ p ∈ news, p.1 < D) → Q (.ref D) { s with heap := h' })
    (hs : subscripted slice false (.ref l) (.ref s.heap.objs.size) = operate ops (getItem (.ref l) (.ref s.heap.objs.size))) (ht : ∀ r, letTemporaryGo value (.ref l) r = pure ()) {t' : Tok} :
    wpAny (model prog w) A (subscriptTail value slice (.ref l) (.ref s.heap.objs.size)) Q E { s with heap := s.heap.push { cls := .type "slice", data := .fields #[.int k t, .none, .int 6 t'] } } := by
  refine kmk_slice3_lit F N hl (.int _ _) .none (.int _ _) (by decide) ?_ h hs ht (by rw [List.size_toArray]; exact big_ok hb)
  unfold sixth
  rw [Int.toNat_of_nonneg h0]
theorem cat_led {b : Addr} {us : List Value} {k : Nat} (F : Fr h₀ L s.heap m) (N : News h₀ L s.heap news) (h1 : (l, listOf vs.toArray n) ∈ news) (h2 : (b, listOf us.toArray k) ∈ news) (hb : vs.length + us.length ≤ 100000)
    (h : ∀ D h', Fr h₀ L h' m → News h₀ L h' ((D, listOf (vs ++ us).toArray 0) :: news) → (∀ p ∈ news, p.1 < D) → Q (.ref D) { s with heap := h' }) :
    wpAny (model prog w) A (binaryOp .Add (.ref l) (.ref b)) Q E s :=
  add_arrays F N (News.isList N h1) (News.isList N h2) (fun h' F' N' => h _ h' F' N' fun p hp => Heap.lt_size (N p hp).1) (by rw [List.size_toArray, List.size_toArray]; exact big_ok hb)
theorem ne_nil {a b : Addr} {k : Nat} {r : Bool} (N : News h₀ L s.heap news) (h1 : (a, listOf vs.toArray n) ∈ news) (h2 : (b, listOf #[] k) ∈ news) (hu : A.units < cLine) (hr : decide (vs ≠ []) = r) (h : Q (.bool r) s) :
    wpAny (model prog w) A (compareOp .NotEq (.ref a) (.ref b)) Q E s := by
  subst hr
  refine cmp_ofNotEq ?_
  have l1 := News.isList N h1
  have l2 : s.heap.IsList b #[] := ⟨_, (N _ h2).1, rfl, _, rfl⟩
  cases vs with
  | nil => exact SeqAt.RcNeAt.lists (e := fun _ => true) l1 l2 rfl hu (fun j h1 _ => absurd h1 (Nat.not_lt_zero _)) prog w _ _ (by simpa using h)
  | cons x r => exact SeqAt.RcNeAt.lists_lengths l1 l2 (by simp) hu prog w _ _ (by simpa using h)
theorem item_last {us : List Value} {y : Value} (N : News h₀ L s.heap news) (hm : (l, listOf vs.toArray n) ∈ news) (hv : vs = us ++ [y]) (h : Q y s)
    (hs : subscripted slice false (.ref l) (.int (-1) t) = operate [.ref l, .int (-1) t] (getItem (.ref l) (.int (-1) t)) := by with_unfolding_all rfl) (hg : ∀ r, letTemporaryGo value (.ref l) r = pure () := by intro _; with_unfolding_all rfl) :
    wpAny (model prog w) A (subscriptTail value slice (.ref l) (.int (-1) t)) Q E s := by
  subst hv
  refine kim_back N hm rfl rfl (by decide) (by simp only [List.length_append, List.length_cons, List.length_nil]; omega) (by decide) ?_ h hs hg
  have e : ((-1 : Int) + ((us ++ [y]).length : Int)).toNat = us.length := by simp only [List.length_append, List.length_cons, List.length_nil]; omega
  rw [e]; simp
theorem pop_led {us : List Value} {y : Value} {news' : Led} (F : Fr h₀ L s.heap m) (N : News h₀ L s.heap news) (U : Upd l (listOf vs.toArray n) (listOf us.toArray (n + 1)) news news') (hv : vs = us ++ [y]) (hb : vs.length ≤ 100000)
    (h : ∀ h', Fr h₀ L h' m → News h₀ L h' news' → Q y { s with heap := h' }) : wpAny (model prog w) A (call (.builtin "list.pop") [.ref l]) Q E s := by
  subst hv
  exact kl_pop F N (its := (us ++ [y]).toArray) (kpa_last y us) U (big_ok hb) h
end
/-- what a turn of a for over pairs leaves behind -/
def TStep {σ : Type} (h₀ : Heap) (L : Addr) (news : Led) (ps : σ → List (Str × Value)) (stored : List Str) (m₀ : Str → Option Value) (P : σ → Prop) (I : Addr) (oI : Obj) (s₁ : Shared) (Q : Flow → Shared → Prop) (f : Flow) (s₂ : Shared) : Prop :=
  match f with
  | .ret v => Q (.ret v) s₂
  | .brk => Q .next s₂
  | _ => ∃ c h' tk m', s₂ = { s₁ with heap := h', toks := tk } ∧ Fr h₀ L h' m' ∧ News h₀ L h' ((I, oI) :: news) ∧ (∀ p ∈ ps c, m' p.1 = some p.2) ∧ (∀ z, (∀ p ∈ ps c, z ≠ p.1) → stored.contains z = false → m' z = m₀ z) ∧ P c
theorem TStep.intro {σ : Type} {h₀ : Heap} {L : Addr} {news all : Led} {ps : σ → List (Str × Value)} {stored : List Str} {m₀ m' : Str → Option Value} {P : σ → Prop} {I : Addr} {oI : Obj} {s₁ : Shared} {Q : Flow → Shared → Prop} {h' : Heap} {tk : Nat}
    (c : σ) (F : Fr h₀ L h' m') (N : News h₀ L h' all) (hs : ∀ p ∈ (I, oI) :: news, p ∈ all) (hk : ∀ p ∈ ps c, m' p.1 = some p.2) (hr : ∀ z, (∀ p ∈ ps c, z ≠ p.1) → stored.contains z = false → m' z = m₀ z) (hp : P c) :
    TStep h₀ L news ps stored m₀ P I oI s₁ Q .next { s₁ with heap := h', toks := tk } := ⟨c, h', tk, m', rfl, F, fun p hp => N p (hs p hp), hk, hr, hp⟩
section
variable {prog : Program} {w : World} {A : Around} {E : Value → Shared → Prop} {s : Shared} {env : Env} {h₀ : Heap} {target : Expr} {body : List Stmt} {Q : Flow → Shared → Prop}
theorem turns_list {σ : Type} {ax : Addr} {vs : List Value} {nn : Nat} {m₀ : Str → Option Value} {news : Led} (ps : σ → List (Str × Value)) (stored : List Str) (P : Nat → σ → Prop) (c₀ : σ)
    (hh : A.handled = none) (hm : (ax, listOf vs.toArray nn) ∈ news) (F : Fr h₀ env.locals s.heap m₀) (N : News h₀ env.locals s.heap news) (hk : ∀ p ∈ ps c₀, m₀ p.1 = some p.2) (hp : P 0 c₀)
    (turn : ∀ i v c (u : Str → Option Value) h tk I oI, vs[i]? = some v → (∀ p ∈ news, p.1 < I) → P i c → Fr h₀ env.locals h (kstB (fun z => if stored.contains z then u z else m₀ z) (ps c)) → News h₀ env.locals h ((I, oI) :: news) →
      wpAny (model prog w) A (assign target env v) (fun _ s₂ => wpAny (model prog w) A (execs body env) (TStep h₀ env.locals news ps stored m₀ (P (i + 1)) I oI { s with heap := h, toks := tk } Q) E s₂) E { s with heap := h, toks := tk })
    (done : ∀ c (u : Str → Option Value) h tk, P vs.length c → Fr h₀ env.locals h (kstB (fun z => if stored.contains z then u z else m₀ z) (ps c)) → News h₀ env.locals h news → Q .next { s with heap := h, toks := tk }) :
    wpAny (model prog w) A (pyIter (.ref ax)) (fun it s₂ => TurnsAt prog w A h₀ env target body Q E it s₂) E s := by
  refine iter_listTurns hh F N hm rfl rfl ?_
  intro I hI
  have key : ∀ (j i : Nat) (c : σ) (m₁ : Str → Option Value), i + j = vs.length → P i c → (∀ p ∈ ps c, m₁ p.1 = some p.2) → (∀ z, (∀ p ∈ ps c, z ≠ p.1) → stored.contains z = false → m₁ z = m₀ z) →
      ItemsRest prog w A E h₀ env target body Q s [(I, "list_iterator")] [(ax, listOf vs.toArray nn)] ((vs.drop i).map .val) m₁ news := by
    intro j
    induction j with
    | zero =>
      intro i c m₁ hij hP h1 h2
      obtain rfl : i = vs.length := by omega
      rw [List.drop_length]
      intro h tk F₁ N₁
      exact done c m₁ h tk hP (ksw_fr h1 h2 F₁) N₁
    | succ j ih =>
      intro i c m₁ hij hP h1 h2
      have hlt : i < vs.length := by omega
      rw [List.drop_eq_getElem_cons hlt, List.map_cons]
      intro v h tk hv F₁
      have hv' : v = vs[i] := hv
      subst hv'
      intro oI _ N₁
      refine wpAny_mono (turn i vs[i] c m₁ h tk I oI (List.getElem?_eq_getElem hlt) hI hP (ksw_fr h1 h2 F₁) N₁) (fun _ s₂ h₂ => wpAny_mono h₂ (fun f s₃ q => ?_) fun _ _ e => e) fun _ _ e => e
      have fin : ∀ {f' : Flow}, f' = .next ∨ f' = .cont → TStep h₀ env.locals news ps stored m₀ (P (i + 1)) I oI { s with heap := h, toks := tk } Q f' s₃ →
          UnrEndW h₀ env.locals { s with heap := h, toks := tk } [(I, oI)] (fun m' n' => SubL [(ax, listOf vs.toArray nn)] n' ∧ ItemsRest prog w A E h₀ env target body Q s [(I, "list_iterator")] [(ax, listOf vs.toArray nn)] ((vs.drop (i + 1)).map .val) m' n') s₃ := by
        intro f' hf' q
        have q' : ∃ c h' tk' m', s₃ = { s with heap := h', toks := tk' } ∧ Fr h₀ env.locals h' m' ∧ News h₀ env.locals h' ((I, oI) :: news) ∧ (∀ p ∈ ps c, m' p.1 = some p.2) ∧ (∀ z, (∀ p ∈ ps c, z ≠ p.1) → stored.contains z = false → m' z = m₀ z) ∧ P (i + 1) c := by
          rcases hf' with rfl | rfl <;> exact q
        obtain ⟨c', h', tk', m', rfl, F', N', k1, k2, hp'⟩ := q'
        exact ⟨h', tk', m', news, rfl, F', N', fun p hp q hq => by rw [List.mem_singleton.mp hq]; exact Nat.ne_of_lt (hI p hp), ⟨hm, trivial⟩, ih (i + 1) c' m' (by omega) hp' k1 k2⟩
      cases f with
      | ret v => exact q
      | brk => exact q
      | next => exact fin (.inl rfl) q
      | cont => exact fin (.inr rfl) q
  exact key vs.length 0 c₀ m₀ (by omega) hp hk (fun _ _ _ => rfl)
end
/-- where a while has come to its end -/
def WEx {σ : Type} (h₀ : Heap) (L : Addr) (s : Shared) (Ld : σ → Led) (ps : σ → List (Str × Value)) (stored : List Str) (m₀ : Str → Option Value) (P : σ → Prop) (s₂ : Shared) : Prop :=
  ∃ c h' tk m', s₂ = { s with heap := h', toks := tk } ∧ Fr h₀ L h' m' ∧ News h₀ L h' (Ld c) ∧ (∀ p ∈ ps c, m' p.1 = some p.2) ∧ (∀ z, (∀ p ∈ ps c, z ≠ p.1) → stored.contains z = false → m' z = m₀ z) ∧ P c
theorem WEx.intro {σ : Type} {h₀ : Heap} {L : Addr} {s : Shared} {Ld : σ → Led} {ps : σ → List (Str × Value)} {stored : List Str} {m₀ m' : Str → Option Value} {P : σ → Prop} {h' : Heap} {tk : Nat} {all : Led}
    (c : σ) (F : Fr h₀ L h' m') (N : News h₀ L h' all) (hs : ∀ p ∈ Ld c, p ∈ all) (hk : ∀ p ∈ ps c, m' p.1 = some p.2) (hr : ∀ z, (∀ p ∈ ps c, z ≠ p.1) → stored.contains z = false → m' z = m₀ z) (hp : P c) :
    WEx h₀ L s Ld ps stored m₀ P { s with heap := h', toks := tk } := ⟨c, h', tk, m', rfl, F, fun p hp => N p (hs p hp), hk, hr, hp⟩
section
variable {prog : Program} {w : World} {A : Around} {E : Value → Shared → Prop} {s : Shared} {env : Env} {h₀ : Heap} {L : Addr} {test : Expr} {body : List Stmt} {pos : Pos} {Q : Flow → Shared → Prop}
/-- a while whose body neither breaks nor returns -/
def WStep {σ : Type} (h₀ : Heap) (L : Addr) (s : Shared) (Ld : σ → Led) (ps : σ → List (Str × Value)) (stored : List Str) (m₀ : Str → Option Value) (P : σ → Prop) (μ : σ → Nat) (c : σ) (f : Flow) (s₂ : Shared) : Prop :=
  f = .next ∧ WEx h₀ L s Ld ps stored m₀ (fun c' => P c' ∧ μ c' < μ c) s₂
theorem while_ex {σ : Type} {m₀ : Str → Option Value} (Ld : σ → Led) (ps : σ → List (Str × Value)) (stored : List Str) (P Stop : σ → Prop) (μ : σ → Nat) (c₀ : σ)
    (F : Fr h₀ L s.heap m₀) (N : News h₀ L s.heap (Ld c₀)) (hk : ∀ p ∈ ps c₀, m₀ p.1 = some p.2) (hp : P c₀)
    (turn : ∀ (c : σ) (u : Str → Option Value) h tk, P c → Fr h₀ L h (kstB (fun z => if stored.contains z then u z else m₀ z) (ps c)) → News h₀ L h (Ld c) →
      wpAny (model prog w) A (isTrue test env (eval test env)) (fun b s₂ =>
        if b = true then wpAny (model prog w) A (execs body env) (WStep h₀ L s Ld ps stored m₀ P μ c) E s₂ else WEx h₀ L s Ld ps stored m₀ (fun c' => P c' ∧ Stop c') s₂) E { s with heap := h, toks := tk })
    (done : ∀ (c : σ) (u : Str → Option Value) h tk, P c → Stop c → Fr h₀ L h (kstB (fun z => if stored.contains z then u z else m₀ z) (ps c)) → News h₀ L h (Ld c) → Q .next { s with heap := h, toks := tk })
    (hE : PassesOwn (model prog w) A env E := by passes_own) :
    wpAny (model prog w) A (exec (.While test body [] pos) env) Q E s := by
  refine ksw_while Ld ps (fun _ => True) stored P μ c₀ F N trivial hk hp ?_ hE
  intro c u h tk _ hP F₁ N₁
  refine wpAny_mono (turn c u h tk hP F₁ N₁) (fun b s₂ q => ?_) fun _ _ e => e
  cases b with
  | true =>
    simp only [if_true] at q ⊢
    refine wpAny_mono q (fun f s₃ q => ?_) fun _ _ e => e
    obtain ⟨rfl, c', h', tk', m', rfl, F', N', h1, h2, hp', hm⟩ := q
    exact ksw_end c' F' N' (fun _ h => h) trivial h1 h2 hp' hm
  | false =>
    simp only [Bool.false_eq_true, if_false] at q ⊢
    obtain ⟨c', h', tk', m', rfl, F', N', h1, h2, hp', hs⟩ := q
    exact done c' m' h' tk' hp' hs (ksw_fr h1 h2 F') N'
theorem WStep.intro {σ : Type} {Ld : σ → Led} {ps : σ → List (Str × Value)} {stored : List Str} {m₀ m' : Str → Option Value} {P : σ → Prop} {μ : σ → Nat} {c : σ} {h' : Heap} {tk : Nat} {all : Led}
    (c' : σ) (F : Fr h₀ L h' m') (N : News h₀ L h' all) (hs : ∀ p ∈ Ld c', p ∈ all) (hk : ∀ p ∈ ps c', m' p.1 = some p.2) (hr : ∀ z, (∀ p ∈ ps c', z ≠ p.1) → stored.contains z = false → m' z = m₀ z) (hp : P c') (hm : μ c' < μ c) :
    WStep h₀ L s Ld ps stored m₀ P μ c .next { s with heap := h', toks := tk } := ⟨rfl, WEx.intro c' F N hs hk hr ⟨hp, hm⟩⟩
end
end
section
theorem freshBase : True := by (w_top off; trivial)
open PySem PySem.W PySem.Spec PySem.Calls PyProof.Rows
set_option maxRecDepth 100000
noncomputable abbrev lse : List Str := looseW hd.view_39 [Str.ofString "_safe_string", Str.ofString "_twin_re_1", Str.ofString "_indent", Str.ofString "Whitespace"]
/-- a call of f with these arguments over this ledger: it comes back with r and a ledger as Post says -/
def Does (w : World) (f : Addr) (args : List Value) (d u : Nat) (news : Led) (Post : Value → Led → Prop) : Prop :=
  ∀ (dp un : Nat) (gd : Option (List Code)) (cn : Str) (cs : Scope) (a : Addr) (ccd : Value) (cl : List (Str × Addr)) (outer : List Env) (A₀ : Around) (base h₀ : Heap) (L : Addr) (m : Str → Option Value) (s : Shared)
    (mean : ExcName → Option Value) (mg mb : Str → Option Value) (Q E : Value → Shared → Prop),
    Below A₀ base outer h₀ → Fr h₀ L s.heap m → (hd.heap_39 w.params).In h₀ → News h₀ L s.heap news → Top hd.view_39 lse mean mg mb h₀ → cs.kind = .function →
    dp + d < recursionLimit → un + u < cLine →
    (∀ r news' h' tk', Fr h₀ L h' m → News h₀ L h' news' → Post r news' → Q r { s with heap := h', toks := tk' }) →
    wpAny (model (RowW.prog (OpenRow.toRowW (OpenLaw.row Challenge.rw_wa0022_01))) w) (ktrTop dp un gd cn cs L a ccd cl outer) (call (.ref f) args) Q E s
theorem does_use {w : World} {f : Addr} {args : List Value} {d u : Nat} {news : Led} {Post : Value → Led → Prop} (D : Does w f args d u news Post)
    {dp un : Nat} {gd : Option (List Code)} {cn : Str} {cs : Scope} {a : Addr} {ccd : Value} {cl : List (Str × Addr)} {outer : List Env} {A₀ : Around} {base h₀ : Heap} {L : Addr} {m : Str → Option Value} {s : Shared}
    {mean : ExcName → Option Value} {mg mb : Str → Option Value} {Q E : Value → Shared → Prop}
    (B : Below A₀ base outer h₀) (F : Fr h₀ L s.heap m) (X : (hd.heap_39 w.params).In h₀) (N : News h₀ L s.heap news) (T : Top hd.view_39 lse mean mg mb h₀) (hk : cs.kind = .function)
    (hd : dp + d < recursionLimit) (hu : un + u < cLine)
    (ret : ∀ r news' h' tk', Fr h₀ L h' m → News h₀ L h' news' → Post r news' → Q r { s with heap := h', toks := tk' }) :
    wpAny (model (RowW.prog (OpenRow.toRowW (OpenLaw.row Challenge.rw_wa0022_01))) w) (ktrTop dp un gd cn cs L a ccd cl outer) (call (.ref f) args) Q E s := D _ _ _ _ _ _ _ _ _ _ _ _ _ _ _ _ _ _ _ _ B F X N T hk hd hu ret
end
section
theorem freshPure0 : True := by (w_top off; trivial)
open PySem
/-- a row: n spaces and an x -/
def rowS (n : Nat) : Str := ⟨(List.replicate n 32 ++ [120]).toArray⟩
/-- a page: its rows, each closed by a line feed -/
def pageL : List Nat → List Nat
  | [] => []
  | n :: r => List.replicate n 32 ++ 120 :: 10 :: pageL r
def pageS (ns : List Nat) : Str := ⟨(pageL ns).toArray⟩
end
section
theorem freshPureS : True := by (w_top off; trivial)
open PySem PySem.W PySem.Spec PySem.Calls PyProof.Rows
set_option maxRecDepth 100000
theorem nl_is : Str.ofString "\n" = (⟨#[10]⟩ : Str) := by decide +kernel
theorem em_is : Str.ofString "" = (⟨#[]⟩ : Str) := by decide +kernel
theorem sp_is : Str.ofString " " = (⟨#[32]⟩ : Str) := by decide +kernel
theorem x_is : Str.ofString "x" = (⟨#[120]⟩ : Str) := by decide +kernel
theorem xnl_is : Str.ofString "x\n" = (⟨#[120, 10]⟩ : Str) := by decide +kernel
theorem rowS_len (n : Nat) : (rowS n).length = n + 1 := by simp [Str.length, rowS]
theorem rowS_inj {a b : Nat} (h : rowS a = rowS b) : a = b := by
  have := congrArg Str.length h
  rw [rowS_len, rowS_len] at this; omega
theorem pageL_append (a b : List Nat) : pageL (a ++ b) = pageL a ++ pageL b := by
  induction a with
  | nil => rfl
  | cons n r ih => simp [pageL, ih]
theorem pageL_len (ns : List Nat) : (pageL ns).length = ns.sum + 2 * ns.length := by
  induction ns with
  | nil => rfl
  | cons n r ih => simp [pageL, ih]; omega
theorem pageS_len (ns : List Nat) : (pageS ns).length = ns.sum + 2 * ns.length := by
  show (pageL ns).toArray.size = _
  rw [List.size_toArray, pageL_len]
/-- texts parted by line feeds -/
def glueL : List (List Nat) → List Nat
  | [] => []
  | [x] => x
  | x :: y :: r => x ++ 10 :: glueL (y :: r)
theorem cut_uniq : ∀ {a b : List Nat} {u v : List Nat}, 10 ∉ a → 10 ∉ b → a ++ 10 :: u = b ++ 10 :: v → a = b ∧ u = v
  | [], [], _, _, _, _, h => ⟨rfl, by simpa using h⟩
  | [], c :: b, _, _, _, hb, h => by
    have : (10 : Nat) = c := by simpa using (List.cons.inj h).1
    exact absurd (this ▸ List.mem_cons_self) hb
  | c :: a, [], _, _, ha, _, h => by
    have : c = (10 : Nat) := by simpa using (List.cons.inj h).1
    exact absurd (this ▸ List.mem_cons_self) ha
  | c :: a, d :: b, u, v, ha, hb, h => by
    have h' := List.cons.inj (show c :: (a ++ 10 :: u) = d :: (b ++ 10 :: v) from h)
    have r := cut_uniq (a := a) (b := b) (fun m => ha (List.mem_cons_of_mem _ m)) (fun m => hb (List.mem_cons_of_mem _ m)) h'.2
    exact ⟨by rw [h'.1, r.1], r.2⟩
theorem glue_uniq : ∀ {ps qs : List (List Nat)}, ps ≠ [] → qs ≠ [] → (∀ p ∈ ps, 10 ∉ p) → (∀ q ∈ qs, 10 ∉ q) → glueL ps = glueL qs → ps = qs
  | [], _, h, _, _, _, _ => absurd rfl h
  | _, [], _, h, _, _, _ => absurd rfl h
  | [x], [y], _, _, _, _, h => by simpa [glueL] using h
  | [x], y :: z :: r, _, _, hp, _, h => by
    have h' : x = y ++ 10 :: glueL (z :: r) := h
    exact absurd (by rw [h']; simp) (hp x (by simp))
  | x :: z :: r, [y], _, _, _, hq, h => by
    have h' : x ++ 10 :: glueL (z :: r) = y := h
    exact absurd (by rw [← h']; simp) (hq y (by simp))
  | x :: x' :: r, y :: y' :: q, _, _, hp, hq, h => by
    have h' : x ++ 10 :: glueL (x' :: r) = y ++ 10 :: glueL (y' :: q) := h
    have c := cut_uniq (hp x (by simp)) (hq y (by simp)) h'
    have t := glue_uniq (ps := x' :: r) (qs := y' :: q) (by simp) (by simp) (fun p m => hp p (List.mem_cons_of_mem _ m)) (fun p m => hq p (List.mem_cons_of_mem _ m)) c.2
    rw [c.1, t]
theorem join_glue : ∀ ps : List Str, (Str.join ⟨#[10]⟩ ps).cps.toList = glueL (ps.map (·.cps.toList))
  | [] => rfl
  | [x] => rfl
  | x :: y :: r => by
    show (x ++ (⟨#[10]⟩ : Str) ++ Str.join ⟨#[10]⟩ (y :: r)).cps.toList = _
    rw [Str.cps_append, Str.cps_append, Array.toList_append, Array.toList_append, join_glue (y :: r)]
    simp [glueL]
theorem split_ne (x y : Str) : Txt.split x y ≠ [] := by
  unfold Txt.split
  split
  · simp
  · split
    · simp
    · rw [StrLaws.partsBetween_eq]
      obtain ⟨p, r, e⟩ := StrLaws.partsFrom_ne x y.length 0 (Builtin.Str.occurrences x y 0 x.length (x.length + 1))
      rw [e]; simp
theorem str_of_toList {x y : Str} (h : x.cps.toList = y.cps.toList) : x = y := Str.ext' (Array.toList_inj.mp h)
theorem glue_page : ∀ ns : List Nat, glueL ((ns.map rowS ++ [(⟨#[]⟩ : Str)]).map (·.cps.toList)) = pageL ns
  | [] => rfl
  | [n] => by simp [glueL, pageL, rowS]
  | n :: k :: r => by
    have ih := glue_page (k :: r)
    simp only [List.map_cons, List.cons_append] at ih ⊢
    rw [glueL, ih]
    simp [pageL, rowS]
theorem split_page (ns : List Nat) : Txt.split (pageS ns) (Str.ofString "\n") = ns.map rowS ++ [Str.ofString ""] := by
  rw [nl_is, em_is]
  have h1 := StrLaws.join_split (pageS ns) ⟨#[10]⟩
  have h2 := congrArg (fun z : Str => z.cps.toList) h1
  simp only [join_glue] at h2
  have h3 : (Txt.split (pageS ns) ⟨#[10]⟩).map (·.cps.toList) = (ns.map rowS ++ [(⟨#[]⟩ : Str)]).map (·.cps.toList) := by
    refine glue_uniq (by simp [split_ne]) (by simp) ?_ ?_ ?_
    · intro p hp
      obtain ⟨q, hq, rfl⟩ := List.mem_map.mp hp
      exact StrLaws.split_free _ _ q hq
    · intro p hp
      obtain ⟨q, hq, rfl⟩ := List.mem_map.mp hp
      rcases List.mem_append.mp hq with hq | hq
      · obtain ⟨n, _, rfl⟩ := List.mem_map.mp hq
        simp [rowS, List.mem_replicate]
      · rw [List.mem_singleton.mp hq]; simp
    · rw [h2, glue_page]; rfl
  have inj : ∀ {l l' : List Str}, l.map (fun z : Str => z.cps.toList) = l'.map (fun z : Str => z.cps.toList) → l = l' := by
    intro l
    induction l with
    | nil => intro l' h; cases l' with
      | nil => rfl
      | cons a r => simp at h
    | cons a r ih => intro l' h; cases l' with
      | nil => simp at h
      | cons b q =>
        simp only [List.map_cons, List.cons.injEq] at h
        rw [str_of_toList h.1, ih h.2]
  exact inj h3
theorem join_empty : ∀ ps : List Str, (Str.join ⟨#[]⟩ ps).cps.toList = (ps.map (·.cps.toList)).flatten
  | [] => rfl
  | [x] => by simp [Str.join]
  | x :: y :: r => by
    show (x ++ (⟨#[]⟩ : Str) ++ Str.join ⟨#[]⟩ (y :: r)).cps.toList = _
    rw [Str.cps_append, Str.cps_append, Array.toList_append, Array.toList_append, join_empty (y :: r)]
    simp
theorem join_rows (ns : List Nat) : Txt.join (Str.ofString "") ((ns.map rowS).map fun r => r ++ Str.ofString "\n") = pageS ns := by
  rw [nl_is, em_is]
  show Builtin.Str.glued _ _ = _
  rw [StrLaws.glued_eq_join]
  refine str_of_toList ?_
  rw [join_empty]
  show _ = pageL ns
  induction ns with
  | nil => rfl
  | cons n r ih =>
    simp only [List.map_cons, List.flatten_cons, pageL]
    rw [ih, Str.cps_append]
    simp [rowS]
theorem pageS_cat (a b : List Nat) : pageS a ++ pageS b = pageS (a ++ b) := by
  refine str_of_toList ?_
  rw [Str.cps_append]
  simp [pageS, pageL_append]
theorem le_sum_of_mem {n : Nat} : ∀ {l : List Nat}, n ∈ l → n ≤ l.sum
  | a :: r, h => by
    rcases List.mem_cons.mp h with rfl | h
    · simp
    · have := le_sum_of_mem h
      simp only [List.sum_cons]; omega
theorem rows_weight (ns : List Nat) : ((((ns.map rowS).map fun r => r ++ Str.ofString "\n")).map (·.length)).sum + ((ns.map rowS).map fun r => r ++ Str.ofString "\n").length = ns.sum + 3 * ns.length := by
  induction ns with
  | nil => rfl
  | cons n r ih =>
    simp only [List.map_cons, List.sum_cons, List.length_cons] at ih ⊢
    have e : (rowS n ++ Str.ofString "\n").length = n + 2 := by
      rw [Str.length_append, rowS_len, nl_is]; rfl
    rw [e]; omega
/-- a page tells its rows -/
theorem pageS_inj {a b : List Nat} (h : pageS a = pageS b) : a = b := by
  have e := congrArg (fun z => Txt.split z (Str.ofString "\n")) h
  simp only [split_page] at e
  have e' : a.map rowS = b.map rowS := by
    have := congrArg List.dropLast e
    simpa using this
  have inj : ∀ {l l' : List Nat}, l.map rowS = l'.map rowS → l = l' := by
    intro l
    induction l with
    | nil => intro l' h; cases l' with
      | nil => rfl
      | cons a r => simp at h
    | cons a r ih => intro l' h; cases l' with
      | nil => simp at h
      | cons b q =>
        simp only [List.map_cons, List.cons.injEq] at h
        rw [rowS_inj h.1, ih h.2]
  exact inj e'
end
section
theorem freshStrOps : True := by (w_top off; trivial)
open PySem PySem.W PySem.Spec PySem.Calls PyProof.Rows
set_option maxRecDepth 100000
/-- the rows that are left when those from a up to b are struck out -/
def cut (ns : List Nat) (a b : Nat) : List Nat := ns.take a ++ ns.drop b
theorem cut_rows {vs : List Value} {ns : List Nat} {a b : Nat} (h : StrsAre vs (ns.map rowS)) : StrsAre (vs.take a ++ vs.drop b) ((cut ns a b).map rowS) := by
  unfold cut
  rw [List.map_append, List.map_take, List.map_drop]
  exact (strs_take a h).append' (strs_drop b h)
theorem sum_sublist : ∀ {l r : List Nat}, l.Sublist r → l.sum ≤ r.sum
  | _, _, .slnil => Nat.le_refl _
  | _, _, .cons a h => by have := sum_sublist h; simp only [List.sum_cons]; omega
  | _, _, .cons_cons a h => by have := sum_sublist h; simp only [List.sum_cons]; omega
theorem cut_sum (ns : List Nat) (a b : Nat) : (cut ns a b).sum ≤ 2 * ns.sum := by
  have h1 := sum_sublist (List.take_sublist a ns)
  have h2 := sum_sublist (List.drop_sublist b ns)
  unfold cut
  rw [List.sum_append]; omega
theorem cut_len (ns : List Nat) (a b : Nat) : (cut ns a b).length ≤ 2 * ns.length := by
  unfold cut
  rw [List.length_append, List.length_take, List.length_drop]; omega
section
variable {prog : Program} {w : World} {A : Around} {E : Value → Shared → Prop} {s : Shared} {h₀ : Heap} {L : Addr} {m : Str → Option Value} {news : Led} {t u : Tok} {Q : Value → Shared → Prop}
theorem strs_snoc_inv : ∀ {us : List Value} {xs : List Str} {y : Str}, StrsAre us (xs ++ [y]) → ∃ vs t, us = vs ++ [Value.str y t] ∧ StrsAre vs xs
  | _, [], _, .cons y t .nil => ⟨[], t, rfl, .nil⟩
  | _, x :: xs, _, .cons _ t r => by
    obtain ⟨vs, t', rfl, h⟩ := strs_snoc_inv r
    exact ⟨.str x t :: vs, t', rfl, .cons x t h⟩
theorem split_rows {ns : List Nat} (F : Fr h₀ L s.heap m) (N : News h₀ L s.heap news) (hb : ns.sum ≤ 100000) (hn : ns.length ≤ 1000)
    (h : ∀ D vs t' h' k, StrsAre vs (ns.map rowS) → Fr h₀ L h' m → News h₀ L h' ((D, listOf (vs ++ [Value.str (Str.ofString "") t']).toArray 0) :: news) → (∀ p ∈ news, p.1 < D) → Q (.ref D) { s with heap := h', toks := k }) :
    wpAny (model prog w) A (call (.builtin "str.split") [.str (pageS ns) t, .str (Str.ofString "\n") u]) Q E s := by
  refine KSpl.split1 F N (by decide) (fun D l h' k e hs F' N' l1 => ?_) ?_
  · rw [split_page] at e
    rw [e] at hs
    obtain ⟨vs, t', hv, hvs⟩ := strs_snoc_inv hs
    rw [hv] at N'
    exact h D vs t' h' k hvs F' N' l1
  · rw [pageS_len, sizeLine_eq]; omega
end
end
section
theorem freshSreW : True := by (w_top off; trivial)
open PySem PySem.W PySem.Spec PySem.Calls PyProof.Rows PySem.Builtin PySem.Builtin.Re
set_option maxRecDepth 100000
set_option linter.all false
theorem slot_sub : Slot "re.Pattern" "sub" "re.Pattern.sub" := Slot.of (owner := "re.Pattern") (n := "sub") (by rw [typeLookup_type, builtinLookup_eq_fast]; kernel_rfl) (by decide +kernel) (by decide +kernel) (by decide +kernel) (.inr (by decide +kernel)) (by rw [isSubtype_type]; kernel_rfl)
theorem plain_re : PlainAttrs "re.Pattern" :=
  ⟨⟨"object.__getattribute__", by rw [typeLookup_type, builtinLookup_eq_fast]; kernel_rfl, by decide +kernel⟩, by rw [typeLookup_type, builtinLookup_eq_fast]; kernel_rfl⟩
theorem type_sub : typeOf (.builtin "re.Pattern.sub") = pure (.type "method_descriptor") := by show builtinType _ = _; rw [builtinType_eq_fast]; kernel_rfl
theorem entry_sub : entryFor table "re.Pattern.sub" = some Builtin.«re.Pattern.sub» := entryFor_of_tree (by kernel_rfl)
theorem entry_subloop : entryFor table "re.Pattern.sub.loop" = some Builtin.«re.Pattern.sub.loop» := entryFor_of_tree (by kernel_rfl)
theorem args_sub (a b c : Value) : argsOk "re.Pattern.sub" ⟨[a, b, c], []⟩ := by unfold argsOk; kernel_rfl
theorem method_sub {M : Model} {A : Around} {E : Value → Shared → Prop} {s : Shared} {x : Addr} {o : Obj} {pl : Sem Bool} {Q : Value × List Value → Shared → Prop} (ho : s.heap.get? x = some o) (hc : o.cls = .type "re.Pattern") (hd : o.dict = none) (h : Q (.builtin "re.Pattern.sub", [.ref x]) s) : wpAny M A (getMethod (.ref x) "sub" pl) Q E s :=
  getMethod_builtin ⟨o, ho, hc⟩ plain_re slot_sub type_sub (fun a e => by cases e; exact ⟨o, ho, hd⟩) h
section
variable {M : Model} {A : Around} {E : Value → Shared → Prop} {s : Shared}
theorem drive {Q : Sre.M → Shared → Prop} : ∀ (T n : Nat) (m : Sre.M), 1 ≤ T → n ≤ 4 * T → (m.runFor n).outcome.isSome = true → Q (m.runFor n) s → wpAny M A (reDrive T m) Q E s
  | 0, _, _, h, _, _, _ => absurd h (by omega)
  | T + 1, n, m, _, hn, ho, hq => by
    show wpAny M A (if (m.runFor 4).outcome.isSome = true then pure (m.runFor 4) else (do rule "sre.turn"; reDrive T (m.runFor 4))) Q E s
    by_cases h4 : (m.runFor 4).outcome.isSome = true
    · rw [if_pos h4]
      have e : m.runFor n = m.runFor 4 := by
        by_cases q : n ≤ 4
        · have := runFor_add n (4 - n) m
          rw [show n + (4 - n) = 4 from by omega, runFor_stop ho] at this
          exact this.symm
        · have := runFor_add 4 (n - 4) m
          rw [show 4 + (n - 4) = n from by omega, runFor_stop h4] at this
          exact this
      rw [e] at hq
      exact wpAny_pure hq
    · rw [if_neg h4]
      have q : 4 < n := by
        refine Nat.lt_of_not_le fun q => h4 ?_
        have := runFor_add n (4 - n) m
        rw [show n + (4 - n) = 4 from by omega, runFor_stop ho] at this
        rw [this]; exact ho
      have e : (m.runFor 4).runFor (n - 4) = m.runFor n := by
        have := runFor_add 4 (n - 4) m
        rw [show 4 + (n - 4) = n from by omega] at this
        exact this.symm
      exact wpAny_bind (wpAny_rule (drive T (n - 4) _ (by omega) (by omega) (by rw [e]; exact ho) (by rw [e]; exact hq)))
theorem run_end {m m' : Sre.M} {n : Nat} {Q : Option Sre.M → Shared → Prop} (hn : n ≤ 1000000) (e : m.runFor n = m') (h : (m'.outcome = some .matched ∧ Q (some m') s) ∨ (m'.outcome = some .failed ∧ Q none s)) : wpAny M A (reRunToEnd m) Q E s := by
  unfold reRunToEnd
  have ho : (m.runFor n).outcome.isSome = true := by rw [e]; rcases h with h | h <;> rw [h.1] <;> rfl
  refine wpAny_bind (drive (2 ^ 64) n m (by decide) (by omega) ho ?_)
  rw [e]
  refine wpAny_bind ?_
  refine wpAny_forIn_list _ (fun _ _ s' => s' = s) _ ?_ ?_ _ _ rfl
  · rintro x rest b s' rfl
    split
    · exact wpAny_bind (wpAny_rule (wpAny_pure rfl))
    · exact wpAny_pure rfl
  · rintro b s' rfl
    rcases h with ⟨h, hq⟩ | ⟨h, hq⟩ <;> rw [h] <;> exact wpAny_pure hq
end
end
section
theorem freshSreT : True := by (w_top off; trivial)
open PySem PySem.W PySem.Spec
set_option maxRecDepth 100000
set_option linter.all false
theorem getD_toArray (l : List Nat) (i : Nat) : l.toArray.getD i 0 = (l[i]?).getD 0 := by
  rw [Array.getD_eq_getD_getElem?, List.getElem?_toArray]
theorem page_split (pre : List Nat) (n : Nat) (r : List Nat) : pageL (pre ++ n :: r) = pageL pre ++ (List.replicate n 32 ++ 120 :: 10 :: pageL r) := by
  rw [pageL_append]; rfl
theorem at_row {pre r : List Nat} {n k : Nat} (hk : k ≤ n) : ((pageS (pre ++ n :: r)).cps.getD ((pageL pre).length + k) 0) = if k < n then 32 else 120 := by
  show ((pageL (pre ++ n :: r)).toArray.getD _ 0) = _
  rw [getD_toArray, page_split, List.getElem?_append_right (Nat.le_add_right _ _), Nat.add_sub_cancel_left]
  by_cases h : k < n
  · rw [List.getElem?_append_left (by rw [List.length_replicate]; exact h), List.getElem?_replicate, if_pos h, if_pos h]; rfl
  · obtain rfl : k = n := by omega
    rw [List.getElem?_append_right (by rw [List.length_replicate]; omega), List.length_replicate, Nat.sub_self, if_neg h]; rfl
theorem row_end {pre r : List Nat} {n : Nat} : ((pageS (pre ++ n :: r)).cps.getD ((pageL pre).length + n + 1) 0) = 10 := by
  show ((pageL (pre ++ n :: r)).toArray.getD _ 0) = _
  rw [getD_toArray, page_split, Nat.add_assoc, List.getElem?_append_right (Nat.le_add_right _ _), Nat.add_sub_cancel_left, List.getElem?_append_right (by rw [List.length_replicate]; omega), List.length_replicate]
  rw [show n + 1 - n = 1 from by omega]; rfl
theorem bol_start {pre r : List Nat} : bol (pageS (pre ++ r)).cps (pageL pre).length = true := by
  unfold bol
  rcases List.eq_nil_or_concat pre with rfl | ⟨p, n, rfl⟩
  · rfl
  · have e : (pageL (p ++ [n])).length - 1 = (pageL p).length + n + 1 := by rw [pageL_append, List.length_append]; simp [pageL]; omega
    have := row_end (pre := p) (r := r) (n := n)
    rw [List.concat_eq_append, List.append_assoc, List.singleton_append, e, this]
    simp
theorem page_size (ns : List Nat) : (pageS ns).cps.size = (pageL ns).length := List.size_toArray ..
theorem len_step (pre r : List Nat) (n : Nat) : (pageL (pre ++ n :: r)).length = (pageL pre).length + (n + 2) + (pageL r).length := by
  rw [page_split]; simp; omega
theorem good_start {pre r : List Nat} {n : Nat} : good (pageS (pre ++ n :: r)).cps (pageS (pre ++ n :: r)).cps.size (pageL pre).length = true := by
  unfold good
  rw [bol_start]
  have h1 := at_row (pre := pre) (r := r) (n := n) (k := 0) (Nat.zero_le _)
  have h2 := len_step pre r n
  unfold eol
  rw [page_size]
  rw [Nat.add_zero] at h1
  rw [h1]
  have : ((pageL pre).length == (pageL (pre ++ n :: r)).length) = false := by simp; omega
  rw [this]
  split <;> rfl
theorem not_good {pre r : List Nat} {n j : Nat} (h1 : (pageL pre).length < j) (h2 : j < (pageL pre).length + (n + 2)) : good (pageS (pre ++ n :: r)).cps (pageS (pre ++ n :: r)).cps.size j = false := by
  have hb : bol (pageS (pre ++ n :: r)).cps j = false := by
    unfold bol
    obtain ⟨k, rfl⟩ : ∃ k, j = (pageL pre).length + k + 1 := ⟨j - (pageL pre).length - 1, by omega⟩
    rw [Nat.add_sub_cancel, at_row (by omega)]
    split <;> simp
  unfold good
  rw [hb]; rfl
theorem not_good_end (ns : List Nat) : good (pageS ns).cps (pageS ns).cps.size (pageS ns).cps.size = false := by
  unfold good eol
  simp
/-- a row's text with its line feed -/
def rowN (n : Nat) : Str := ⟨(List.replicate n 32 ++ [120, 10]).toArray⟩
theorem rowN_len (n : Nat) : (rowN n).length = n + 2 := by simp [Str.length, rowN]
theorem page_cut {pre r : List Nat} {n : Nat} : (⟨(pageS (pre ++ n :: r)).cps.extract (pageL pre).length ((pageL pre).length + (n + 2))⟩ : Str) = rowN n := by
  refine str_of_toList ?_
  show ((pageL (pre ++ n :: r)).toArray.extract _ _).toList = _
  rw [page_split]
  simp [rowN, List.take_append]
theorem page_of (ns : List Nat) (k : Nat) : (((ns.map fun n => [(⟨(List.replicate k 32).toArray⟩ : Str), rowN n]).flatten).map (·.cps.toList)).flatten = pageL (ns.map (· + k)) := by
  induction ns with
  | nil => rfl
  | cons n r ih =>
    simp only [List.map_cons, List.flatten_cons, List.map_append, List.flatten_append, List.map_nil, List.flatten_nil, List.append_nil]
    rw [ih, pageL]
    simp [rowN, ← List.replicate_append_replicate, Nat.add_comm n k]
end
section
theorem freshSreS : True := by (w_top off; trivial)
open PySem PySem.W PySem.Spec PySem.Calls PyProof.Rows PySem.Builtin PySem.Builtin.Re
set_option maxRecDepth 100000
set_option linter.all false
def spS (k : Nat) : Str := ⟨(List.replicate k 32).toArray⟩
/-- the pattern and its code lie in the heap -/
structure PatAt (h : Heap) : Prop where
  pat : ∃ o pt t0 t1 t2 t3, h.get? 51 = some o ∧ o.cls = .type "re.Pattern" ∧ o.dict = none ∧ o.data = .fields #[.str pt t0, .int 40 t1, .int 0 t2, .none, .none, .ref 50, .int 0 t3]
  code : ∃ o items n, h.get? 50 = some o ∧ o.data = .seq items n ∧ (items.map reRawOf).map (·.toNat) = reC
section
variable {M : Model} {A : Around} {E : Value → Shared → Prop} {s : Shared}
theorem whole {x : Str} {t : Tok} {Q : ReTarget → Shared → Prop} (hp : PatAt s.heap) (h : Q { pattern := .ref 51, string := .str x t, code := reC, text := x.cps, kind := 0, groups := 0, pos := 0, lim := x.cps.size } s) : wpAny M A (reWholeTarget (.ref 51) (.str x t)) Q E s := by
  obtain ⟨⟨o, pt, t0, t1, t2, t3, h51, _, _, d51⟩, ⟨o2, items, n, h50, d50, he⟩⟩ := hp
  unfold reWholeTarget
  refine wpAny_bind (wpAny_fieldsOf h51 d51 ?_)
  have e1 : (reTextOf (.str x t)) = pure (x.cps, 0) := rfl
  rw [e1]
  refine wpAny_bind (wpAny_pure ?_)
  show wpAny M A (do let d ← reRawItems (.ref 50); pure ({ pattern := .ref 51, string := .str x t, code := d.map (·.toNat), text := x.cps, kind := 0, groups := 0, pos := 0, lim := x.cps.size } : ReTarget)) Q E s
  refine wpAny_bind (wpAny_bind (wpAny_seqItems h50 d50 (wpAny_pure (wpAny_pure ?_))))
  show Q { pattern := .ref 51, string := .str x t, code := (items.map reRawOf).map (·.toNat), text := x.cps, kind := 0, groups := 0, pos := 0, lim := x.cps.size } s
  rw [he]; exact h
end
section
variable {prog : Program} {w : World} {A : Around} {E : Value → Shared → Prop}
/-- the arguments of the loop of sub -/
abbrev loopA (x : Str) (t : Tok) (R : Str) (tr : Tok) (cnt : Int) (done start : Nat) (must : Bool) (P : Addr) : Args := ⟨[.ref 51, .str x t, .str R tr, .int 0 0, .int 0 0, .int cnt 0, .int done 0, .int start 0, .bool must, .ref P, .bool false], []⟩
theorem push_list (vs : List Value) (nn : Nat) (v : Value) : Obj.mapSeq (·.push v) (listOf vs.toArray nn) = listOf (vs ++ [v]).toArray (nn + 1) := by
  show listOf (vs.toArray.push v) (if (vs.toArray.push v).size == vs.toArray.size then nn else nn + 1) = _
  rw [if_neg (by simp), List.push_toArray]
theorem update_list {h : Heap} {P : Addr} {vs : List Value} {nn : Nat} (hP : h.get? P = some (listOf vs.toArray nn)) (v : Value) : (h.update P (Obj.mapSeq (·.push v))).get? P = some (listOf (vs ++ [v]).toArray (nn + 1)) := by
  rw [Heap.get?_update_self _ hP (by rw [push_list]; rfl), push_list]
theorem update_keep {h : Heap} {P b : Addr} {o : Obj} (f : Obj → Obj) (hb : b ≠ P) (e : h.get? b = some o) : (h.update P f).get? b = some o := by
  rw [Heap.get?_update_other _ _ (Ne.symm hb)]; exact e
theorem turn_first {x R : Str} {t tr : Tok} {P : Addr} {s : Shared} {nn : Nat} {cnt : Int} {RR : Result → Shared → Prop} (hp : PatAt s.heap) (hP : s.heap.get? P = some (listOf [].toArray nn))
    (hg : good x.cps x.cps.size 0 = true) (hl : 0 < x.cps.size)
    (next : ∀ h' nn', h'.get? P = some (listOf [Value.str R tr].toArray nn') → (∀ b o, b ≠ P → s.heap.get? b = some o → h'.get? b = some o) → codeAny (model prog w) A (.builtin "re.Pattern.sub.loop" (loopA x t R tr (cnt + 1) 0 0 true P)) RR { s with heap := h' }) :
    codeAny (model prog w) A (.builtin "re.Pattern.sub.loop" (loopA x t R tr cnt 0 0 false P)) RR s := by
  refine codeAny_builtin entry_subloop ?_
  unfold Builtin.«re.Pattern.sub.loop»
  dsimp only
  refine wpAny_bind (whole hp ?_)
  rw [if_pos (by decide)]
  have e2 : reLiteralCannotBeTurned (.str R tr) = pure () := rfl
  rw [e2]
  with_reducible refine wpAny_bind ?_
  with_reducible refine wpAny_pure ?_
  with_reducible refine wpAny_bind ?_
  rw [if_neg (by simp)]
  unfold reNextFound
  dsimp only
  rw [show ((0 : Nat) : Int).toNat = 0 from rfl, search_is (Nat.zero_le _)]
  obtain ⟨n, m', hn, e, h1, h2, h3⟩ := finds hg hl 0 0 false true (({} : Sre.Seen).add 14) rfl (fun h => absurd h (by decide)) (fun _ => rfl) (fun j h1 h2 => absurd h2 (Nat.not_lt_zero j))
  with_reducible refine run_end (n := n) (m' := m') (Nat.le_trans hn (by decide)) e (.inl ⟨h1, ?_⟩)
  dsimp only
  rw [h2, h3, if_neg (by decide), if_pos (by decide)]
  with_reducible refine wpAny_bind ?_
  with_reducible refine wpAny_pure ?_
  rw [if_pos (by simp)]
  with_reducible refine wpAny_bind ?_
  refine wpAny_updateSeq hP rfl ?_ (by simp) (by simp)
  refine wpAny_pure ⟨Code.quiet_builtin _ (by decide +kernel), ?_⟩
  exact next _ _ (update_list hP _) fun b o hb e => update_keep _ hb e
theorem turn_more {x R : Str} {t tr : Tok} {P : Addr} {s : Shared} {vs : List Value} {nn p q : Nat} {cnt : Int} {RR : Result → Shared → Prop} (hp : PatAt s.heap) (hP : s.heap.get? P = some (listOf vs.toArray nn)) (hv : vs.length ≤ 1000)
    (hpq : p < q) (hg : good x.cps x.cps.size q = true) (hl : q < x.cps.size) (hs : x.cps.size ≤ 100000) (hj : ∀ j, p < j → j < q → good x.cps x.cps.size j = false)
    (next : ∀ h' nn' tk u, h'.get? P = some (listOf (vs ++ [Value.str ⟨x.cps.extract p q⟩ u] ++ [Value.str R tr]).toArray nn') → (∀ b o, b ≠ P → s.heap.get? b = some o → h'.get? b = some o) → codeAny (model prog w) A (.builtin "re.Pattern.sub.loop" (loopA x t R tr (cnt + 1) q q true P)) RR { s with heap := h', toks := tk }) :
    codeAny (model prog w) A (.builtin "re.Pattern.sub.loop" (loopA x t R tr cnt p p true P)) RR s := by
  refine codeAny_builtin entry_subloop ?_
  unfold Builtin.«re.Pattern.sub.loop»
  dsimp only
  refine wpAny_bind (whole hp ?_)
  rw [if_pos (by decide)]
  have e2 : reLiteralCannotBeTurned (.str R tr) = pure () := rfl
  rw [e2]
  with_reducible refine wpAny_bind ?_
  with_reducible refine wpAny_pure ?_
  with_reducible refine wpAny_bind ?_
  rw [if_neg (by simp)]
  unfold reNextFound
  dsimp only
  rw [show ((p : Nat) : Int).toNat = p from rfl, search_is (by omega)]
  obtain ⟨n, m', hn, e, h1, h2, h3⟩ := finds hg hl (q - p) p true true (({} : Sre.Seen).add 14) (by omega) (fun h => .inr rfl) (fun h => absurd h (by omega)) hj
  with_reducible refine run_end (n := n) (m' := m') (Nat.le_trans hn (by omega)) e (.inl ⟨h1, ?_⟩)
  dsimp only
  rw [h2, h3, if_pos hpq]
  have e3 : reSlice x.cps 0 p q = mkStr ⟨x.cps.extract p q⟩ := rfl
  rw [e3]
  with_reducible refine wpAny_bind ?_
  refine wpAny_mkStr ?_ (by rw [sizeLine_eq]; show (x.cps.extract p q).size ≤ _; rw [Array.size_extract]; omega)
  with_reducible refine wpAny_bind ?_
  refine wpAny_updateSeq (s := { s with toks := s.toks + 1 }) hP rfl ?_ (by rw [List.size_toArray, sizeLine_eq]; omega) (by rw [Array.size_push, List.size_toArray, sizeLine_eq]; omega)
  rw [if_pos (by decide)]
  with_reducible refine wpAny_bind ?_
  with_reducible refine wpAny_pure ?_
  rw [if_pos (by simp)]
  with_reducible refine wpAny_bind ?_
  have hP2 := update_list hP (Value.str ⟨x.cps.extract p q⟩ s.toks)
  refine wpAny_updateSeq hP2 rfl ?_ (by rw [List.size_toArray, sizeLine_eq, List.length_append]; simp; omega) (by rw [Array.size_push, List.size_toArray, sizeLine_eq, List.length_append]; simp; omega)
  refine wpAny_pure ⟨Code.quiet_builtin _ (by decide +kernel), ?_⟩
  rw [beq_self_eq_true]
  exact next _ _ _ _ (update_list hP2 _) fun b o hb e => update_keep _ hb (update_keep _ hb e)
theorem turn_empty {x R : Str} {t tr : Tok} {P : Addr} {s : Shared} {nn : Nat} {cnt : Int} {RR : Result → Shared → Prop} (hp : PatAt s.heap) (hP : s.heap.get? P = some (listOf [].toArray nn)) (hx : x.cps = #[])
    (hr : ∀ u tk, RR (.ok (.ret (.str ⟨#[]⟩ u))) { s with toks := tk }) :
    codeAny (model prog w) A (.builtin "re.Pattern.sub.loop" (loopA x t R tr cnt 0 0 false P)) RR s := by
  obtain ⟨x⟩ := x
  dsimp only at hx
  subst hx
  refine codeAny_builtin entry_subloop ?_
  unfold Builtin.«re.Pattern.sub.loop»
  dsimp only
  refine wpAny_bind (whole hp ?_)
  rw [if_pos (by decide)]
  have e2 : reLiteralCannotBeTurned (.str R tr) = pure () := rfl
  rw [e2]
  with_reducible refine wpAny_bind ?_
  with_reducible refine wpAny_pure ?_
  with_reducible refine wpAny_bind ?_
  rw [if_neg (by simp)]
  unfold reNextFound
  dsimp only
  rw [show ((0 : Nat) : Int).toNat = 0 from rfl, search_is (Nat.zero_le _)]
  obtain ⟨n, m', hn, e, h1⟩ := finds_none (text := #[]) (lim := (#[] : Array Nat).size) 0 0 false true (({} : Sre.Seen).add 14) rfl (.inl rfl) (fun j h1 h2 => absurd h2 (by simp; omega))
  with_reducible refine run_end (n := n) (m' := m') (Nat.le_trans hn (by decide)) e (.inr ⟨h1, ?_⟩)
  dsimp only
  rw [if_neg (by simp)]
  have e3 : reSlice #[] 0 0 0 = mkStr ⟨#[]⟩ := rfl
  rw [e3]
  with_reducible refine wpAny_bind ?_
  refine wpAny_mkStr ?_ (by rw [sizeLine_eq]; show (#[] : Array Nat).size ≤ _; simp)
  with_reducible refine wpAny_bind ?_
  refine wpAny_seqItems hP rfl ?_
  rw [if_pos (show (((some (#[] : Array Value)).getD #[]).isEmpty = true) from rfl)]
  with_reducible refine wpAny_bind ?_
  with_reducible refine wpAny_pure ?_
  rw [if_neg (by decide)]
  exact wpAny_pure (hr _ _)
theorem turn_end {x R : Str} {t tr : Tok} {P : Addr} {s : Shared} {vs : List Value} {xs : List Str} {nn p : Nat} {cnt : Int} {RR : Result → Shared → Prop} (hp : PatAt s.heap) (hP : s.heap.get? P = some (listOf vs.toArray nn)) (hv : vs.length ≤ 1000)
    (hl : p < x.cps.size) (hs : x.cps.size ≤ 100000) (hj : ∀ j, p < j → j ≤ x.cps.size → good x.cps x.cps.size j = false) (hx : StrsAre vs xs) (hok : JoinOk ⟨#[]⟩ (xs ++ [⟨x.cps.extract p x.cps.size⟩]) = true)
    (hr : ∀ h' u tk, (∀ b o, b ≠ P → s.heap.get? b = some o → h'.get? b = some o) → RR (.ok (.ret (.str (Txt.join ⟨#[]⟩ (xs ++ [⟨x.cps.extract p x.cps.size⟩])) u))) { s with heap := h', toks := tk }) :
    codeAny (model prog w) A (.builtin "re.Pattern.sub.loop" (loopA x t R tr cnt p p true P)) RR s := by
  refine codeAny_builtin entry_subloop ?_
  unfold Builtin.«re.Pattern.sub.loop»
  dsimp only
  refine wpAny_bind (whole hp ?_)
  rw [if_pos (by decide)]
  have e2 : reLiteralCannotBeTurned (.str R tr) = pure () := rfl
  rw [e2]
  with_reducible refine wpAny_bind ?_
  with_reducible refine wpAny_pure ?_
  with_reducible refine wpAny_bind ?_
  rw [if_neg (by simp)]
  unfold reNextFound
  dsimp only
  rw [show ((p : Nat) : Int).toNat = p from rfl, search_is (by omega)]
  obtain ⟨n, m', hn, e, h1⟩ := finds_none (x.cps.size - p) p true true (({} : Sre.Seen).add 14) (by omega) (.inr rfl) hj
  with_reducible refine run_end (n := n) (m' := m') (Nat.le_trans hn (by omega)) e (.inr ⟨h1, ?_⟩)
  dsimp only
  rw [if_pos hl]
  have e3 : reSlice x.cps 0 p x.cps.size = mkStr ⟨x.cps.extract p x.cps.size⟩ := rfl
  have e4 : reSlice x.cps 0 0 0 = mkStr ⟨#[]⟩ := by show mkStr ⟨x.cps.extract 0 0⟩ = _; rw [Array.extract_zero]
  rw [e3]
  with_reducible refine wpAny_bind ?_
  refine wpAny_mkStr ?_ (by rw [sizeLine_eq]; show (x.cps.extract p x.cps.size).size ≤ _; rw [Array.size_extract]; omega)
  with_reducible refine wpAny_bind ?_
  refine wpAny_updateSeq (s := { s with toks := s.toks + 1 }) hP rfl ?_ (by rw [List.size_toArray, sizeLine_eq]; omega) (by rw [Array.size_push, List.size_toArray, sizeLine_eq]; omega)
  rw [e4]
  with_reducible refine wpAny_bind ?_
  refine wpAny_mkStr ?_ (by rw [sizeLine_eq]; show (#[] : Array Nat).size ≤ _; simp)
  have hP2 := update_list hP (Value.str ⟨x.cps.extract p x.cps.size⟩ s.toks)
  with_reducible refine wpAny_bind ?_
  refine wpAny_seqItems hP2 rfl ?_
  rw [if_neg (by simp)]
  obtain ⟨l, hl1, hl2⟩ := strs_values (hx.append' (.cons ⟨x.cps.extract p x.cps.size⟩ s.toks .nil))
  have hj2 := hP2
  rw [hl1] at hj2
  rw [if_pos (by decide : ((0 : Nat) == 0) = true)]
  with_reducible refine wpAny_bind ?_
  refine SC.join (l := l) ⟨_, hj2, rfl, _, rfl⟩ hl2 hok ?_
  intro u tk
  rw [if_neg (by decide)]
  exact wpAny_pure (hr _ _ _ fun b o hb e => update_keep _ hb e)
end
end
section
theorem freshSreI : True := by (w_top off; trivial)
open PySem PySem.W PySem.Spec PySem.Calls PyProof.Rows PySem.Builtin PySem.Builtin.Re
set_option maxRecDepth 100000
set_option linter.all false
theorem PatAt.keeps {h h' : Heap} {P : Addr} (hp : PatAt h) (h1 : P ≠ 51) (h2 : P ≠ 50) (k : ∀ b o, b ≠ P → h.get? b = some o → h'.get? b = some o) : PatAt h' := by
  obtain ⟨⟨o, pt, t0, t1, t2, t3, a, r⟩, ⟨o2, items, n, a2, r2⟩⟩ := hp
  exact ⟨⟨o, pt, t0, t1, t2, t3, k _ _ (Ne.symm h1) a, r⟩, ⟨o2, items, n, k _ _ (Ne.symm h2) a2, r2⟩⟩
abbrev pcs (k : Nat) (ns : List Nat) : List Str := (ns.map fun n => [spS k, rowN n]).flatten
theorem pcs_snoc (k : Nat) (pre : List Nat) (n : Nat) : pcs k (pre ++ [n]) = pcs k pre ++ [spS k] ++ [rowN n] := by simp [pcs]
theorem pcs_len (k : Nat) (ns : List Nat) : (pcs k ns).length = 2 * ns.length := by
  induction ns with
  | nil => rfl
  | cons n r ih =>
    show ([spS k, rowN n] ++ pcs k r).length = _
    rw [List.length_append, ih]; simp; omega
theorem pcs_weight (k : Nat) (ns : List Nat) : ((pcs k ns).map (·.length)).sum = ns.sum + ns.length * (k + 2) := by
  induction ns with
  | nil => simp [pcs]
  | cons n r ih =>
    show (([spS k, rowN n] ++ pcs k r).map (·.length)).sum = _
    have e1 : (spS k).length = k := by simp [Str.length, spS]
    rw [List.map_append, List.sum_append, ih]
    simp only [List.map_cons, List.map_nil, List.sum_cons, List.sum_nil, e1, rowN_len, List.length_cons, Nat.succ_mul]
    omega
theorem join_pcs (k : Nat) (ns : List Nat) : Txt.join ⟨#[]⟩ (pcs k ns) = pageS (ns.map (· + k)) := by
  show Builtin.Str.glued _ _ = _
  rw [StrLaws.glued_eq_join]
  refine str_of_toList ?_
  rw [join_empty]
  exact page_of ns k
section
variable {prog : Program} {w : World} {A : Around}
theorem sub_go {k : Nat} {P : Addr} {t tr : Tok} {RR : Result → Shared → Prop} (hk : k ≤ 100) (hP1 : P ≠ 51) (hP2 : P ≠ 50) : ∀ (rest pre : List Nat) (n : Nat) (s : Shared) (vs : List Value) (nn : Nat) (cnt : Int),
    PatAt s.heap → s.heap.get? P = some (listOf vs.toArray nn) → StrsAre vs (pcs k pre ++ [spS k]) → (pre ++ n :: rest).length ≤ 100 → (pre ++ n :: rest).sum ≤ 10000 →
    (∀ h' u tk, (∀ b o, b ≠ P → s.heap.get? b = some o → h'.get? b = some o) → RR (.ok (.ret (.str (pageS ((pre ++ n :: rest).map (· + k))) u))) { s with heap := h', toks := tk }) →
    codeAny (model prog w) A (.builtin "re.Pattern.sub.loop" (loopA (pageS (pre ++ n :: rest)) t (spS k) tr cnt (pageL pre).length (pageL pre).length true P)) RR s := by
  intro rest
  induction rest with
  | nil =>
    intro pre n s vs nn cnt hp hP hv hlen hsum hr
    have hvl := strs_len hv
    rw [List.length_append, pcs_len] at hvl
    rw [List.length_append] at hlen
    simp only [List.length_cons, List.length_nil] at hlen hvl
    have hsz : (pageS (pre ++ [n])).cps.size = (pageL pre).length + (n + 2) := by rw [page_size, len_step]; rfl
    have hsz2 : (pageS (pre ++ [n])).cps.size ≤ 100000 := by
      show (pageS (pre ++ [n])).length ≤ _
      rw [pageS_len, List.length_append]; simp only [List.length_cons, List.length_nil]; omega
    have hcut : (⟨(pageS (pre ++ [n])).cps.extract (pageL pre).length (pageS (pre ++ [n])).cps.size⟩ : Str) = rowN n := by rw [hsz]; exact page_cut
    refine turn_end hp hP (by omega) (by omega) hsz2 (fun j h1 h2 => ?_) hv ?_ ?_
    · by_cases q : j < (pageS (pre ++ [n])).cps.size
      · exact not_good h1 (by omega)
      · obtain rfl : j = (pageS (pre ++ [n])).cps.size := by omega
        exact not_good_end _
    · rw [hcut, ← pcs_snoc]
      refine joinOk_of_weight ?_ (by decide)
      have h3 : (pre ++ [n]).length * (k + 2) ≤ 100 * 102 := Nat.mul_le_mul (by rw [List.length_append]; simpa using hlen) (by omega)
      rw [pcs_weight, pcs_len, List.length_append] at *
      simp only [List.length_cons, List.length_nil] at *
      omega
    · intro h' u tk hb
      rw [hcut, ← pcs_snoc, join_pcs]
      exact hr _ _ _ hb
  | cons n' r ih =>
    intro pre n s vs nn cnt hp hP hv hlen hsum hr
    have hvl := strs_len hv
    rw [List.length_append, pcs_len] at hvl
    have hl2 := hlen
    rw [List.length_append] at hl2
    simp only [List.length_cons, List.length_nil] at hl2 hvl
    have e0 : pre ++ n :: n' :: r = (pre ++ [n]) ++ n' :: r := by simp
    have hq : (pageL (pre ++ [n])).length = (pageL pre).length + (n + 2) := by rw [len_step]; rfl
    have hg := good_start (pre := pre ++ [n]) (r := r) (n := n')
    rw [← e0, hq] at hg
    have hsz : (pageL pre).length + (n + 2) < (pageS (pre ++ n :: n' :: r)).cps.size := by
      rw [page_size, len_step]; simp [pageL]; omega
    have hsz2 : (pageS (pre ++ n :: n' :: r)).cps.size ≤ 100000 := by
      show (pageS (pre ++ n :: n' :: r)).length ≤ _
      rw [pageS_len]; omega
    refine turn_more hp hP (by omega) (by omega) hg hsz hsz2 (fun j h1 h2 => not_good h1 h2) ?_
    intro h' nn' tk u hP' hb
    rw [page_cut] at hP'
    have hv' := (hv.append' (.cons (rowN n) u .nil)).append' (.cons (spS k) tr .nil)
    rw [← pcs_snoc] at hv'
    have := ih (pre ++ [n]) n' { s with heap := h', toks := tk } _ nn' (cnt + 1) (hp.keeps hP1 hP2 hb) hP' hv' (by rw [← e0]; exact hlen) (by rw [← e0]; exact hsum) (by
      intro h2 u2 tk2 hb2
      rw [← e0]
      exact hr _ _ _ fun b o hbP e => hb2 b o hbP (hb b o hbP e))
    rw [← e0, hq] at this
    exact this
theorem sub_all {k : Nat} {P : Addr} {t tr : Tok} {RR : Result → Shared → Prop} {ns : List Nat} {s : Shared} {nn : Nat} (hk : k ≤ 100) (hP1 : P ≠ 51) (hP2 : P ≠ 50) (hp : PatAt s.heap) (hP : s.heap.get? P = some (listOf [].toArray nn)) (hlen : ns.length ≤ 100) (hsum : ns.sum ≤ 10000)
    (hr : ∀ h' u tk, (∀ b o, b ≠ P → s.heap.get? b = some o → h'.get? b = some o) → RR (.ok (.ret (.str (pageS (ns.map (· + k))) u))) { s with heap := h', toks := tk }) :
    codeAny (model prog w) A (.builtin "re.Pattern.sub.loop" (loopA (pageS ns) t (spS k) tr 0 0 0 false P)) RR s := by
  cases ns with
  | nil => exact turn_empty hp hP rfl fun u tk => hr _ _ _ fun b o _ e => e
  | cons n r =>
    have hg := good_start (pre := []) (r := r) (n := n)
    refine turn_first hp hP hg (by rw [page_size]; simp [pageL]; omega) ?_
    intro h' nn' hP' hb
    exact sub_go hk hP1 hP2 r [] n { s with heap := h' } _ nn' _ (hp.keeps hP1 hP2 hb) hP' (.cons _ _ .nil) hlen hsum fun h2 u2 tk2 hb2 => hr _ _ _ fun b o hbP e => hb2 b o hbP (hb b o hbP e)
theorem no_call_str : typeLookup (.type "str") "__call__" = pure none := by rw [typeLookup_type, builtinLookup_eq_fast]; kernel_rfl
theorem named_sub (a b : Value) : reNamed "re.Pattern.sub" "sub" ["repl", "string", "count"] 2 [a, b] [] = pure [some a, some b, none] := by kernel_rfl
theorem sub_entry {B : Around} {E : Value → Shared → Prop} {k : Nat} {t tr : Tok} {ns : List Nat} {s : Shared} {RR : Result → Shared → Prop} (hk : k ≤ 100) (hp : PatAt s.heap) (hlen : ns.length ≤ 100) (hsum : ns.sum ≤ 10000) (hz : 51 < s.heap.objs.size)
    (hr : ∀ h' u tk, (∀ b o, s.heap.get? b = some o → h'.get? b = some o) → RR (.ok (.ret (.str (pageS (ns.map (· + k))) u))) { s with heap := h', toks := tk }) :
    wpAny (model prog w) B (Builtin.«re.Pattern.sub» ⟨[.ref 51, .str (spS k) tr, .str (pageS ns) t], []⟩) (fun fin s' => match fin with | .done f => RR (.ok f) s' | .again c' => c'.quiet = true ∧ codeAny (model prog w) A c' RR s') E s := by
  unfold Builtin.«re.Pattern.sub» reSubstitute
  dsimp only
  rw [named_sub]
  with_reducible refine wpAny_bind ?_
  with_reducible refine wpAny_pure ?_
  dsimp only
  with_reducible refine wpAny_bind ?_
  with_reducible refine wpAny_pure ?_
  with_reducible refine wpAny_bind ?_
  refine wpAny_specialOf (typeIs_str _ _ _) no_call_str ?_
  rw [if_neg (by simp)]
  have e5 : asStr? (.str (spS k) tr) = pure (some (spS k)) := rfl
  have e6 : (!(spS k).cps.contains 92) = true := by
    simp [spS, List.mem_replicate]
  simp only [e5]
  with_reducible refine wpAny_bind ?_
  with_reducible refine wpAny_pure ?_
  dsimp only
  rw [e6]
  with_reducible refine wpAny_bind ?_
  with_reducible refine wpAny_pure ?_
  rw [if_neg (by simp), if_pos rfl]
  with_reducible refine wpAny_bind ?_
  with_reducible refine wpAny_pure ?_
  dsimp only
  with_reducible refine wpAny_bind ?_
  refine wpAny_holding (whole hp ?_)
  rw [if_neg (by decide)]
  with_reducible refine wpAny_bind ?_
  refine wpAny_newList ?_
  refine wpAny_pure ⟨Code.quiet_builtin _ (by decide +kernel), ?_⟩
  have up : ∀ b o, s.heap.get? b = some o → (s.heap.push { cls := .type "list", data := .seq ([] : List Value).toArray }).get? b = some o := fun b o e => Heap.get?_push_of_some _ e
  refine sub_all (P := s.heap.objs.size) (s := { s with heap := s.heap.push { cls := .type "list", data := .seq ([] : List Value).toArray } }) (nn := 0) hk (Nat.ne_of_gt hz) (Nat.ne_of_gt (Nat.lt_of_succ_lt hz)) (hp.keeps (P := s.heap.objs.size) (Nat.ne_of_gt hz) (Nat.ne_of_gt (Nat.lt_of_succ_lt hz)) fun b o _ e => up b o e) (Heap.get?_push_size _ rfl) hlen hsum ?_
  intro h' u tk hb
  exact hr _ _ _ fun b o e => hb b o (Nat.ne_of_lt (Heap.lt_size e)) (up b o e)
theorem code_sub {k : Nat} {t tr : Tok} {ns : List Nat} {s : Shared} {R : Result → Shared → Prop} (hk : k ≤ 100) (hp : PatAt s.heap) (hlen : ns.length ≤ 100) (hsum : ns.sum ≤ 10000)
    (hr : ∀ h' u tk, (∀ b o, s.heap.get? b = some o → h'.get? b = some o) → R (.ok (.ret (.str (pageS (ns.map (· + k))) u))) { s with heap := h', toks := tk }) :
    codeAny (model prog w) A (.call (.builtin "re.Pattern.sub") ⟨[.ref 51, .str (spS k) tr, .str (pageS ns) t], []⟩) R s := by
  obtain ⟨o, pt, t0, t1, t2, t3, h51, hc, _⟩ := id hp.pat
  refine codeAny_call_builtin slot_sub.plain entry_sub (slot_sub.check _ _ _ _ _ _ _ _ ⟨o, h51, hc⟩ (args_sub _ _ _) ?_)
  exact sub_entry hk hp hlen hsum (Heap.lt_size h51) hr
theorem call_sub {E : Value → Shared → Prop} {k : Nat} {t tr : Tok} {ns : List Nat} {s : Shared} {Q : Value → Shared → Prop} (hk : k ≤ 100) (hp : PatAt s.heap) (hlen : ns.length ≤ 100) (hsum : ns.sum ≤ 10000)
    (hr : ∀ h' u tk, (∀ b o, s.heap.get? b = some o → h'.get? b = some o) → Q (.str (pageS (ns.map (· + k))) u) { s with heap := h', toks := tk }) :
    wpAny (model prog w) A (call (.builtin "re.Pattern.sub") [.ref 51, .str (spS k) tr, .str (pageS ns) t]) Q E s :=
  wpAny_call (code_sub hk hp hlen hsum fun h' u tk hb => hr h' u tk hb)
end
end
section
theorem freshFly : True := by (w_top off; trivial)
open PySem PySem.W PySem.Spec PySem.Calls PyProof.Rows
set_option maxRecDepth 100000
theorem dict_mapFields (o : Obj) (f : Array Value → Array Value) : (o.mapFields f).dict = o.dict := by
  obtain ⟨c, d, dt, sl⟩ := o; cases dt <;> rfl
/-- the object at e has this dict of its own -/
def DictAt (h : Heap) (e : Addr) (dd : Option Addr) : Prop := ∃ oe, h.get? e = some oe ∧ oe.dict = dd
section
variable {M : Model} {A : Around} {E : Value → Shared → Prop} {s : Shared}
theorem entry_D {base : Heap} {env : Env} {outer : List Env} {L e : Addr} {oe : Obj} {vs : Array Value} {head a0 : Value} {hadNext : Bool} {Q : Unit → Shared → Prop}
    (hfr : A.frames = some (env :: outer)) (hl : s.heap.FunFrames base (env :: outer)) (hf : env.frame = some L)
    (he : s.heap.get? e = some oe) (hkb : base.StaysIn s.heap) (hen : base.get? e = none) (hd : oe.data = .fields vs) (hsz : 1 < vs.size) (h0 : vs[0]? = some a0)
    (h : ∀ h', Heap.NotedW base (env :: outer) e oe.cls a0 (rawInt L) s.heap h' → DictAt h' e oe.dict → Q () { s with heap := h' }) :
    wpAny M A (do let a ← frameOf env; let pl ← entryPlaceOf L hadNext; let b ← EntryCells.newEntry head a .none (rawInt L) .none pl; setField (.ref e) 1 b) Q E s := by
  have hene : e ∉ (env :: outer).filterMap (·.frame) := fun hm => by
    obtain ⟨_, o, ho, hnf⟩ := hl.mem hm
    rw [he] at ho; injection ho with ho; subst ho; exact hnf vs hd
  refine wpAny_bind (wpAny_frameOf_fun hfr hl hf fun h₁ hs₁ => ?_)
  refine wpAny_bind (wpAny_entryPlaceOf fun pl hpl => ?_)
  unfold EntryCells.newEntry newFields
  refine wpAny_bind (wpAny_newObj_type ?_ (hpl.sizeOk5 _ _ _ _ _))
  have he₁ : h₁.get? e = some oe := (hs₁.2.1 e hene).trans he
  have kb₁ : base.StaysIn h₁ := fun b o hbo => (hs₁.2.1 b fun hm => by rw [(hl.mem hm).1] at hbo; cases hbo).trans (hkb b o hbo)
  generalize hO : ({ cls := .type "traceback", dict := none, data := .fields ([head, .ref L, .none, rawInt L, .none] ++ (if pl.isEmpty then List.replicate 6 Value.none else pl)).toArray } : Obj) = oT
  have he₂ := Heap.get?_push_of_some (h := h₁) oT he₁
  refine wpAny_setField he₂ hd hsz (h _ ?_ ?_)
  · have hTe : h₁.objs.size ≠ e := Nat.ne_of_gt (Heap.lt_size he₁)
    have hd₃ := Obj.data_mapFields hd (·.setIfInBounds 1 (Value.ref h₁.objs.size))
    have he₃ := Heap.get?_update_self (Obj.mapFields (·.setIfInBounds 1 (Value.ref h₁.objs.size))) he₂ (Obj.isFreed_of_fields hd₃)
    have hT₃ := (Heap.get?_update_other (h₁.push oT) (Obj.mapFields (·.setIfInBounds 1 (Value.ref h₁.objs.size))) (Ne.symm hTe)).trans (Heap.get?_push_size h₁ (by subst hO; rfl))
    have keep : ∀ b o, b ≠ e → h₁.get? b = some o → ((h₁.push oT).update e (Obj.mapFields (·.setIfInBounds 1 (Value.ref h₁.objs.size)))).get? b = some o := fun b o hbe hb => by
      rw [Heap.get?_update_other _ _ (Ne.symm hbe)]
      exact Heap.get?_push_of_some _ hb
    have ne : ∀ b o, s.heap.get? b = some o → (∀ vs, o.data ≠ .fields vs) → b ≠ e := fun b o hb hnf q => by
      rw [q, he] at hb; injection hb with hb; subst hb; exact hnf vs hd
    refine ⟨fun b o hbo => keep b o (fun q => by rw [q, hen] at hbo; cases hbo) (kb₁ b o hbo), hl.of_keeps fun b o hb hnf => ?_, ?_, fun b o hb hnf => ?_⟩
    · obtain ⟨sl, hs⟩ := hs₁.2.2 b o hb
      exact ⟨_, keep b _ (ne b o hb hnf) hs, rfl⟩
    · refine ⟨_, _, h₁.objs.size, _, _, he₃, ⟨Obj.cls_mapFields _ _, by rw [Array.getElem?_setIfInBounds_ne (by decide)]; exact h0⟩, hd₃, by simp [hsz], kb₁.fresh, hTe, hT₃, by subst hO; rfl, ?_⟩
      rcases hpl with rfl | ⟨_, _, _, _, _, _, _, rfl⟩ <;> simp
    · obtain ⟨sl, hs⟩ := hs₁.2.2 b o hb
      exact ⟨sl, keep b _ (ne b o hb hnf) hs⟩
  · have hd₃ := Obj.data_mapFields hd (·.setIfInBounds 1 (Value.ref h₁.objs.size))
    exact ⟨_, Heap.get?_update_self _ he₂ (Obj.isFreed_of_fields hd₃), dict_mapFields _ _⟩
/-- a flight that keeps the dict -/
def FlyD (base : Heap) (l : List Env) (e : Addr) (cls a0 : Value) (dd : Option Addr) (h : Heap) : Prop := Heap.FlyingW base l e cls a0 h ∧ DictAt h e dd
def HeldD (base : Heap) (l : List Env) (e : Addr) (cls a0 : Value) (dd : Option Addr) (L : Addr) (h : Heap) : Prop := Heap.HeldW base l e cls a0 L h ∧ DictAt h e dd
theorem note_first {base : Heap} {env : Env} {outer : List Env} {L e : Addr} {oe : Obj} {vs : Array Value} {a0 : Value} {Q : Unit → Shared → Prop}
    (hfr : A.frames = some (env :: outer)) (hl : s.heap.FunFrames base (env :: outer)) (hf : env.frame = some L)
    (he : s.heap.get? e = some oe) (hkb : base.StaysIn s.heap) (hen : base.get? e = none) (hd : oe.data = .fields vs) (h1 : vs[1]? = some .none) (h0 : vs[0]? = some a0)
    (h : ∀ h', HeldD base (env :: outer) e oe.cls a0 oe.dict L h' → s.heap.UpToSlots h' → Q () { s with heap := h' }) : wpAny M A (noteFrame (.ref e) env) Q E s := by
  unfold noteFrame
  simp only [hf]
  refine wpAny_bind (wpAny_field he hd h1 ?_)
  rw [if_neg (by decide)]
  exact entry_D hfr hl hf he hkb hen hd (Array.getElem?_eq_some_iff.mp h1).1 h0 fun h' ⟨x1, x2, x3, x4⟩ xd => h h' ⟨⟨x1, hen, x2, x3⟩, xd⟩ x4
theorem note_on {base : Heap} {env : Env} {outer : List Env} {L e : Addr} {cls a0 : Value} {dd : Option Addr} {Q : Unit → Shared → Prop}
    (hfr : A.frames = some (env :: outer)) (hf : env.frame = some L) (hfl : FlyD base (env :: outer) e cls a0 dd s.heap)
    (h : ∀ h', HeldD base (env :: outer) e cls a0 dd L h' → s.heap.UpToSlots h' → Q () { s with heap := h' }) : wpAny M A (noteFrame (.ref e) env) Q E s := by
  obtain ⟨⟨hkb, hen, hl, oe, vs, T, oT, ts, he, ⟨hcls, h0⟩, hd, h1, hnT, hTe, hT, hdT, h3⟩, oe', he', hdd⟩ := hfl
  rw [he] at he'
  obtain rfl := Option.some.inj he'
  subst hcls hdd
  unfold noteFrame
  simp only [hf]
  refine wpAny_bind (wpAny_field he hd h1 ?_)
  rw [if_pos (show (Value.ref T != Value.none) = true from by simp)]
  refine wpAny_bind (wpAny_field hT hdT h3 ?_)
  rw [if_neg (show ¬ ((Value.none == rawInt L) = true) from by simp [rawInt])]
  refine wpAny_bind (wpAny_setField hT hdT (Array.getElem?_eq_some_iff.mp h3).1 ?_)
  have other : ∀ b, b ≠ T → (s.heap.update T (Obj.mapFields (·.setIfInBounds 3 Value.none))).get? b = s.heap.get? b := fun b hb => Heap.get?_update_other _ _ (Ne.symm hb)
  have ne : ∀ b o, s.heap.get? b = some o → (∀ vs, o.data ≠ .fields vs) → b ≠ T := fun b o hb hnf q => by
    rw [q, hT] at hb; injection hb with hb; subst hb; exact hnf ts hdT
  refine entry_D hfr (hl.of_keeps fun b o hb hnf => ⟨o, (other b (ne b o hb hnf)).trans hb, rfl⟩) hf ((other e (Ne.symm hTe)).trans he)
    (fun b o hbo => (other b fun q => by rw [q, hnT] at hbo; cases hbo).trans (hkb b o hbo)) hen hd (Array.getElem?_eq_some_iff.mp h1).1 h0
    fun h' ⟨x1, x2, x3, x4⟩ xd => h h' ⟨⟨x1, hen, x2, x3⟩, xd⟩ fun b o hb hnf => x4 b o ((other b (ne b o hb hnf)).trans hb) hnf
theorem flight_D {base : Heap} {l : List Env} {e : Addr} {cls a0 fl : Value} {dd : Option Addr} {Q : Unit → Shared → Prop}
    (hkb : base.StaysIn s.heap) (hen : base.get? e = none) (hl : s.heap.FunFrames base l) (ht : s.heap.TracedAtW base e cls a0 fl) (hdd : DictAt s.heap e dd)
    (h : ∀ h', FlyD base l e cls a0 dd h' → s.heap.UpToSlots h' → Q () { s with heap := h' }) : wpAny M A (setFlight (.ref e) none) Q E s := by
  obtain ⟨oe, vs, T, oT, ts, he, hcls, hd, h1, hnT, hTe, hT, hdT, h3⟩ := ht
  obtain ⟨oe', he', hdd⟩ := hdd
  rw [he] at he'
  obtain rfl := Option.some.inj he'
  have hsz3 : 3 < ts.size := (Array.getElem?_eq_some_iff.mp h3).1
  have other : ∀ b, b ≠ T → (s.heap.update T (Obj.mapFields (·.setIfInBounds 3 ((none : Option Addr).elim Value.none fun f => rawInt f)))).get? b = s.heap.get? b := fun b hb => Heap.get?_update_other _ _ (Ne.symm hb)
  have ne : ∀ b o, s.heap.get? b = some o → (∀ vs, o.data ≠ .fields vs) → b ≠ T := fun b o hb hnf q => by
    rw [q, hT] at hb; injection hb with hb; subst hb; exact hnf ts hdT
  unfold setFlight
  refine wpAny_bind (wpAny_field he hd h1 ?_)
  rw [if_pos (show (Value.ref T != Value.none) = true from by simp)]
  refine wpAny_setField hT hdT hsz3 (h _ ⟨⟨fun b o hbo => (other b fun q => by rw [q, hnT] at hbo; cases hbo).trans (hkb b o hbo), hen, hl.of_keeps fun b o hb hnf => ⟨o, (other b (ne b o hb hnf)).trans hb, rfl⟩, ?_⟩, ?_⟩ fun b o hb hnf => ⟨o.slots, (other b (ne b o hb hnf)).trans hb⟩)
  · exact ⟨oe, vs, T, _, _, (other e (Ne.symm hTe)).trans he, hcls, hd, h1, hnT, hTe, Heap.get?_update_self _ hT (Obj.isFreed_of_fields (Obj.data_mapFields hdT _)), Obj.data_mapFields hdT _, by simp [hsz3]⟩
  · exact ⟨oe, (other e (Ne.symm hTe)).trans he, hdd⟩
theorem lands_D {base : Heap} {l : List Env} {e L : Addr} {cls a0 : Value} {dd : Option Addr} {Q : Unit → Shared → Prop} (hh : HeldD base l e cls a0 dd L s.heap)
    (hQ : ∀ h', FlyD base l e cls a0 dd h' → s.heap.UpToSlots h' → Q () { s with heap := h' }) : wpAny M A (setFlight (.ref e) none) Q E s := by
  obtain ⟨⟨f1, f2, f3, f4⟩, f5⟩ := hh
  exact flight_D f1 f2 f3 f4 f5 hQ
theorem lands_again_D {base : Heap} {l : List Env} {e : Addr} {cls a0 : Value} {dd : Option Addr} {Q : Unit → Shared → Prop} (hh : FlyD base l e cls a0 dd s.heap)
    (hQ : ∀ h', FlyD base l e cls a0 dd h' → s.heap.UpToSlots h' → Q () { s with heap := h' }) : wpAny M A (setFlight (.ref e) none) Q E s := by
  obtain ⟨⟨f1, f2, f3, f4⟩, f5⟩ := hh
  exact flight_D f1 f2 f3 f4.at f5 hQ
theorem FlyD.pop {base h : Heap} {env : Env} {l : List Env} {e : Addr} {cls a0 : Value} {dd : Option Addr} (x : FlyD base (env :: l) e cls a0 dd h) : FlyD base l e cls a0 dd h := by
  obtain ⟨⟨f1, f2, ⟨_, _, f3⟩, f4⟩, f5⟩ := x
  exact ⟨⟨f1, f2, f3, f4⟩, f5⟩
/-- the frame in which it was raised is left -/
theorem leaves_first {base : Heap} {env : Env} {outer : List Env} {L e : Addr} {oe : Obj} {vs : Array Value} {a0 : Value} {Q : Unit → Shared → Prop}
    (hfr : A.frames = some (env :: outer)) (hl : s.heap.FunFrames base (env :: outer)) (hf : env.frame = some L)
    (he : s.heap.get? e = some oe) (hkb : base.StaysIn s.heap) (hen : base.get? e = none) (hd : oe.data = .fields vs) (h1 : vs[1]? = some .none) (h0 : vs[0]? = some a0)
    (h : ∀ h', FlyD base outer e oe.cls a0 oe.dict h' → s.heap.UpToSlots h' → Q () { s with heap := h' }) : wpAny M A (leaving env (.ref e)) Q E s := by
  unfold leaving
  refine wpAny_bind (note_first hfr hl hf he hkb hen hd h1 h0 fun h₁ x k => ?_)
  exact lands_D x fun h₂ y k₂ => h h₂ y.pop (k.trans k₂)
end
end
section
theorem freshCatch : True := by (w_top off; trivial)
open PySem PySem.W PySem.Spec PySem.Calls PyProof.Rows
set_option maxRecDepth 100000
/-- an exception that flies towards the frames l, over the ground G -/
def RaisedD (base G : Heap) (l : List Env) (e : Addr) (cls : Value) (dd : Option Addr) (news : Led) (h : Heap) : Prop :=
  ∃ B a0, base.StaysIn B ∧ (∀ b o, G.get? b = some o → b ∉ l.filterMap (·.frame) → B.get? b = some o) ∧ (∀ q ∈ news, B.get? q.1 = some q.2 ∧ G.get? q.1 = none ∧ base.get? q.1 = none) ∧ FlyD B l e cls a0 dd h
section
variable {M : Model} {A : Around} {E : Value → Shared → Prop} {s' : Shared} {base g : Heap} {outer : List Env} {L a e : Addr} {m : Str → Option Value} {name : Str} {scope : Scope} {cd : Value} {Q : Unit → Shared → Prop} {news : Led}
theorem leave_D {oe : Obj} {ws : Array Value} {a0 : Value} (K : Below A base outer g) (F : Fr g L s'.heap m) (N : News g L s'.heap ((e, oe) :: news)) (hne : ∀ q ∈ news, q.1 ≠ e) (hd : oe.data = .fields ws) (h1 : ws[1]? = some .none) (h0 : ws[0]? = some a0)
    (hQ : ∀ h', RaisedD base g outer e oe.cls oe.dict news h' → g.UpToSlots h' → Q () { s' with heap := h' }) (hk : scope.kind = .function := by rfl) :
    wpAny M (A.deeper (envOf name scope L a cd)) (leaving (envOf name scope L a cd) (.ref e)) Q E s' := by
  have K' := K.push (name := name) (a := a) (cd := cd) F hk
  have he := (N _ (List.mem_cons_self ..)).1
  have hg : g.get? e = none := (N _ (List.mem_cons_self ..)).2.2
  have heb : base.get? e = none := fresh_of_stays K.stays hg
  have hef : e ∉ (envOf name scope L a cd :: outer).filterMap (·.frame) := fun hm => by
    obtain ⟨_, o, ho, hnf⟩ := K'.frames.mem hm
    have he' : s'.heap.get? e = some oe := he
    rw [he'] at ho; injection ho with ho; subst ho; exact hnf ws hd
  have hin : ∀ env ∈ (envOf name scope L a cd :: outer), ∀ b, env.frame = some b → b ∈ e :: (envOf name scope L a cd :: outer).filterMap (·.frame) := fun env he b hb => List.mem_cons_of_mem _ (List.mem_filterMap.mpr ⟨env, he, hb⟩)
  have st : base.StaysIn (hideAll s'.heap (e :: (envOf name scope L a cd :: outer).filterMap (·.frame))) := fun b o q => hideAll_get _ (K'.stays b o q) fun hm => by
    rcases List.mem_cons.mp hm with rfl | hm
    · rw [heb] at q; cases q
    · rw [(K'.frames.mem hm).1] at q; cases q
  have sg : ∀ b o, g.get? b = some o → b ∉ outer.filterMap (·.frame) → (hideAll s'.heap (e :: (envOf name scope L a cd :: outer).filterMap (·.frame))).get? b = some o := fun b o q nm => hideAll_get _ (F.keep b o q) fun hm => by
    rcases List.mem_cons.mp hm with rfl | hm
    · rw [hg] at q; cases q
    · rcases kts_mem hm with z | z
      · rw [z, kts_self F] at q
        cases q
      · exact nm z
  have hl : ∀ q ∈ news, (hideAll s'.heap (e :: (envOf name scope L a cd :: outer).filterMap (·.frame))).get? q.1 = some q.2 ∧ g.get? q.1 = none ∧ base.get? q.1 = none := fun q hq => by
    have Nq := N q (List.mem_cons_of_mem _ hq)
    refine ⟨hideAll_get _ Nq.1 fun hm => ?_, Nq.2.2, fresh_of_stays K.stays Nq.2.2⟩
    rcases List.mem_cons.mp hm with h | hm
    · exact hne q hq h
    · obtain ⟨env, he, hf⟩ := List.mem_filterMap.mp hm
      rcases List.mem_cons.mp he with rfl | he
      · exact Nq.2.1 (Option.some.inj hf).symm
      · obtain ⟨o, ho, _⟩ := (K.frames.mem (List.mem_filterMap.mpr ⟨env, he, hf⟩)).2
        rw [Nq.2.2] at ho; cases ho
  exact leaves_first K'.stack (funFrames_hide K'.frames hin) rfl he (fun b o q => of_hideAll _ q) (hideAll_none _ (List.mem_cons_self ..)) hd h1 h0 fun h' x k => hQ h' ⟨_, _, st, sg, hl, x⟩ ((Heap.UpToSlots.of_keeps F.keep).trans k)
end
section
variable {A₀ : Around} {base g G h G' : Heap} {outer : List Env} {L a e : Addr} {m : Str → Option Value} {name : Str} {scope : Scope} {cd cls : Value} {dd : Option Addr} {news : Led}
/-- the ground of the caller, after the frames' slots have turned -/
theorem turned (K : Below A₀ base outer g) (F : Fr g L G m) (T : KtsTurn ((envOf name scope L a cd :: outer).filterMap (·.frame)) G G') :
    ∃ g', KtsTurn (outer.filterMap (·.frame)) g g' ∧ Fr g' L G' m ∧ Below A₀ base outer g' := by
  refine kts_ground (B := hideAll G' ((envOf name scope L a cd :: outer).filterMap (·.frame))) (name := name) (scope := scope) (a := a) (cd := cd) K F (fun b o e nm => hideAll_get _ (T.other b o e nm) nm) (fun b o q => of_hideAll _ q) (fun b o e _ => T.up e)
end
section
variable {prog : Program} {w : World} {A₀ : Around} {E : Value → Shared → Prop} {s' : Shared} {base g g₀ G : Heap} {outer : List Env} {L a e : Addr} {m : Str → Option Value} {name : Str} {scope : Scope} {cd cls : Value} {dd : Option Addr}
  {n : Str} {b₀ : Stmt} {suite : List Stmt} {pos : Pos} {rest : List ExceptHandler} {Q : Flow → Shared → Prop} {news : Led} {KF : Frag}
  {p : Program} {loose : List Str} {mean : ExcName → Option Value} {mg mb : Str → Option Value}
theorem bare_D (R : RaisedD base G (envOf name scope L a cd :: outer) e cls dd news s'.heap) (F : Fr g L G m) (K : Below A₀ base outer g) (hsm : G.UpToSlots s'.heap) (XB : KF.In base) (TB : Top p loose mean mg mb base)
    (D : KtsDicts (outer.filterMap (·.frame)) g) (T0 : KtsTurn (outer.filterMap (·.frame)) g₀ g)
    (k : ∀ h' g', KtsTurn (outer.filterMap (·.frame)) g₀ g' → Fr g' L h' m → News g' L h' news → Below A₀ base outer g' → KF.In g' → Top p loose mean mg mb g' → KtsDicts (outer.filterMap (·.frame)) g' →
      wpAny (model prog w) ((A₀.deeper (envOf name scope L a cd)).mark (some (.ref e))) (execs (b₀ :: suite) (envOf name scope L a cd)) Q E { s' with heap := h' })
    (hE : PassesOwnAt (model prog w) ((A₀.deeper (envOf name scope L a cd)).mark (some (.ref e))) (A₀.deeper (envOf name scope L a cd)) (envOf name scope L a cd) E := by passes_own) :
    wpAny (model prog w) (A₀.deeper (envOf name scope L a cd)) (handleBy (.ref e) (envOf name scope L a cd) (.ExceptHandler none none (b₀ :: suite) pos :: rest)) Q E s' := by
  obtain ⟨B, a0, hB, hBG, hl, hheld⟩ := R
  have hL : B.get? L = none := by
    obtain ⟨_, ⟨L', _, hf, hn', _⟩, _⟩ := hheld.1.2.2.1
    obtain rfl : L = L' := Option.some.inj hf
    exact hn'
  refine handleBy_bare (by intro q; cases q) ?_
  refine lands_again_D hheld fun h₆ hfl₆ hsm₆ => ?_
  obtain ⟨g₆, T₆, F₆, K₆⟩ := kts_ground K F hBG hfl₆.1.1 (hsm.trans hsm₆)
  have Nl : News g₆ L h₆ news := fun q hq => ⟨hfl₆.1.1 _ _ (hl q hq).1, (fun z => by have := (hl q hq).1; rw [z, hL] at this; cases this), T₆.none_ _ (kts_none F.keep (hl q hq).2.1)⟩
  exact wpAny_passesOwnAt hE (k h₆ g₆ (T0.trans T₆) F₆ Nl K₆ (XB.keeps K₆.stays) (TB.keeps K₆.stays) (D.turn T₆))
theorem bare_at (R : RaisedD base G (envOf name scope L a cd :: outer) e cls dd news s'.heap) (F : Fr g L G m) (K : Below A₀ base outer g) (hsm : G.UpToSlots s'.heap) (XB : KF.In base) (TB : Top p loose mean mg mb base)
    (D : KtsDicts (outer.filterMap (·.frame)) g) (T0 : KtsTurn (outer.filterMap (·.frame)) g₀ g)
    (k : ∀ h' g', KtsTurn (outer.filterMap (·.frame)) g₀ g' → Fr g' L h' m → News g' L h' news → Below A₀ base outer g' → KF.In g' → Top p loose mean mg mb g' → KtsDicts (outer.filterMap (·.frame)) g' →
      wpAny (model prog w) ((A₀.deeper (envOf name scope L a cd)).mark (some (.ref e))) (execs (b₀ :: suite) (envOf name scope L a cd)) Q E { s' with heap := h' })
    (hE : PassesOwnAt (model prog w) ((A₀.deeper (envOf name scope L a cd)).mark (some (.ref e))) (A₀.deeper (envOf name scope L a cd)) (envOf name scope L a cd) E := by passes_own) :
    wpAny (model prog w) (A₀.deeper (envOf name scope L a cd)) (noteFrame (.ref e) (envOf name scope L a cd))
      (fun _ s₂ => wpAny (model prog w) (A₀.deeper (envOf name scope L a cd)) (setFlight (.ref e) none) (fun _ s₃ =>
        wpAny (model prog w) (A₀.deeper (envOf name scope L a cd)) (handleBy (.ref e) (envOf name scope L a cd) (.ExceptHandler none none (b₀ :: suite) pos :: rest)) Q E s₃) E s₂) E s' := by
  obtain ⟨B, a0, hB, hBG, hl, hfl⟩ := R
  refine note_on (Around.frames_deeper K.stack) rfl hfl fun h₄ hheld₄ hsm₄ => ?_
  refine lands_D hheld₄ fun h₅ hheld hsm₅' => ?_
  exact bare_D ⟨B, a0, hB, hBG, hl, hheld⟩ F K ((hsm.trans hsm₄).trans hsm₅') XB TB D T0 k hE
theorem caught_D {C : Addr} {x : Str} {np : Pos} (R : RaisedD base G (envOf name scope L a cd :: outer) e (.ref C) dd news s'.heap) (F : Fr g L G m) (K : Below A₀ base outer g) (hsm : G.UpToSlots s'.heap) (XB : KF.In base) (TB : Top p loose mean mg mb base)
    (D : KtsDicts (outer.filterMap (·.frame)) g) (T0 : KtsTurn (outer.filterMap (·.frame)) g₀ g)
    (ex : nsIn KF mainGlobals x = some (some (.ref C))) (q : ktsIn KF C "BaseException" = true)
    (k : ∀ h' g' oe ws tk, oe.cls = .ref C → oe.dict = dd → oe.data = .fields ws → KtsTurn (outer.filterMap (·.frame)) g₀ g' → Fr g' L h' (fun y => if y = n then some (.ref e) else m y) → News g' L h' ((e, oe) :: news) → Below A₀ base outer g' → KF.In g' → Top p loose mean mg mb g' → KtsDicts (outer.filterMap (·.frame)) g' →
      wpAny (model prog w) ((A₀.deeper (envOf name scope L a cd)).mark (some (.ref e))) (execs (b₀ :: suite) (envOf name scope L a cd))
        (fun f s₄ => wpAny (model prog w) (A₀.deeper (envOf name scope L a cd)) (do bindName (envOf name scope L a cd) n .none; unbindBehindTheSuite (envOf name scope L a cd) n pos) (fun _ s₅ => Q f s₅) E s₄)
        (AsSuiteRaised (model prog w) ((A₀.deeper (envOf name scope L a cd)).mark (some (.ref e))) (envOf name scope L a cd) n pos (notedBy (model prog w) ((A₀.deeper (envOf name scope L a cd)).mark (some (.ref e))) (envOf name scope L a cd) (cameBackBy (model prog w) (A₀.deeper (envOf name scope L a cd)) (envOf name scope L a cd) E)))
        { s' with heap := h', toks := tk })
    (hk : scope.kind = .function := by rfl) (hlo : (envOf name scope L a cd).kindOf n = some .local := by rfl) (hx : (envOf name scope L a cd).kindOf x = some .globalImplicit := by rfl) (hd : (x == ("__debug__" : Str)) = false := by decide) :
    wpAny (model prog w) (A₀.deeper (envOf name scope L a cd)) (noteFrame (.ref e) (envOf name scope L a cd))
      (fun _ s₂ => wpAny (model prog w) (A₀.deeper (envOf name scope L a cd)) (setFlight (.ref e) none) (fun _ s₃ =>
        wpAny (model prog w) (A₀.deeper (envOf name scope L a cd)) (handleBy (.ref e) (envOf name scope L a cd) (.ExceptHandler (some (.Name x np)) (some n) (b₀ :: suite) pos :: rest)) Q E s₃) E s₂) E s' := by
  obtain ⟨B, a0, hB, hBG, hl, hfl⟩ := R
  have hL : B.get? L = none := by
    obtain ⟨_, ⟨L', _, hf, hn', _⟩, _⟩ := hfl.1.2.2.1
    obtain rfl : L = L' := Option.some.inj hf
    exact hn'
  refine note_on (Around.frames_deeper K.stack) rfl hfl fun h₄ hheld₄ hsm₄ => ?_
  refine lands_D hheld₄ fun h₅ hheld hsm₅' => ?_
  have hsm₅ := hsm₄.trans hsm₅'
  obtain ⟨g₅, T₅, F₅, K₅⟩ := kts_ground K F hBG hheld.1.1 (hsm.trans hsm₅)
  have X₅ : KF.In g₅ := XB.keeps K₅.stays
  have P₅ : TopRead p loose mg mb g₅ := topRead_of (TB.keeps K₅.stays)
  obtain ⟨ob, hob, hobc⟩ := hheld.1.there
  obtain ⟨nm, q', N, bs, bm, hdct, sn, sub, ab, col, ddd, k0, k1, k2, k3, k5, newId, hC, hbase, hbT⟩ := kts_cls X₅ q
  have hC₅ := F₅.keep _ _ hC
  refine wpAny_handleBy_cons (codeAny_handlers_test (name_K F₅ X₅ P₅ ex ?_ hk hx hd)) (by intro q; cases q)
  refine wpAny_excMatches_sub_self hC₅ hob hobc hbase (codeAny_handlers_suite_as ?_)
  refine lands_again_D hheld fun h₆ hfl₆ hsm₆ => ?_
  obtain ⟨g₆, T₆, F₆, K₆⟩ := kts_ground K F hBG hfl₆.1.1 ((hsm.trans hsm₅).trans hsm₆)
  obtain ⟨oe, ws, hoe, hoec, hoed, _⟩ := hfl₆.1.first
  obtain ⟨oe', hoe', hdd⟩ := hfl₆.2
  rw [hoe] at hoe'
  obtain rfl := Option.some.inj hoe'
  have ne₆ : g₆.get? e = none := T₆.none_ _ (kts_fresh F hBG hfl₆.1.2.1 fun o ho m => by
    obtain ⟨_, o', ho', hd⟩ := K.frames.mem m
    rw [ho] at ho'
    cases ho'
    obtain ⟨sl, hs⟩ := ((hsm.trans hsm₅).trans hsm₆) _ _ (F.keep _ _ ho) hd
    rw [hoe] at hs
    cases hs
    exact hd _ hoed)
  have Nl : News g₆ L h₆ news := fun q hq => ⟨hfl₆.1.1 _ _ (hl q hq).1, (fun z => by have := (hl q hq).1; rw [z, hL] at this; cases this), T₆.none_ _ (kts_none F.keep (hl q hq).2.1)⟩
  have N₆ : News g₆ L h₆ ((e, oe) :: news) := News.more F₆ Nl hoe (fun es n q => by rw [hoed] at q; cases q) ne₆
  refine stN F₆ N₆ (fun h₇ F₇ N₇ => ?_) hk hlo
  exact k h₇ g₆ _ _ _ hoec hdd hoed (T0.trans T₆) F₇ N₇ K₆ (XB.keeps K₆.stays) (TB.keeps K₆.stays) (D.turn T₆)
end
end
section
theorem freshTurnT : True := by (w_top off; trivial)
open PySem PySem.W PySem.Spec PySem.Calls PyProof.Rows
set_option maxRecDepth 100000
set_option linter.all false
section
variable {A₀ : Around} {base g G h G' : Heap} {outer : List Env} {L : Addr} {m : Str → Option Value} {sc : Scope} {news : Led}
theorem turned_L (K : Below A₀ base outer g) (F : Fr g L G m) (T : KtsTurn (L :: outer.filterMap (·.frame)) G G') :
    ∃ g', KtsTurn (outer.filterMap (·.frame)) g g' ∧ Fr g' L G' m ∧ Below A₀ base outer g' :=
  turned (name := Str.ofString "") (scope := (envOf (Str.ofString "") default L 0 .none).scope) (a := 0) (cd := .none) K F T
theorem up_Fr {g' h' : Heap} {L' : Addr} {m' : Str → Option Value} (F : Fr g L g' m) (F' : Fr g' L' h' m') : Fr g L h' m := by
  obtain ⟨oL, a1, a2, hL, a3⟩ := F.ns
  exact ⟨⟨oL, a1, a2, F'.keep _ _ hL, a3⟩, fun b o e => F'.keep b o (F.keep b o e), F.above⟩
theorem up_News {g' h' : Heap} {L' : Addr} (F : Fr g L g' m) (N' : News g' L' h' news) : News g L h' news := fun p hp => by
  have Np := N' p hp
  refine ⟨Np.1, fun q => ?_, kts_none F.keep Np.2.2⟩
  obtain ⟨oL, _, _, hL, _⟩ := F.ns
  have := Np.2.2
  rw [q, hL] at this
  cases this
end
/-- leaving a function that may have caught: the caller's ground has turned -/
def LeaveT (A₀ : Around) (base : Heap) (outer : List Env) (h₀ : Heap) (L : Addr) (m : Str → Option Value) (g : Heap) (R : Result → Shared → Prop) (v : Value) (s' : Shared) : Prop :=
  ∃ g' L' m' news', KtsTurn (L :: outer.filterMap (·.frame)) g g' ∧ Fr g' L' s'.heap m' ∧ News g' L' s'.heap news' ∧ ∀ h₀', KtsTurn (outer.filterMap (·.frame)) h₀ h₀' → Fr h₀' L s'.heap m → News h₀' L s'.heap news' → Below A₀ base outer h₀' → R (.ok (.ret v)) s'
section
variable {prog : Program} {w : World} {A₀ A : Around} {s : Shared} {base h₀ : Heap} {outer : List Env} {L : Addr} {m : Str → Option Value} {env : Env} {news : Led} {K : Frag} {p : Program} {loose : List Str} {mean : ExcName → Option Value} {mg mb : Str → Option Value}
    {R : Result → Shared → Prop} {name qual : Str} {params : Arguments} {body : List Stmt} {scope : Scope} {dV kV doc pm cdv ct oc : Value} {an od : Option Addr} {osl : Array (Option Value)} {f : Addr} {args : Args} {binds : List (Str × Value)}
theorem code_T (B : Below A₀ base outer h₀) (F : Fr h₀ L s.heap m) (X₀ : K.In h₀) (N : News h₀ L s.heap news) (T : Top p loose mean mg mb h₀) (D : KtsDicts (outer.filterMap (·.frame)) h₀)
    (hA : A.frames = some (env :: outer)) (hf : env.frame = some L) (hke : env.scope.kind = .function)
    (ho : K.lookup f = some ⟨oc, od, .func (fnOf name qual params body scope dV kV doc pm an cdv ct), osl⟩) (hcd : codeIn K cdv qual = true) (hroom : A.depth < recursionLimit)
    (hbind : BindsTo s (fnOf name qual params body scope dV kV doc pm an cdv ct) args binds) (hloc : ∀ y ∈ binds, scope.names.lookup y.1 = some .local)
    (h : ∀ g L' h₁, Fr h₀ L g m → Fr g L' h₁ (fun y => binds.reverse.lookup y) → News g L' h₁ news → Below A base (env :: outer) g → K.In g → Top p loose mean mg mb g → KtsDicts ((env :: outer).filterMap (·.frame)) g →
      wpAny (model prog w) (A.deeper (envOf qual scope L' f cdv)) (execs body (envOf qual scope L' f cdv))
        (fun fl s' => LeaveT A₀ base outer h₀ L m g R (match fl with | .ret v => v | _ => .none) s')
        (fun e s' => wpAny (model prog w) (A.deeper (envOf qual scope L' f cdv)) (leaving (envOf qual scope L' f cdv) e) (fun _ s'' => R (.error e) s'') (fun e' s'' => R (.error e') s'') s')
        { s with heap := h₁, toks := s.toks + binds.length })
    (hco : scope.isCoroutine = false) (hgen : scope.isGenerator = false) (hk : scope.kind = .function)
    (hcell : ∀ x ∈ scope.names, x.2 ≠ .cell) : codeAny (model prog w) A (.call (.ref f) args) R s := by
  have X := X₀.keeps F.keep
  refine codeAny_call_def (fd := fnOf name qual params body scope dV kV doc pm an cdv ct) (body := body) (binds := binds) hroom (X _ _ ho) rfl (T.nolimit.keeps F.keep) (codeRec_of X hcd) rfl hbind hcell hloc (fun h₁ hns hk₁ => ?_) hco hgen hk
  obtain ⟨FG, BG, st, _⟩ := groundX (R := R) B F N hA hf hke
  refine wpAny_mono (h _ s.heap.objs.size h₁ FG ⟨hns, fun b o e => hk₁ b o (of_hideAll _ e), Nat.le_of_eq (hideAll_size _ _)⟩
    (fun p hp => ⟨hk₁ _ _ (N p hp).1, Nat.ne_of_lt (Heap.lt_size (N p hp).1), hideAll_none _ (List.mem_map_of_mem hp)⟩) BG (X₀.keeps st) (T.keeps st) (fun b hb => ?_)) (fun fl s' hl => ?_) fun _ _ y => y
  · rw [List.filterMap_cons, hf] at hb
    rcases List.mem_cons.mp hb with rfl | hb
    · obtain ⟨oL, es, ep, hL, hLd, _⟩ := FG.ns
      exact ⟨oL, es, ep, hL, hLd⟩
    · obtain ⟨o, es', n', ho', hd'⟩ := D b hb
      exact ⟨o, es', n', st b o ho', hd'⟩
  · obtain ⟨g', L', m', news', T', F', N', k⟩ := hl
    obtain ⟨h₀', T₁, F₁, B₁⟩ := turned_L B FG T'
    exact k h₀' T₁ (up_Fr F₁ F') (up_News F₁ N') B₁
end
end
section
theorem freshPureW : True := by (w_top off; trivial)
open PySem PySem.W PySem.Spec PySem.Calls PyProof.Rows
set_option maxRecDepth 100000
/-- a pile, its top first: the depth and the worth of each -/
abbrev Pile := List (Nat × Nat)
def X : Pile → Nat
  | [] => 0
  | p :: r => p.2 ^^^ X r
def deep (n : Nat) (p : Nat × Nat) : Bool := decide (n < p.1)
def pushP (n : Nat) (P : Pile) : Pile := (n, X (P.takeWhile (deep n)) + 1) :: P.dropWhile (deep n)
def pile : List Nat → Pile
  | [] => []
  | n :: r => pushP n (pile r)
def worth (ns : List Nat) : Nat := X (pile ns)
theorem xor_swap (a b c : Nat) : a ^^^ (b ^^^ c) = b ^^^ (a ^^^ c) := by
  rw [← Nat.xor_assoc, Nat.xor_comm a b, Nat.xor_assoc]
theorem xor_bit (a b : Nat) : (a ^^^ b) % 2 = (a + b) % 2 := by
  have h := @Nat.xor_mod_two_eq_one a b
  rw [Nat.add_mod]
  rcases Nat.mod_two_eq_zero_or_one a with p | p <;> rcases Nat.mod_two_eq_zero_or_one b with q | q <;> rcases Nat.mod_two_eq_zero_or_one (a ^^^ b) with r | r <;> rw [p, q, r] at h ⊢ <;> simp at h ⊢
theorem half_low {a b x y : Nat} (h : a / 2 + b / 2 = x / 2 + 2 * (y / 2)) (m : a % 2 + b % 2 = x % 2 + 2 * (y % 2)) : a + b = x + 2 * y := by omega
theorem half_add {a b x y : Nat} (h : a / 2 + b / 2 = x / 2 + 2 * (y / 2)) (m1 : x % 2 = (a + b) % 2) (m2 : y % 2 = 1 ↔ (a % 2 = 1 ∧ b % 2 = 1)) : a + b = x + 2 * y := by
  refine half_low h ?_
  rw [m1, Nat.add_mod]
  clear h m1
  rcases Nat.mod_two_eq_zero_or_one a with p | p <;> rcases Nat.mod_two_eq_zero_or_one b with q | q <;> rcases Nat.mod_two_eq_zero_or_one y with r | r <;> rw [p, q, r] at m2 ⊢ <;> simp at m2 ⊢
theorem add_xor (a : Nat) : ∀ b : Nat, a + b = (a ^^^ b) + 2 * (a &&& b) := by
  induction a using Nat.strongRecOn with
  | ind a ih =>
    intro b
    by_cases h0 : a = 0
    · subst h0; simp
    · have h := ih (a / 2) (by omega) (b / 2)
      have e1 : (a ^^^ b) / 2 = a / 2 ^^^ b / 2 := Nat.xor_div_two
      have e2 : (a &&& b) / 2 = a / 2 &&& b / 2 := Nat.and_div_two
      rw [← e1, ← e2] at h
      have m1 : (a ^^^ b) % 2 = (a + b) % 2 := xor_bit a b
      have m2 : (a &&& b) % 2 = 1 ↔ (a % 2 = 1 ∧ b % 2 = 1) := Nat.and_mod_two_eq_one
      exact half_add h m1 m2
theorem bitXor_nat (a b : Nat) : Builtin.bitXor (a : Int) (b : Int) = ((a ^^^ b : Nat) : Int) := by
  rw [bitXor_and]
  have e : Builtin.bitAnd (a : Int) (b : Int) = ((a &&& b : Nat) : Int) := by
    unfold Builtin.bitAnd
    simp
  rw [e]
  have := add_xor a b
  omega
/-- the ledger bears the pile (its list from the top down) -/
inductive PileIn (led : Led) : List Value → Pile → Prop
  | nil : PileIn led [] []
  | cons {a : Addr} {x y : Int} {t u : Tok} {k n g : Nat} {vs : List Value} {P : Pile} : (a, ({ cls := .type "tuple", data := .seq #[.int x t, .int y u] k } : Obj)) ∈ led → x = (n : Int) + 1 → y = (g : Int) → PileIn led vs P → PileIn led (.ref a :: vs) ((n, g) :: P)
theorem PileIn.mono {led led' : Led} {vs : List Value} {P : Pile} (h : PileIn led vs P) (hs : ∀ p ∈ led, p ∈ led') : PileIn led' vs P := by
  induction h with
  | nil => exact .nil
  | cons hm hx hy _ ih => exact .cons (hs _ hm) hx hy ih
theorem PileIn.len {led : Led} {vs : List Value} {P : Pile} (h : PileIn led vs P) : vs.length = P.length := by
  induction h with
  | nil => rfl
  | cons _ _ _ _ ih => simp [ih]
theorem PileIn.get {led : Led} {vs : List Value} {P : Pile} (h : PileIn led vs P) : ∀ {i : Nat} {v : Value}, vs[i]? = some v → ∃ a x y t u k n g, v = .ref a ∧ (a, ({ cls := .type "tuple", data := .seq #[.int x t, .int y u] k } : Obj)) ∈ led ∧ P[i]? = some (n, g) ∧ x = (n : Int) + 1 ∧ y = (g : Int) := by
  induction h with
  | nil => intro i v h; simp at h
  | cons hm hx hy _ ih =>
    intro i v h
    cases i with
    | zero => exact ⟨_, _, _, _, _, _, _, _, by simpa using h.symm, hm, rfl, hx, hy⟩
    | succ i => simpa using ih (i := i) (by simpa using h)
theorem X_append (P R : Pile) : X (P ++ R) = X P ^^^ X R := by
  induction P with
  | nil => simp [X]
  | cons p r ih => simp only [List.cons_append, X, ih, Nat.xor_assoc]
theorem X_reverse (P : Pile) : X P.reverse = X P := by
  induction P with
  | nil => rfl
  | cons p r ih => rw [List.reverse_cons, X_append, ih, Nat.xor_comm]; simp [X]
theorem X_snoc_take {P : Pile} {i : Nat} {p : Nat × Nat} (h : P[i]? = some p) : X (P.take (i + 1)) = X (P.take i) ^^^ p.2 := by
  rw [List.take_add_one, h, X_append]; simp [X]
theorem pile_len : ∀ ns : List Nat, (pile ns).length ≤ ns.length
  | [] => Nat.le_refl _
  | n :: r => by
    have h := pile_len r
    have h2 : ((pile r).dropWhile (deep n)).length ≤ (pile r).length := (List.dropWhile_sublist _).length_le
    simp only [pile, pushP, List.length_cons]
    omega
end
section
theorem freshPileL : True := by (w_top off; trivial)
open PySem PySem.W PySem.Spec PySem.Calls PyProof.Rows
set_option maxRecDepth 100000
section
variable {prog : Program} {w : World} {A : Around} {E : Value → Shared → Prop} {s : Shared} {env : Env} {h₀ : Heap} {x : Str} {body : List Stmt} {Q : Flow → Shared → Prop}
/-- a goal kept for later -/
def Hold (P : Prop) : Prop := P
abbrev PileS := Led × List Value × Pile × Nat
abbrev pileLd (D l : Addr) (rows : List Value) (nn : Nat) (news : Led) (c : PileS) : Led := (D, listOf rows.toArray nn) :: (l, listOf c.2.1.reverse.toArray c.2.2.2) :: (c.1 ++ news)
/-- the pile's loop over the rows -/
theorem pile_for {D l : Addr} {rows : List Value} {nn : Nat} {xs : List Nat} {news : Led} {m₀ : Str → Option Value} (stored : List Str) (hnl : ∀ p ∈ news, p.1 ≠ l) (hs : StrsAre rows (xs.map rowS))
    (hh : A.handled = none) (F : Fr h₀ env.locals s.heap m₀) (N : News h₀ env.locals s.heap ((D, listOf rows.toArray nn) :: (l, listOf #[] 0) :: news))
    (turn : ∀ (i n : Nat) t c (u : Str → Option Value) h tk I oI, xs[i]? = some n → (∀ p ∈ pileLd D l rows nn news c, p.1 ≠ I) → PileIn (c.1 ++ news) c.2.1 c.2.2.1 → c.2.2.1 = pile (xs.take i).reverse → c.2.1.length ≤ xs.length → (∀ p ∈ c.1 ++ news, p.1 ≠ l) →
      Fr h₀ env.locals h (fun y => if y = x then some (.str (rowS n) t) else if stored.contains y then u y else m₀ y) → News h₀ env.locals h ((I, oI) :: pileLd D l rows nn news c) →
      wpAny (model prog w) A (execs body env) (LStep h₀ env.locals (pileLd D l rows nn news) (fun _ => []) x stored m₀ (fun c => PileIn (c.1 ++ news) c.2.1 c.2.2.1 ∧ c.2.2.1 = pile (xs.take (i + 1)).reverse ∧ ∀ p ∈ c.1, p.1 ≠ l) I oI { s with heap := h, toks := tk } Q) E { s with heap := h, toks := tk })
    (done : ∀ (c : PileS) (u : Str → Option Value) h tk, PileIn (c.1 ++ news) c.2.1 c.2.2.1 → c.2.2.1 = pile xs.reverse → c.2.1.length ≤ xs.length → Fr h₀ env.locals h (fun y => if y = x then u y else if stored.contains y then u y else m₀ y) → News h₀ env.locals h ((l, listOf c.2.1.reverse.toArray c.2.2.2) :: (c.1 ++ news)) → Q .next { s with heap := h, toks := tk }) :
    wpAny (model prog w) A (pyIter (.ref D)) (fun it s₂ => LoopAtV prog w A h₀ env x body Q E it s₂) E s := by
  have bound : ∀ {i : Nat} {c : PileS}, PileIn (c.1 ++ news) c.2.1 c.2.2.1 → c.2.2.1 = pile (xs.take i).reverse → c.2.1.length ≤ xs.length := by
    intro i c h1 h2
    rw [h1.len, h2]
    refine Nat.le_trans (pile_len _) ?_
    rw [List.length_reverse, List.length_take]; omega
  refine for_list (pileLd D l rows nn news) (fun _ => []) stored (fun i c => PileIn (c.1 ++ news) c.2.1 c.2.2.1 ∧ c.2.2.1 = pile (xs.take i).reverse ∧ ∀ p ∈ c.1, p.1 ≠ l) ([], [], [], 0) hh (fun c => List.mem_cons_self ..) F N (fun _ h => nomatch h) ⟨.nil, rfl, fun _ h => nomatch h⟩ ?_ ?_
  · rintro i v c u h tk I oI hv off ⟨h1, h2, h3⟩ F₁ N₁
    obtain ⟨y, t, hy, rfl⟩ := strs_get hs hv
    rw [List.getElem?_map] at hy
    obtain ⟨n, hn, rfl⟩ := Option.map_eq_some_iff.mp hy
    exact turn i n t c u h tk I oI hn off h1 h2 (bound h1 h2) (fun p hp => (List.mem_append.mp hp).elim (h3 p) (hnl p)) F₁ N₁
  · rintro c u h tk ⟨h1, h2, _⟩ F₁ N₁
    have e : rows.length = xs.length := by rw [strs_len hs, List.length_map]
    rw [e, List.take_length] at h2
    exact done c u h tk h1 h2 (bound (i := xs.length) h1 (by rw [List.take_length]; exact h2)) F₁ fun p hp => N₁ p (List.mem_cons_of_mem _ hp)
abbrev WhS := List Value × Pile × Nat × Nat × Tok
abbrev whLd (I D l : Addr) (oI oD : Obj) (rest : Led) (c : WhS) : Led := (I, oI) :: (D, oD) :: (l, listOf c.1.reverse.toArray c.2.2.1) :: rest
abbrev whNm (c : WhS) : List (Str × Value) := [(Str.ofString "worth", .int (c.2.2.2.1 : Int) c.2.2.2.2)]
def whP (rest : Led) (n b : Nat) (P : Pile) (c : WhS) : Prop := PileIn rest c.1 c.2.1 ∧ c.2.2.2.1 ^^^ X (c.2.1.takeWhile (deep n)) = X (P.takeWhile (deep n)) ∧ c.2.1.dropWhile (deep n) = P.dropWhile (deep n) ∧ c.1.length ≤ b
def whStop (n : Nat) (c : WhS) : Prop := c.2.1.takeWhile (deep n) = []
/-- the while that pops what lies deeper -/
theorem pile_while {L : Addr} {test : Expr} {pos : Pos} {I D l : Addr} {oI oD : Obj} {rest : Led} {rv : List Value} {P : Pile} {k n b : Nat} {t₀ : Tok} {m₀ : Str → Option Value}
    (hw : m₀ (Str.ofString "worth") = some (.int ((0 : Nat) : Int) t₀)) {tr : Tok} (_hr : m₀ (Str.ofString "row") = some (.str (rowS n) tr)) (hP : PileIn rest rv P) (hb : rv.length ≤ b) (F : Fr h₀ L s.heap m₀) (N : News h₀ L s.heap ((I, oI) :: (D, oD) :: (l, listOf rv.reverse.toArray k) :: rest))
    (turn : Hold (∀ (c : WhS) h tk, whP rest n b P c → Fr h₀ L h (fun z => if z = Str.ofString "worth" then some (.int (c.2.2.2.1 : Int) c.2.2.2.2) else m₀ z) → News h₀ L h (whLd I D l oI oD rest c) →
      wpAny (model prog w) A (isTrue test env (eval test env)) (fun b' s₂ =>
        if b' = true then wpAny (model prog w) A (execs body env) (WStep h₀ L s (whLd I D l oI oD rest) whNm [] m₀ (whP rest n b P) (fun c => c.1.length) c) E s₂ else WEx h₀ L s (whLd I D l oI oD rest) whNm [] m₀ (fun c' => whP rest n b P c' ∧ whStop n c') s₂) E { s with heap := h, toks := tk }))
    (done : Hold (∀ (rv' : List Value) (k' : Nat) (t : Tok) h tk, PileIn rest rv' (P.dropWhile (deep n)) → rv'.length ≤ b → Fr h₀ L h (fun z => if z = Str.ofString "worth" then some (.int ((X (P.takeWhile (deep n)) : Nat) : Int) t) else m₀ z) → News h₀ L h ((I, oI) :: (D, oD) :: (l, listOf rv'.reverse.toArray k') :: rest) → Q .next { s with heap := h, toks := tk }))
    (hE : PassesOwn (model prog w) A env E := by passes_own) :
    wpAny (model prog w) A (exec (.While test body [] pos) env) Q E s := by
  refine while_ex (whLd I D l oI oD rest) whNm [] (whP rest n b P) (whStop n) (fun c => c.1.length) (rv, P, k, 0, t₀) F N (fun p hp => ?_) ⟨hP, by simp, rfl, hb⟩ ?_ ?_ hE
  · rw [List.mem_singleton.mp hp]; exact hw
  · intro c u h tk hp F₁ N₁
    refine turn c h tk hp ?_ N₁
    simpa [kstB] using F₁
  · rintro ⟨rv', P', k', w', t'⟩ u h tk ⟨h1, h2, h3, h4⟩ hs F₁ N₁
    unfold whStop at hs
    dsimp only at hs h1 h2 h3 h4
    rw [hs] at h2
    have e : P'.dropWhile (deep n) = P' := by
      have := List.takeWhile_append_dropWhile (p := deep n) (l := P')
      rw [hs] at this; simpa using this
    rw [e] at h3
    subst h3
    simp only [X, Nat.xor_zero] at h2
    subst h2
    refine done rv' k' t' h tk h1 h4 ?_ N₁
    simpa [kstB] using F₁
theorem push_rev (r : List Value) (v : Value) : r.reverse.toArray.push v = (v :: r).reverse.toArray := by simp
theorem pile_end {L T D l I : Addr} {oI : Obj} {rows rv : List Value} {nn k kk n i : Nat} {tups news : Led} {P : Pile} {xs : List Nat} {y z : Int} {t u : Tok} {stored : List Str} {m₀ m' : Str → Option Value} {s₁ : Shared} {h' : Heap} {tk : Nat}
    (F : Fr h₀ L h' m') (N : News h₀ L h' ((T, ({ cls := .type "tuple", data := .seq #[.int y t, .int z u] kk } : Obj)) :: (I, oI) :: (D, listOf rows.toArray nn) :: (l, listOf (rv.reverse.toArray.push (.ref T)) k) :: (tups ++ news)))
    (hy : y = (n : Int) + 1) (hz : z = ((X (P.takeWhile (deep n)) : Nat) : Int) + 1) (hp : PileIn (tups ++ news) rv (P.dropWhile (deep n))) (hP : P = pile (xs.take i).reverse) (hi : xs[i]? = some n)
    (off : ∀ p ∈ tups ++ news, p.1 ≠ I) (hD : @Ne Nat D I) (hl : @Ne Nat l I) (hol : ∀ p ∈ tups ++ news, p.1 ≠ l) (hT : @Ne Nat T I) (hTl : @Ne Nat T l) (hr : ∀ z, z ≠ x → stored.contains z = false → m' z = m₀ z) :
    LStep h₀ L (pileLd D l rows nn news) (fun _ => []) x stored m₀ (fun c => PileIn (c.1 ++ news) c.2.1 c.2.2.1 ∧ c.2.2.1 = pile (xs.take (i + 1)).reverse ∧ ∀ p ∈ c.1, p.1 ≠ l) I oI s₁ Q .next { s₁ with heap := h', toks := tk } := by
  rw [push_rev] at N
  refine LStep.intro ((T, { cls := .type "tuple", data := .seq #[.int y t, .int z u] kk }) :: tups, .ref T :: rv, (n, X (P.takeWhile (deep n)) + 1) :: P.dropWhile (deep n), k) F N ?_ ?_ (fun _ h => nomatch h) (fun z h1 _ h3 => hr z h1 h3) ⟨?_, ?_, ?_⟩
  · intro p hp
    simp only [pileLd, List.mem_cons, List.mem_append, List.cons_append] at hp ⊢
    rcases hp with h | h | h | h | h | h <;> simp [h]
  · intro p hp
    simp only [pileLd, List.mem_cons, List.cons_append] at hp
    rcases hp with rfl | rfl | rfl | h
    · exact hD
    · exact hl
    · exact hT
    · exact off p h
  · refine .cons (List.mem_cons_self ..) hy (by rw [hz]; simp) (hp.mono fun p hp => List.mem_cons_of_mem _ hp)
  · rw [List.take_add_one, hi]
    simp only [Option.toList_some, List.reverse_append, List.reverse_cons, List.reverse_nil, List.nil_append, List.cons_append]
    rw [pile, ← hP]; rfl
  · intro p hp
    rcases List.mem_cons.mp hp with rfl | hp
    · exact hTl
    · exact hol p (List.mem_append_left _ hp)
abbrev psNm (c : Nat × Tok) : List (Str × Value) := [(Str.ofString "worth", .int (c.1 : Int) c.2)]
theorem pile_sum {l : Addr} {rv : List Value} {P : Pile} {k : Nat} {rest : Led} {m₀ : Str → Option Value} {t₀ : Tok} {target : Expr}
    (hh : A.handled = none) (hP : PileIn rest rv P) (hw : m₀ (Str.ofString "worth") = some (.int ((0 : Nat) : Int) t₀)) (F : Fr h₀ env.locals s.heap m₀) (N : News h₀ env.locals s.heap ((l, listOf rv.reverse.toArray k) :: rest))
    (turn : Hold (∀ (i a : Nat) (x y : Int) (t u : Tok) (k' : Nat) (g w' : Nat) (tw : Tok) (uu : Str → Option Value) h tk I oI, (a, ({ cls := .type "tuple", data := .seq #[.int x t, .int y u] k' } : Obj)) ∈ rest → y = (g : Int) → (∀ p ∈ (l, listOf rv.reverse.toArray k) :: rest, p.1 < I) →
      Fr h₀ env.locals h (fun z => if z = Str.ofString "worth" then some (.int (w' : Int) tw) else if [Str.ofString "size", Str.ofString "one"].contains z then uu z else m₀ z) → News h₀ env.locals h ((I, oI) :: (l, listOf rv.reverse.toArray k) :: rest) →
      wpAny (model prog w) A (assign target env (.ref a)) (fun _ s₂ => wpAny (model prog w) A (execs body env) (TStep h₀ env.locals ((l, listOf rv.reverse.toArray k) :: rest) psNm [Str.ofString "size", Str.ofString "one"] m₀ (fun c => c.1 = w' ^^^ g) I oI { s with heap := h, toks := tk } Q) E s₂) E { s with heap := h, toks := tk }))
    (done : Hold (∀ (tw : Tok) (uu : Str → Option Value) h tk, Fr h₀ env.locals h (fun z => if z = Str.ofString "worth" then some (.int ((X P : Nat) : Int) tw) else if [Str.ofString "size", Str.ofString "one"].contains z then uu z else m₀ z) → News h₀ env.locals h ((l, listOf rv.reverse.toArray k) :: rest) → Q .next { s with heap := h, toks := tk })) :
    wpAny (model prog w) A (pyIter (.ref l)) (fun it s₂ => TurnsAt prog w A h₀ env target body Q E it s₂) E s := by
  refine turns_list psNm [Str.ofString "size", Str.ofString "one"] (fun i c => c.1 = X (P.reverse.take i)) (0, t₀) hh (List.mem_cons_self ..) F N (fun p hp => by rw [List.mem_singleton.mp hp]; exact hw) rfl ?_ ?_
  · intro i v c u h tk I oI hv hI hc F₁ N₁
    have hi : i < rv.length := by have := (List.getElem?_eq_some_iff.mp hv).1; simpa using this
    have hv' : rv[rv.length - 1 - i]? = some v := by rw [← List.getElem?_reverse hi]; exact hv
    obtain ⟨a, x, y, t, u', k', n, g, rfl, hm, hg, hx, hy⟩ := hP.get hv'
    have hg' : P.reverse[i]? = some (n, g) := by rw [List.getElem?_reverse (by rw [← hP.len]; exact hi), ← hP.len]; exact hg
    have F₂ : Fr h₀ env.locals h (fun z => if z = Str.ofString "worth" then some (.int (c.1 : Int) c.2) else if [Str.ofString "size", Str.ofString "one"].contains z then u z else m₀ z) := F₁
    refine wpAny_mono (turn i a x y t u' k' g c.1 c.2 u h tk I oI hm hy hI F₂ N₁) (fun _ s₂ h₂ => wpAny_mono h₂ (fun f s₃ q => ?_) fun _ _ e => e) fun _ _ e => e
    cases f with
    | ret v => exact q
    | brk => exact q
    | next =>
      obtain ⟨c', h', tk', m', e, F', N', h1, h2, h3⟩ := q
      exact ⟨c', h', tk', m', e, F', N', h1, h2, by show c'.1 = _; rw [h3, hc, X_snoc_take hg']⟩
    | cont =>
      obtain ⟨c', h', tk', m', e, F', N', h1, h2, h3⟩ := q
      exact ⟨c', h', tk', m', e, F', N', h1, h2, by show c'.1 = _; rw [h3, hc, X_snoc_take hg']⟩
  · intro c u h tk hc F₁ N₁
    have e : rv.reverse.length = P.reverse.length := by rw [List.length_reverse, List.length_reverse, hP.len]
    have hc' : c.1 = X (P.reverse.take rv.reverse.length) := hc
    rw [e, List.take_length, X_reverse] at hc'
    obtain ⟨c1, c2⟩ := c
    dsimp only at hc'
    subst hc'
    exact done c2 u h tk F₁ N₁
end
end
section
theorem freshBaseT : True := by (w_top off; trivial)
open PySem PySem.W PySem.Spec PySem.Calls PyProof.Rows
set_option maxRecDepth 100000
/-- as Does, of a function that may catch (its ground turns) and that may raise a nag -/
def DoesT (w : World) (f : Addr) (args : List Value) (d u : Nat) (news : Led) (Post : Value → Led → Prop) (XPost : Addr → Obj → Led → Prop) : Prop :=
  ∀ (dp un : Nat) (gd : Option (List Code)) (cn : Str) (cs : Scope) (a : Addr) (ccd : Value) (cl : List (Str × Addr)) (outer : List Env) (A₀ : Around) (base h₀ : Heap) (L : Addr) (m : Str → Option Value) (s : Shared)
    (mean : ExcName → Option Value) (mg mb : Str → Option Value) (Q E : Value → Shared → Prop),
    Below A₀ base outer h₀ → Fr h₀ L s.heap m → (hd.heap_39 w.params).In h₀ → News h₀ L s.heap news → Top hd.view_39 lse mean mg mb h₀ → Hold ((hd.heap_39 w.params).In base ∧ Top hd.view_39 lse mean mg mb base) → KtsDicts (outer.filterMap (·.frame)) h₀ → cs.kind = .function →
    dp + d < recursionLimit → un + u < cLine →
    (∀ h₀' r news' h' tk', KtsTurn (outer.filterMap (·.frame)) h₀ h₀' → Fr h₀' L h' m → News h₀' L h' news' → Below A₀ base outer h₀' → Post r news' → Q r { s with heap := h', toks := tk' }) →
    (∀ h₀' G e D oD news' h' tk', KtsTurn (outer.filterMap (·.frame)) h₀ h₀' → Fr h₀' L G m → Below A₀ base outer h₀' → RaisedD base G (envX cn cs L a ccd cl :: outer) e (.ref 97) (some D) ((D, oD) :: news') h' → G.UpToSlots h' → XPost D oD news' → E (.ref e) { s with heap := h', toks := tk' }) →
    wpAny (model (RowW.prog (OpenRow.toRowW (OpenLaw.row Challenge.rw_wa0022_01))) w) (ktrTop dp un gd cn cs L a ccd cl outer) (call (.ref f) args) Q E s
theorem doesT_use {w : World} {f : Addr} {args : List Value} {d u : Nat} {news : Led} {Post : Value → Led → Prop} {XPost : Addr → Obj → Led → Prop} (P : DoesT w f args d u news Post XPost)
    {dp un : Nat} {gd : Option (List Code)} {cn : Str} {cs : Scope} {a : Addr} {ccd : Value} {cl : List (Str × Addr)} {outer : List Env} {A₀ : Around} {base h₀ : Heap} {L : Addr} {m : Str → Option Value} {s : Shared}
    {mean : ExcName → Option Value} {mg mb : Str → Option Value} {Q E : Value → Shared → Prop}
    (B : Below A₀ base outer h₀) (F : Fr h₀ L s.heap m) (X : (hd.heap_39 w.params).In h₀) (N : News h₀ L s.heap news) (T : Top hd.view_39 lse mean mg mb h₀) (XB : Hold ((hd.heap_39 w.params).In base ∧ Top hd.view_39 lse mean mg mb base)) (D : KtsDicts (outer.filterMap (·.frame)) h₀) (hk : cs.kind = .function)
    (hdp : dp + d < recursionLimit) (hu : un + u < cLine)
    (ret : ∀ h₀' r news' h' tk', KtsTurn (outer.filterMap (·.frame)) h₀ h₀' → Fr h₀' L h' m → News h₀' L h' news' → Below A₀ base outer h₀' → Post r news' → Q r { s with heap := h', toks := tk' })
    (exc : ∀ h₀' G e D oD news' h' tk', KtsTurn (outer.filterMap (·.frame)) h₀ h₀' → Fr h₀' L G m → Below A₀ base outer h₀' → RaisedD base G (envX cn cs L a ccd cl :: outer) e (.ref 97) (some D) ((D, oD) :: news') h' → G.UpToSlots h' → XPost D oD news' → E (.ref e) { s with heap := h', toks := tk' }) :
    wpAny (model (RowW.prog (OpenRow.toRowW (OpenLaw.row Challenge.rw_wa0022_01))) w) (ktrTop dp un gd cn cs L a ccd cl outer) (call (.ref f) args) Q E s := P dp un gd cn cs a ccd cl outer A₀ base h₀ L m s mean mg mb Q E B F X N T XB D hk hdp hu ret exc
end
section
theorem freshLess : True := by (w_top off; trivial)
open PySem PySem.W PySem.Spec PySem.Calls PyProof.Rows
set_option maxRecDepth 100000
set_option maxHeartbeats 4000000
/-- the dict of a Whitespace made of a row without tabs -/
abbrev leadD (P : Params) (raw : Str) (n : Int) (N : Addr) (t0 t1 t2 t3 t4 t5 t6 t7 : Tok) : Obj :=
  dictOf [⟨PyData.keyHash P "raw", .str "raw" t0, .str raw t1⟩, ⟨PyData.keyHash P "n", .str "n" t2, .int n t3⟩, ⟨PyData.keyHash P "nt", .str "nt" t4, .int 0 t5⟩,
    ⟨PyData.keyHash P "norm", .str "norm" t6, .ref N⟩, ⟨PyData.keyHash P "is_simple", .str "is_simple" t7, .bool true⟩] 5
/-- the ledger bears at v a Whitespace of n leading spaces -/
def LeadIn (P : Params) (led : Led) (v : Value) (n : Nat) : Prop :=
  ∃ x dx raw N t0 t1 t2 t3 t4 t5 t6 t7, v = .ref x ∧ (x, instObj 162 dx) ∈ led ∧ (dx, leadD P raw (n : Int) N t0 t1 t2 t3 t4 t5 t6 t7) ∈ led
theorem LeadIn.mono {P : Params} {led led' : Led} {v : Value} {n : Nat} (h : LeadIn P led v n) (hs : ∀ p ∈ led, p ∈ led') : LeadIn P led' v n := by
  obtain ⟨x, dx, raw, N, t0, t1, t2, t3, t4, t5, t6, t7, e, h1, h2⟩ := h
  exact ⟨x, dx, raw, N, t0, t1, t2, t3, t4, t5, t6, t7, e, hs _ h1, hs _ h2⟩
theorem less_does {w : World} {x y : Value} {nx ny : Nat} {news : Led} (hx : LeadIn w.params news x nx) (hy : LeadIn w.params news y ny) :
   Does w 152 [x, y] 1 8 news fun r news' => r = .bool (decide (nx < ny)) ∧ news' = news := by
  obtain ⟨x, dx, rx, Nx, t0, t1, t2, t3, t4, t5, t6, t7, rfl, h1, h2⟩ := hx
  obtain ⟨y, dy, ry, Ny, u0, u1, u2, u3, u4, u5, u6, u7, rfl, h3, h4⟩ := hy
  unfold Does
  k_fill
  intro dp un gd cn cs a ccd cl outer A₀ base h₀ L m s mean mg mb Q E B F X N T hk hd hu hret
  refine wpAny_call ?_
  k_dflt ktr_enter
  k_steps
  all_goals (refine hret _ _ _ _ (by assumption) (by assumption) ⟨congrArg Value.bool ?_, rfl⟩)
  · symm; rw [decide_eq_false_iff_not]; omega
  · rw [decide_eq_true (by omega : nx < ny)]; rfl
end
section
theorem freshNag : True := by (w_top off; trivial)
open PySem PySem.W PySem.Spec PySem.Calls PyProof.Rows
set_option maxRecDepth 100000
theorem ns_some_of {K : Frag} {h : Heap} {N : Addr} {mg : Str → Option Value} {n : Str} {v : Value} (X : K.In h) (G : h.Ns N mg) (e : nsIn K N n = some (some v)) : mg n = some v := by
  obtain ⟨o, es, ep, ho, hd, _, hf⟩ := G
  unfold nsIn at e
  split at e
  · rename_i c d es' n' sl q
    have := X _ _ q
    rw [ho] at this
    cases this
    cases hd
    split at e
    · rename_i en he
      cases e
      rw [← hf]
      unfold nsFind findBy
      rw [← Array.find?_toList, he]
      rfl
    · split at e <;> cases e
  · cases e
section
variable {prog : Program} {w : World} {A : Around} {E : Value → Shared → Prop} {h : Heap} {g : Array GenState} {d : Drawn} {t : Nat} {os : OsState}
variable {nm q : Str} {C N : Addr} {bs bm : List Value} {hdct : Bool} {sn : List Str} {sub : List Value} {ab : Bool} {col : Option Bool} {dd : Option Addr} {k0 k1 k2 k3 k5 : Option Value} {B newId initId : String}
theorem type_call_own (F : ExcBaseFacts B newId initId bm) {mN : Str → Option Value} {rest : List Value} {Q : Fin → Shared → Prop} {fi : Addr} {fo : Obj}
    (hC : h.get? C = some (excClassObj nm q C N bs bm hdct sn sub ab col dd k0 k1 k2 k3 k5 newId)) (hn : h.Ns N mN) (hni : mN "__init__" = some (.ref fi)) (hf : h.get? fi = some fo) (hfc : fo.cls = .type "function")
    (hq : ∀ h' e, Heap.MadeExcOf h h' e (.ref C) rest → wpAny (model prog w) A (call (.ref fi) (.ref e :: rest)) (fun r s' => r = .none ∧ Q (.done (.ret (.ref e))) s') E ⟨h', g, d, t, os⟩) (hrest : rest.length ≤ sizeLine := by size_fits) :
    wpAny (model prog w) A (Builtin.«type.__call__» ⟨.ref C :: rest, []⟩) Q E ⟨h, g, d, t, os⟩ := by
  repeat (first | with_reducible refine wpAny_loadPart_at hC ?_ | with_reducible refine wpAny_madeBy_exc hC ?_ | wp_step)
  refine codeAny_call_builtin_code (Code.quiet_builtin _ F.quiet) (wpAny_check_new_sub F hC ?_)
  refine codeAny_exc_new_sub F hC ?_ hrest
  show wpAny _ _ _ _ _ _
  have hC₁ := Heap.get?_push_of_some { cls := .ref C, data := .fields #[.ref h.objs.size, .none, .none, .none, .bool false, .none] }
    (Heap.get?_push_of_some { cls := .type "tuple", data := .seq rest.toArray } hC)
  have hf₁ := Heap.get?_push_of_some { cls := .ref C, data := .fields #[.ref h.objs.size, .none, .none, .none, .bool false, .none] }
    (Heap.get?_push_of_some { cls := .type "tuple", data := .seq rest.toArray } hf)
  have hn₁ : ((h.push { cls := .type "tuple", data := .seq rest.toArray }).push { cls := .ref C, data := .fields #[.ref h.objs.size, .none, .none, .none, .bool false, .none] }).Ns N mN :=
    let ⟨o, es, ep, e, r⟩ := hn; ⟨o, es, ep, Heap.get?_push_of_some _ (Heap.get?_push_of_some _ e), r⟩
  have hget : ((h.push { cls := .type "tuple", data := .seq rest.toArray }).push
      { cls := .ref C, data := .fields #[.ref h.objs.size, .none, .none, .none, .bool false, .none] }).get? (h.objs.size + 1) = some
      { cls := .ref C, data := .fields #[.ref h.objs.size, .none, .none, .none, .bool false, .none] } := by heap_get
  have hm : Heap.MadeExcOf h ((h.push { cls := .type "tuple", data := .seq rest.toArray }).push { cls := .ref C, data := .fields #[.ref h.objs.size, .none, .none, .none, .bool false, .none] }) (h.objs.size + 1) (.ref C) rest :=
    ⟨fun b o hb => Heap.get?_push_of_some _ (Heap.get?_push_of_some _ hb), Heap.get?_none_of_le (Nat.le_succ _), h.objs.size, hget, Heap.get?_none_of_le (Nat.le_refl _), Heap.get?_push_of_some _ (Heap.get?_push_size _ rfl)⟩
  have hcC : (Value.ref C :: bm).contains (.ref C) = true := by simp
  unfold isInstance
  repeat (first | with_reducible refine wpAny_loadPart_at hget ?_ | (with_reducible refine wpAny_isSubtype_exc hC₁ ?_; rw [hcC]) | wp_step)
  show wpAny _ _ (typeLookup (.ref C) _) _ _ _
  refine wpAny_typeLookup_exc hC₁ hn₁ F.mroIs F.init.lookup ?_
  rw [hni]
  refine wpAny_holding ?_
  refine wpAny_bind (wpAny_bindSpecial_def (of := fo) hf₁ hfc ?_)
  refine wpAny_bind (wpAny_mono (hq _ _ hm) (fun r s' hr => ?_) fun _ _ x => x)
  obtain ⟨rfl, hr⟩ := hr
  refine wpAny_pure ?_
  show wpAny _ _ (ret _) _ _ _
  wp_walk
  exact hr
theorem call_own (F : ExcBaseFacts B newId initId bm) {mN : Str → Option Value} {rest : List Value} {Q : Value → Shared → Prop} {fi : Addr} {fo : Obj}
    (hC : h.get? C = some (excClassObj nm q C N bs bm hdct sn sub ab col dd k0 k1 k2 k3 k5 newId)) (hn : h.Ns N mN) (hni : mN "__init__" = some (.ref fi)) (hf : h.get? fi = some fo) (hfc : fo.cls = .type "function")
    (hq : ∀ h' e, Heap.MadeExcOf h h' e (.ref C) rest → wpAny (model prog w) (A.under (.builtin "type.__call__" ⟨.ref C :: rest, []⟩)) (call (.ref fi) (.ref e :: rest)) (fun r s' => r = .none ∧ Q (.ref e) s') E ⟨h', g, d, t, os⟩) (hrest : rest.length ≤ sizeLine := by size_fits) :
    wpAny (model prog w) A (call (.ref C) rest) Q E ⟨h, g, d, t, os⟩ := by
  have f1 := tc_lookup
  have f2 := tc_bind (.ref C)
  have hT : (⟨h, g, d, t, os⟩ : Shared).TypeIs (.ref C) "type" := ⟨_, hC, rfl⟩
  refine wpAny_call (codeAny_of_tree ?_)
  show wpAny _ _ (callAny (.ref C) _) _ _ _
  repeat (any_goals (first | assumption | with_reducible refine wpAny_loadPart_at hC ?_ | wp_step))
  refine ⟨rfl, ?_⟩
  exact codeAny_call_builtin_at (Code.quiet_builtin _ (by decide +kernel)) entry_typeCall (wpAny_check_type_call_sub hC (type_call_own (hrest := hrest) F hC hn hni hf hfc fun h' e hm => hq h' e hm))
end
section
variable {M : Model} {A : Around} {E : Value → Shared → Prop} {env : Env}
variable {nm q : Str} {C N : Addr} {bs bm : List Value} {hdct : Bool} {sn : List Str} {sub : List Value} {ab : Bool} {col : Option Bool} {dd : Option Addr} {k0 k1 k2 k3 k5 : Option Value} {newId : String}
theorem raiseStmt_D {s : Shared} {x : Sem Value} {Q : Flow → Shared → Prop} (hbase : bm.contains (.type "BaseException") = true) (hh : A.handled = none)
    (h : wpAny M A x (fun v s₁ => ∃ e oe ws, v = .ref e ∧ s₁.heap.get? C = some (excClassObj nm q C N bs bm hdct sn sub ab col dd k0 k1 k2 k3 k5 newId) ∧
      s₁.heap.get? e = some oe ∧ oe.cls = .ref C ∧ oe.data = .fields ws ∧ ws[1]? = some .none ∧ E (.ref e) s₁) E s) :
    wpAny M A (raiseStmt env (some x) none) Q E s := by
  have hcB : (Value.ref C :: bm).contains (.type "BaseException") = true := by rw [List.contains_cons, hbase, Bool.or_true]
  unfold raiseStmt
  refine wpAny_bind (wpAny_mono h (fun v s₁ h₁ => ?_) fun _ _ x => x)
  obtain ⟨e, oe, ws, rfl, hC, he, hc, hd, hw, hE⟩ := h₁
  obtain ⟨hp, g, d, tk, os⟩ := s₁
  obtain ⟨oc, od, odt, osl⟩ := oe
  dsimp only at hc hd
  subst hc hd
  repeat (first | with_reducible refine wpAny_loadPart_at he ?_ | with_reducible refine wpAny_loadPart_at hC ?_ | (with_reducible refine wpAny_isSubtype_exc hC ?_; rw [hcB]) | with_reducible refine wpAny_field he rfl hw ?_ | wp_step)
  exact wpAny_raiseNew_none hh hE
end
end
section
theorem freshStore : True := by (w_top off; trivial)
open PySem PySem.W PySem.Spec PySem.Calls PyProof.Rows PySem.Builtin PySem.Builtin.ObjectAttr
set_option maxRecDepth 100000
set_option linter.all false
section
variable {prog : Program} {w : World} {A : Around} {E : Value → Shared → Prop} {h : Heap} {g : Array GenState} {d : Drawn} {t : Nat} {os : OsState}
variable {nm q : Str} {C N x : Addr} {bs bm : List Value} {sn : List Str} {sub : List Value} {ab : Bool} {col : Option Bool} {dd : Option Addr} {k0 k1 k2 k3 k5 : Option Value} {B newId sa owner : String}
  {mN : Str → Option Value} {name : Str} {v : Value} {o : Obj}
/-- the first field of an object without a dict: the dict is made at the end of the heap -/
theorem first_entry {tk : Tok} {Q : Fin → Shared → Prop} (SF : StoreFacts B bm sa owner)
    (hC : h.get? C = some (excClassObj nm q C N bs bm true sn sub ab col dd k0 k1 k2 k3 k5 newId)) (hn : h.Ns N mN) (hna : mN name = none)
    (hB : typeLookup (.type B) name = pure none) (hx : h.get? x = some o) (hc : o.cls = .ref C) (hnc : ∀ c, o.data ≠ .cls c) (hdn : o.dict = none)
    (hq : ∀ h' tk', h'.get? x = some { o with dict := some h.objs.size } → h'.Ns1 h.objs.size (fun y => if y = name then some v else none) → (∀ b ob, b ≠ x → h.get? b = some ob → h'.get? b = some ob) → Q (.done (.ret .none)) ⟨h', g, d, tk', os⟩) :
    wpAny (model prog w) A (Builtin.«object.__setattr__» ⟨[.ref x, .str name tk, v], []⟩) Q E ⟨h, g, d, t, os⟩ := by
  have hpass := SF.passes (.ref x)
  unfold Builtin.«object.__setattr__»
  repeat (first | rw [refuse_eq] | (rw [refuseLoop_ref, hpass]) | (with_reducible refine wpAny_loadPart_at hx ?_; rw [hc]) | with_reducible refine wpAny_mroOf_exc hC ?_ | (with_reducible refine wpAny_typeLookup_exc hC hn SF.mro hB ?_; rw [hna]) | wp_step)
  rw [hdn, if_neg (by simp [typeHasDict])]
  split
  · rename_i hcd
    cases hcd
  split
  · rename_i c hcd
    exact absurd hcd (hnc c)
  · have hx₁ : (h.push { cls := .type "dict", data := .dict #[] }).get? x = some o := Heap.get?_push_of_some _ hx
    have hxs : x ≠ h.objs.size := Nat.ne_of_lt (Heap.lt_size hx)
    refine wpAny_bind (wpAny_alloc' ?_)
    refine wpAny_bind (wpAny_update' hx₁ ?_)
    refine wpAny_pure ?_
    have hgd : ((h.push { cls := .type "dict", data := .dict #[] }).update x fun o => { cls := o.cls, dict := some h.objs.size, data := o.data, slots := o.slots }).get? h.objs.size = some { cls := .type "dict", data := .dict #[] } :=
      (Heap.get?_update_ne _ _ _ _ hxs.symm).trans (Heap.get?_push_at rfl rfl)
    have hnd : ((h.push { cls := .type "dict", data := .dict #[] }).update x fun o => { cls := o.cls, dict := some h.objs.size, data := o.data, slots := o.slots }).Ns h.objs.size (fun _ => none) :=
      ⟨_, #[], _, hgd, rfl, fun e he => absurd he (by simp), fun _ => rfl⟩
    show wpAny _ _ (storeInDict h.objs.size (.str name tk) name v) _ _ _
    unfold storeInDict newKeyGuard
    refine wpAny_bind (wpAny_pure (wpAny_bind (wpAny_nsSet1 (Heap.Ns1.of_empty hnd) fun h' hn' hs => ?_)))
    obtain ⟨oD, esD, epD, hoD, hdD, hcD⟩ := hn'.count (Within.cons name v Within.nil)
    refine wpAny_bind (wpAny_lookBehind hoD (by rw [hdD]; exact pastItsLine_dict (Nat.le_trans hcD (by rw [List.length_cons, List.length_nil, sizeLine_eq]; omega))) ?_)
    wp_walk
    refine hq h' _ ?_ hn' fun b ob hbx hb => (hs.2 b (Nat.ne_of_lt (Heap.lt_size hb))).trans ((Heap.get?_update_ne _ _ _ _ hbx).trans (Heap.get?_push_of_some _ hb))
    refine (hs.2 x hxs).trans (Heap.get?_update_self _ hx₁ ?_)
    have hfr := (Heap.get?_some_iff.mp hx).2
    obtain ⟨oc, od, odt, osl⟩ := o
    cases odt <;> first | rfl | exact hfr
theorem first_attr {Q : Unit → Shared → Prop} (SF : StoreFacts B bm sa owner)
    (hC : h.get? C = some (excClassObj nm q C N bs bm true sn sub ab col dd k0 k1 k2 k3 k5 newId)) (hn : h.Ns N mN) (hns : mN "__setattr__" = none) (hna : mN name = none)
    (hB : typeLookup (.type B) name = pure none) (hx : h.get? x = some o) (hc : o.cls = .ref C) (hnc : ∀ c, o.data ≠ .cls c) (hdn : o.dict = none)
    (hq : ∀ h' tk', h'.get? x = some { o with dict := some h.objs.size } → h'.Ns1 h.objs.size (fun y => if y = name then some v else none) → (∀ b ob, b ≠ x → h.get? b = some ob → h'.get? b = some ob) → Q () ⟨h', g, d, tk', os⟩) :
    wpAny (model prog w) A (setAttr (.ref x) name v) Q E ⟨h, g, d, t, os⟩ := by
  have f3 := SF.slot.bind (.ref x)
  unfold setAttr callSpecial? specialOf
  repeat (any_goals (first | assumption | (with_reducible refine wpAny_loadPart_at hx ?_; rw [hc]) | (with_reducible refine wpAny_typeLookup_exc hC hn SF.mro SF.slot.lookup ?_; rw [hns]) | wp_step))
  refine codeAny_call_builtin SF.slot.plain SF.entry (wpAny_check_sa SF hC hx hc (first_entry SF hC hn hna hB hx hc hnc hdn fun h' tk' h1 h2 h3 => ?_))
  repeat (any_goals (first | assumption | wp_step))
  exact hq h' tk' h1 h2 h3
end
end
section
theorem freshNagS : True := by (w_top off; trivial)
open PySem PySem.W PySem.Spec PySem.Calls PyProof.Rows
set_option maxRecDepth 100000
set_option linter.all false
/-- a dict object with these names in it -/
def NamesAre (o : Obj) (m : Str → Option Value) : Prop := ∃ es ep, o.data = .dict es ep ∧ StrKeys es ∧ UniqKeys es ∧ ∀ name, nsFind es name = m name
section
variable {w : World} {A : Around} {E : Value → Shared → Prop} {s : Shared} {h₀ : Heap} {L e D : Addr} {m mA : Str → Option Value} {news rest : Led} {oe oD : Obj} {name : Str} {v : Value} {ws : Array Value} {Q : Unit → Shared → Prop}
theorem nag_first (F : Fr h₀ L s.heap m) (X : (hd.heap_39 w.params).In h₀) (N : News h₀ L s.heap ((e, oe) :: rest)) (hne : ∀ p ∈ rest, p.1 ≠ e) (hc : oe.cls = .ref 97) (hdt : oe.data = .fields ws) (hdn : oe.dict = none)
    (hna : nsIn (hd.heap_39 w.params) 96 name = some none) (hB : typeLookup (.type "Exception") name = pure none)
    (h : ∀ D h' tk' oD, (∀ p ∈ (e, { oe with dict := some D }) :: rest, p.1 ≠ D) → Fr h₀ L h' m → News h₀ L h' ((D, oD) :: (e, { oe with dict := some D }) :: rest) → NamesAre oD (fun y => if y = name then some v else none) → Q () { s with heap := h', toks := tk' }) :
    wpAny (model (RowW.prog (OpenRow.toRowW (OpenLaw.row Challenge.rw_wa0022_01))) w) A (setAttr (.ref e) name v) Q E s := by
  revert X; k_fill; intro X
  have X₁ := X.keeps F.keep
  have he := N _ (List.mem_cons_self ..)
  obtain ⟨hp, g, d, tk, os⟩ := s
  have hC : hp.get? 97 = some _ := X₁ _ _ (by k_is)
  have hn := Heap.Ns.of_isNs (isNs_of_in X₁ (by kernel_rfl : nsOkIn (hd.heap_39 w.params) 96 = true))
  have hs := ns_none_of X₁ hn (by k_is : nsIn _ 96 (Str.ofString "__setattr__") = some none)
  have hna' := ns_none_of X₁ hn hna
  have hLs : L < hp.objs.size := by obtain ⟨o, es, ep, ho, _⟩ := F.ns; exact Heap.lt_size ho
  have hes : e < hp.objs.size := Heap.lt_size he.1
  refine first_attr PySem.F.store_Exception hC hn hs hna' hB he.1 hc (fun c q => by rw [hdt] at q; cases q) hdn fun h' tk' h1 h2 h3 => ?_
  obtain ⟨oD, es, ep, hD, hDd, hk, hu, hf⟩ := h2
  have F' : Fr h₀ L h' m := by
    obtain ⟨oL, a1, a2, hL, a3⟩ := F.ns
    exact ⟨⟨oL, a1, a2, h3 _ _ (fun q => he.2.1 q.symm) hL, a3⟩, fun b o q => h3 b o (fun z => by rw [z, he.2.2] at q; cases q) (F.keep b o q), F.above⟩
  refine h hp.objs.size h' tk' oD (fun p hp' => ?_) F' (fun p hp' => ?_) ⟨es, ep, hDd, hk, hu, hf⟩
  · rcases List.mem_cons.mp hp' with rfl | hp'
    · exact Nat.ne_of_lt hes
    · exact Nat.ne_of_lt (Heap.lt_size (N p (List.mem_cons_of_mem _ hp')).1)
  rcases List.mem_cons.mp hp' with rfl | hp'
  · exact ⟨hD, Nat.ne_of_gt hLs, Heap.get?_none_of_le (Nat.le_trans F.above (Nat.le_of_lt hLs)) |> fun _ => kts_none F.keep (Heap.get?_none_of_le (Nat.le_refl _))⟩
  · rcases List.mem_cons.mp hp' with rfl | hp'
    · exact ⟨h1, he.2⟩
    · have Np := N p (List.mem_cons_of_mem _ hp')
      exact ⟨h3 _ _ (hne p hp') Np.1, Np.2⟩
theorem nag_more {ns : List Str} (F : Fr h₀ L s.heap m) (X : (hd.heap_39 w.params).In h₀) (N : News h₀ L s.heap ((D, oD) :: (e, oe) :: rest)) (hne : ∀ p ∈ (e, oe) :: rest, p.1 ≠ D) (hne' : ∀ p ∈ rest, p.1 ≠ e) (hc : oe.cls = .ref 97) (hdt : oe.data = .fields ws) (hdn : oe.dict = some D)
    (hD : NamesAre oD mA) (hna : nsIn (hd.heap_39 w.params) 96 name = some none) (hB : typeLookup (.type "Exception") name = pure none)
    (h : ∀ h' tk' oD', Fr h₀ L h' m → News h₀ L h' ((D, oD') :: (e, oe) :: rest) → NamesAre oD' (fun y => if y = name then some v else mA y) → Q () { s with heap := h', toks := tk' }) (hw : Within mA ns := by within_ways) (hsz : ns.length ≤ sizeLine := by size_fits) :
    wpAny (model (RowW.prog (OpenRow.toRowW (OpenLaw.row Challenge.rw_wa0022_01))) w) A (setAttr (.ref e) name v) Q E s := by
  revert X; k_fill; intro X
  have X₁ := X.keeps F.keep
  have he := N (e, oe) (List.mem_cons_of_mem _ (List.mem_cons_self ..))
  have hDD := N (D, oD) (List.mem_cons_self ..)
  obtain ⟨hp, g, d, tk, os⟩ := s
  have hC : hp.get? 97 = some _ := X₁ _ _ (by k_is)
  have hn := Heap.Ns.of_isNs (isNs_of_in X₁ (by kernel_rfl : nsOkIn (hd.heap_39 w.params) 96 = true))
  have hs := ns_none_of X₁ hn (by k_is : nsIn _ 96 (Str.ofString "__setattr__") = some none)
  have hna' := ns_none_of X₁ hn hna
  have hDe : D ≠ e := fun q => hne (e, oe) (List.mem_cons_self ..) q.symm
  have heC : e ≠ 97 := fun q => by
    have h97 : h₀.get? 97 = some _ := X _ _ (by k_is)
    rw [← q, he.2.2] at h97; cases h97
  have hnc : ∀ c, oe.data ≠ .cls c := fun c q => by rw [hdt] at q; cases q
  obtain ⟨es, ep, hDd, hk, hu, hf⟩ := hD
  refine store_attr (x := e) (mA := mA) PySem.F.store_Exception hC hn hs hna' hB heC ⟨oe, he.1, hc, hnc, .inr ⟨D, hdn, hDe, oD, es, ep, hDD.1, hDd, hk, hu, hf⟩⟩ (fun h' tk' I k1 k2 => ?_) hw hsz
  obtain ⟨o₁, g1, g2, g3, g4, g5⟩ := k2 oe he.1
  have g6 := g5 D hdn
  obtain rfl : o₁ = oe := by
    obtain ⟨a1, a2, a3, a4⟩ := o₁
    obtain ⟨b1, b2, b3, b4⟩ := oe
    dsimp only at g2 g3 g4 g6 hdn
    subst g2 g3 g4 g6 hdn
    rfl
  obtain ⟨o₂, i1, i2, i3, i4⟩ := I
  rw [g1] at i1
  obtain rfl := Option.some.inj i1
  rcases i4 with ⟨z, _⟩ | ⟨D', z, _, oD', es', ep', hD', hDd', hk', hu', hf'⟩
  · rw [hdn] at z; cases z
  rw [hdn] at z
  obtain rfl := Option.some.inj z
  have keep : ∀ b o, b ≠ e → b ≠ D → hp.get? b = some o → h'.get? b = some o := fun b o n1 n2 q => k1 b o n1 (fun o₀ dx q1 q2 => by
    rw [he.1] at q1
    obtain rfl := Option.some.inj q1
    rw [hdn] at q2
    obtain rfl := Option.some.inj q2
    exact n2) q
  have F' : Fr h₀ L h' m := by
    obtain ⟨oL, a1, a2, hL, a3⟩ := F.ns
    exact ⟨⟨oL, a1, a2, keep _ _ (fun q => he.2.1 q.symm) (fun q => hDD.2.1 q.symm) hL, a3⟩, fun b o q => keep b o (fun z => by rw [z, he.2.2] at q; cases q) (fun z => by rw [z, hDD.2.2] at q; cases q) (F.keep b o q), F.above⟩
  refine h h' tk' oD' F' (fun p hp' => ?_) ⟨es', ep', hDd', hk', hu', hf'⟩
  rcases List.mem_cons.mp hp' with rfl | hp'
  · exact ⟨hD', hDD.2⟩
  · rcases List.mem_cons.mp hp' with rfl | hp'
    · exact ⟨g1, he.2⟩
    · have Np := N p (List.mem_cons_of_mem _ (List.mem_cons_of_mem _ hp'))
      exact ⟨keep _ _ (hne' p hp') (hne p (List.mem_cons_of_mem _ hp')) Np.1, Np.2⟩
end
end
section
theorem freshSrtL : True := by (w_top off; trivial)
open PySem PySem.W PySem.Spec PySem.Calls PyProof.Rows PySem.MeetsSeq PySem.MeetsSeq3
open AutoSeq1 (wpAny_loadPart')
set_option maxRecDepth 100000
set_option linter.all false
/-- two lists of ints, the first before the second -/
def lexB : List Int → List Int → Bool
  | a :: as, b :: bs => if a = b then lexB as bs else decide (a < b)
  | as, bs => decide (as.length < bs.length)
theorem ints_get : ∀ {vs : List Value} {xs : List Int} {i : Nat} {x : Int}, IntsAre vs xs → xs[i]? = some x → ∃ t, vs[i]? = some (.int x t)
  | _, _, _, _, .nil, h => by simp at h
  | _, _, 0, _, .cons n t _, h => by simp at h; subst h; exact ⟨_, rfl⟩
  | _, _, i + 1, _, .cons n t r, h => by simpa using ints_get (i := i) r (by simpa using h)
theorem lt_loop (l b : Addr) {xs ys : List Value} {as bs : List Int} (hx : IntsAre xs as) (hy : IntsAre ys bs) (n n2 : Nat) (k : Nat) :
    ∀ i : Nat, as.length - i = k → i ≤ as.length → i ≤ bs.length → Meets (Builtin.«list.__eq__.loop» ⟨[.ref l, .ref b, rawInt i, rawInt 0], []⟩)
      (fun _ R s => s.heap.get? l = some { cls := .type "list", dict := none, data := .seq xs.toArray n, slots := #[] } ∧ s.heap.get? b = some { cls := .type "list", dict := none, data := .seq ys.toArray n2, slots := #[] } ∧
        R (.ok (.ret (.bool (lexB (as.drop i) (bs.drop i))))) s) := by
  have lx : xs.length = as.length := hx.length
  have ly : ys.length = bs.length := hy.length
  have fin : ∀ i : Nat, i ≤ as.length → i ≤ bs.length → (i = as.length ∨ i = bs.length) → Meets (Builtin.«list.__eq__.loop» ⟨[.ref l, .ref b, rawInt i, rawInt 0], []⟩)
      (fun _ R s => s.heap.get? l = some { cls := .type "list", dict := none, data := .seq xs.toArray n, slots := #[] } ∧ s.heap.get? b = some { cls := .type "list", dict := none, data := .seq ys.toArray n2, slots := #[] } ∧
        R (.ok (.ret (.bool (lexB (as.drop i) (bs.drop i))))) s) := by
    intro i h1 h2 h3 prog w A R s h
    obtain ⟨hp, g, d, tk, os⟩ := s; obtain ⟨hl, hb, h⟩ := h
    have e : lexB (as.drop i) (bs.drop i) = decide (xs.toArray.size < ys.toArray.size) := by
      rw [List.size_toArray, List.size_toArray, lx, ly]
      rcases h3 with rfl | rfl
      · rw [List.drop_length]
        cases q : bs.drop as.length with
        | nil => have := List.drop_eq_nil_iff.mp q; simp [lexB]; omega
        | cons c r => have : as.length < bs.length := by
                        refine Nat.lt_of_not_le fun z => ?_
                        rw [List.drop_eq_nil_of_le z] at q; cases q
                      simp [lexB, this]
      · rw [List.drop_length]
        cases q : as.drop bs.length with
        | nil => have := List.drop_eq_nil_iff.mp q; simp [lexB]; omega
        | cons c r => simp [lexB]; omega
    rw [e] at h
    wp_walk using wpAny_loadPart' hl, wpAny_loadPart' hb
    have hi : xs.toArray[((i : Nat) : Int).toNat]? = none ∨ ys.toArray[((i : Nat) : Int).toNat]? = none := by
      rcases h3 with rfl | rfl
      · left; simp; omega
      · right; simp; omega
    generalize xs.toArray[((i : Nat) : Int).toNat]? = ox at hi ⊢
    generalize ys.toArray[((i : Nat) : Int).toNat]? = oy at hi ⊢
    cases ox <;> cases oy
    · wp_walk using wpAny_loadPart' hl, wpAny_loadPart' hb
      exact h
    · wp_walk using wpAny_loadPart' hl, wpAny_loadPart' hb
      exact h
    · wp_walk using wpAny_loadPart' hl, wpAny_loadPart' hb
      exact h
    · rcases hi with hi | hi <;> cases hi
  induction k with
  | zero => intro i hk h1 h2; exact fin i h1 h2 (.inl (by omega))
  | succ k ih =>
    intro i hk h1 h2
    by_cases h3 : i = bs.length
    · exact fin i h1 h2 (.inr h3)
    intro prog w A R s h
    obtain ⟨hp, g, d, tk, os⟩ := s; obtain ⟨hl, hb, h⟩ := h
    have hlt : i < as.length := by omega
    have hlt2 : i < bs.length := by omega
    obtain ⟨t, ht⟩ := ints_get hx (List.getElem?_eq_getElem hlt)
    obtain ⟨u, hu⟩ := ints_get hy (List.getElem?_eq_getElem hlt2)
    have hd1 : as.drop i = as[i] :: as.drop (i + 1) := List.drop_eq_getElem_cons hlt
    have hd2 : bs.drop i = bs[i] :: bs.drop (i + 1) := List.drop_eq_getElem_cons hlt2
    have hi1 : xs.toArray[((i : Nat) : Int).toNat]? = some (.int as[i] t) := by simpa using ht
    have hi2 : ys.toArray[((i : Nat) : Int).toNat]? = some (.int bs[i] u) := by simpa using hu
    have hc : ((i : Int) + 1) = ((i + 1 : Nat) : Int) := by push_cast; rfl
    rw [hd1, hd2, lexB] at h
    wp_walk using wpAny_loadPart' hl, wpAny_loadPart' hb
    rw [hi1, hi2]
    refine wpAny_bind (EqGives.int _ _ _ _ prog w _ _ _ _ ?_)
    by_cases q : as[i] = bs[i]
    · rw [if_pos q] at h
      rw [show (as[i] == bs[i]) = true from by simp [q]]
      wp_walk
      rw [hc]
      exact ⟨plainId_quiet plain_eq_loop _, codeAny_builtin entry_eq_loop (by
        rw [Around.under_plainId plain_eq_loop _]
        exact ih (i + 1) (by omega) (by omega) (by omega) prog w A R _ ⟨hl, hb, h⟩)⟩
    · rw [if_neg q] at h
      rw [show (as[i] == bs[i]) = false from by simp [q]]
      wp_walk using wpAny_loadPart' hl, wpAny_loadPart' hb
      rw [hi1, hi2]
      dsimp only
      refine wpAny_bind ?_
      show wpAny _ _ (compareOp .Lt (.int _ _) (.int _ _)) _ _ _
      refine wpAny_lt_int ?_
      exact wpAny_pure h
theorem list_lt (l b : Addr) {xs ys : List Value} {as bs : List Int} (hx : IntsAre xs as) (hy : IntsAre ys bs) (n n2 : Nat) :
    Meets (Builtin.«list.__lt__» ⟨[.ref l, .ref b], []⟩)
      (fun _ R s => s.heap.get? l = some { cls := .type "list", dict := none, data := .seq xs.toArray n, slots := #[] } ∧ s.heap.get? b = some { cls := .type "list", dict := none, data := .seq ys.toArray n2, slots := #[] } ∧
        R (.ok (.ret (.bool (lexB as bs)))) s) := by
  intro prog w A R s h
  obtain ⟨hp, g, d, tk, os⟩ := s; obtain ⟨hl, hb, h⟩ := h
  have hT : (⟨hp, g, d, tk, os⟩ : Shared).TypeIs (.ref b) "list" := ⟨_, hb, rfl⟩
  have f1 : isSubtype (.type "list") (.type "list") = pure true := by rw [isSubtype_type]; kernel_rfl
  wp_walk using wpAny_loadPart' hl, wpAny_loadPart' hb
  exact ⟨plainId_quiet plain_eq_loop _, codeAny_builtin entry_eq_loop (by
    rw [Around.under_plainId plain_eq_loop _]
    exact lt_loop l b hx hy n n2 _ 0 rfl (Nat.zero_le _) (Nat.zero_le _) prog w A R _ ⟨hl, hb, h⟩)⟩
theorem lt_lists {prog : Program} {w : World} {A : Around} {E : Value → Shared → Prop} {s : Shared} {x y : Addr} {xs ys : List Value} {as bs : List Int} {n n2 : Nat} {Q : Bool → Shared → Prop} (hu : A.units < cLine)
    (hx : s.heap.get? x = some (listOf xs.toArray n)) (hy : s.heap.get? y = some (listOf ys.toArray n2)) (ix : IntsAre xs as) (iy : IntsAre ys bs) (h : Q (lexB as bs) s) : wpAny (model prog w) A (keyLt' oneType' (.ref x) (.ref y)) Q E s := by
  rw [keyLt'_oneType, oneLt'_eq]
  simp only [if_true]
  refine wpAny_bind (wpAny_cRoomFor hu ?_)
  refine wpAny_bind (wpAny_callSpecialIfBound?_slot ⟨_, hx, rfl⟩ F.slot_list_lt (call_meets F.slot_list_lt ⟨_, hx, rfl⟩ F.entry_list_lt (F.args_list_lt_2 _ _) (list_lt x y ix iy n n2) ⟨hx, hy, ?_⟩))
  exact wpAny_truthy_bool h
end
section
theorem freshPureT : True := by (w_top off; trivial)
open PySem PySem.W
set_option maxRecDepth 100000
set_option linter.all false
/-- the answer of a sort by asking, as long as it asks for what is there -/
def kasRun {α : Type} (f : Nat → Nat → Bool) (n : Nat) : KasT α → Option α
  | .ret a => some a
  | .ask i j k => if i < n ∧ j < n then kasRun f n (k (f i j)) else none
/-- the children of row k -/
def kids (hs : List Nat) (h : Nat) : List Nat := (List.range 7).filter fun k => decide (h < k) && decide (hs.getD k 0 = h)
/-- the paths below row h, top down -/
def pathsF (hs : List Nat) : Nat → Nat → List (List Nat)
  | 0, _ => []
  | f + 1, h => (kids hs h).flatMap fun k => [k] :: (pathsF hs f k).map (k :: ·)
/-- the paths as the loop makes them -/
def pathsL (hs : List Nat) : Nat → List (List Nat)
  | 0 => [[]]
  | n + 1 => let p := pathsL hs n; p ++ [p.getD (hs.getD (n + 1) 0) [] ++ [n + 1]]
def lexN : List Nat → List Nat → Bool
  | a :: as, b :: bs => if a = b then lexN as bs else decide (a < b)
  | as, bs => decide (as.length < bs.length)
/-- the sort of these paths gives the paths top down -/
def sortOk (hs : List Nat) : Bool :=
  let p := (pathsL hs 6).drop 1
  match kasRun (fun i j => lexN (p.getD i []) (p.getD j [])) 6 (kas_sort 6) with
  | some r => r.toList.all (fun i => decide (i < 6)) && decide (r.toList.map (fun i => p.getD i []) = pathsF hs 7 0) && Nat.ble r.toList.length 6
  | none => false
def heads6 (a b c d e : Nat) : List Nat := [0, 0, a, b, c, d, e]
def allT (a b : Nat) : Bool := (List.range 4).all fun c => (List.range 5).all fun d => (List.range 6).all fun e => sortOk (heads6 a b c d e)
theorem sorted_00 : allT 0 0 = true := by decide +kernel
theorem sorted_01 : allT 0 1 = true := by decide +kernel
theorem sorted_02 : allT 0 2 = true := by decide +kernel
theorem sorted_10 : allT 1 0 = true := by decide +kernel
theorem sorted_11 : allT 1 1 = true := by decide +kernel
theorem sorted_12 : allT 1 2 = true := by decide +kernel
theorem sorted_at {a b c d e : Nat} (ha : a < 2) (hb : b < 3) (hc : c < 4) (hd : d < 5) (he : e < 6) : sortOk (heads6 a b c d e) = true := by
  have h : allT a b = true := by
    match a, ha, b, hb with
    | 0, _, 0, _ => exact sorted_00
    | 0, _, 1, _ => exact sorted_01
    | 0, _, 2, _ => exact sorted_02
    | 1, _, 0, _ => exact sorted_10
    | 1, _, 1, _ => exact sorted_11
    | 1, _, 2, _ => exact sorted_12
  unfold allT at h
  simp only [List.all_eq_true, List.mem_range] at h
  exact h c hc d hd e he
/-- as many rows lie below the top one as the sort gave back -/
theorem sortOk_len {hs : List Nat} (h : sortOk hs = true) : (pathsF hs 7 0).length ≤ 6 := by
  unfold sortOk at h
  dsimp only at h
  split at h
  · simp only [Bool.and_eq_true, decide_eq_true_eq] at h
    rw [← h.1.2, List.length_map]
    exact Nat.le_of_ble_eq_true h.2
  · cases h
theorem kids_lt {hs : List Nat} {h k : Nat} (hk : k ∈ kids hs h) : h < k ∧ k < 7 ∧ hs.getD k 0 = h := by
  unfold kids at hk
  simp only [List.mem_filter, List.mem_range, Bool.and_eq_true, decide_eq_true_eq] at hk
  exact ⟨hk.2.1, hk.1, hk.2.2⟩
theorem flatMap_congr' {α β : Type} {f g : α → List β} : ∀ {l : List α}, (∀ a ∈ l, f a = g a) → l.flatMap f = l.flatMap g
  | [], _ => rfl
  | a :: l, h => by rw [List.flatMap_cons, List.flatMap_cons, h a (List.mem_cons_self ..), flatMap_congr' fun b hb => h b (List.mem_cons_of_mem _ hb)]
theorem paths_stable (hs : List Nat) : ∀ (f f' h : Nat), 7 ≤ h + f → 7 ≤ h + f' → pathsF hs f h = pathsF hs f' h
  | 0, 0, _, _, _ => rfl
  | 0, f' + 1, h, h1, _ => by
    have : kids hs h = [] := List.eq_nil_iff_forall_not_mem.mpr fun k hk => by have := kids_lt hk; omega
    rw [pathsF, pathsF, this]; rfl
  | f + 1, 0, h, _, h2 => by
    have : kids hs h = [] := List.eq_nil_iff_forall_not_mem.mpr fun k hk => by have := kids_lt hk; omega
    rw [pathsF, pathsF, this]; rfl
  | f + 1, f' + 1, h, h1, h2 => by
    rw [pathsF, pathsF]
    refine flatMap_congr' fun k hk => ?_
    have := kids_lt hk
    rw [paths_stable hs f f' k (by omega) (by omega)]
theorem paths_step (hs : List Nat) (h : Nat) : pathsF hs 7 h = (kids hs h).flatMap fun k => [k] :: (pathsF hs 7 k).map (k :: ·) := by
  show ((kids hs h).flatMap fun k => [k] :: (pathsF hs 6 k).map (k :: ·)) = _
  refine flatMap_congr' fun k hk => ?_
  have := kids_lt hk
  rw [paths_stable hs 6 7 k (by omega) (by omega)]
theorem paths_len (hs : List Nat) : ∀ (f h : Nat), ∀ p ∈ pathsF hs f h, p.length ≤ f ∧ p ≠ []
  | 0, _, p, hp => by simp [pathsF] at hp
  | f + 1, h, p, hp => by
    rw [pathsF] at hp
    obtain ⟨k, _, hp⟩ := List.mem_flatMap.mp hp
    rcases List.mem_cons.mp hp with rfl | hp
    · exact ⟨by simp, by simp⟩
    · obtain ⟨q, hq, rfl⟩ := List.mem_map.mp hp
      have := paths_len hs f k q hq
      exact ⟨by simp; exact this.1, by simp⟩
/-- how far the row at a path's end is set in -/
def indentP (ws : List Nat) (p : List Nat) : Nat := (p.dropLast.map (ws.getD · 0)).sum
/-- the page below row h -/
def pageP (hs ws : List Nat) (h : Nat) : List Nat := (pathsF hs 7 h).map (indentP ws)
theorem indentP_cons (ws : List Nat) (k : Nat) {p : List Nat} (hp : p ≠ []) : indentP ws (k :: p) = indentP ws p + ws.getD k 0 := by
  unfold indentP
  rw [List.dropLast_cons_of_ne_nil hp, List.map_cons, List.sum_cons, Nat.add_comm]
theorem pageP_step (hs ws : List Nat) (h : Nat) : pageP hs ws h = (kids hs h).flatMap fun k => 0 :: (pageP hs ws k).map (· + ws.getD k 0) := by
  unfold pageP
  rw [paths_step, List.map_flatMap]
  refine flatMap_congr' fun k hk => ?_
  rw [List.map_cons, List.map_map, List.map_map]
  exact congrArg (List.cons 0) (List.map_congr_left fun p hp => indentP_cons ws k (paths_len hs 7 k p hp).2)
theorem sum_le_mul {b : Nat} : ∀ {l : List Nat}, (∀ x ∈ l, x ≤ b) → l.sum ≤ l.length * b
  | [], _ => by simp
  | a :: l, h => by
    have h1 := h a (List.mem_cons_self ..)
    have h2 := sum_le_mul (l := l) fun x hx => h x (List.mem_cons_of_mem _ hx)
    rw [List.sum_cons, List.length_cons, Nat.succ_mul]; omega
theorem indentP_le {hs ws : List Nat} (hw : ∀ i, ws.getD i 0 ≤ 2) {h : Nat} {p : List Nat} (hp : p ∈ pathsF hs 7 h) : indentP ws p ≤ 14 := by
  have h1 := (paths_len hs 7 h p hp).1
  unfold indentP
  have h2 : (p.dropLast.map (ws.getD · 0)).sum ≤ (p.dropLast.map (ws.getD · 0)).length * 2 := sum_le_mul fun x hx => by
    obtain ⟨i, _, rfl⟩ := List.mem_map.mp hx
    exact hw i
  rw [List.length_map, List.length_dropLast] at h2
  omega
theorem pageP_sum {hs ws : List Nat} (hw : ∀ i, ws.getD i 0 ≤ 2) {h : Nat} (hl : (pathsF hs 7 h).length ≤ 6) : (pageP hs ws h).sum ≤ 84 := by
  have h1 : (pageP hs ws h).sum ≤ (pageP hs ws h).length * 14 := sum_le_mul fun x hx => by
    obtain ⟨p, hp, rfl⟩ := List.mem_map.mp hx
    exact indentP_le hw hp
  unfold pageP at h1 ⊢
  rw [List.length_map] at h1
  omega
theorem lexB_N : ∀ as bs : List Nat, lexB (as.map Int.ofNat) (bs.map Int.ofNat) = lexN as bs
  | [], [] => rfl
  | [], b :: bs => by simp [lexB, lexN]
  | a :: as, [] => by simp [lexB, lexN]
  | a :: as, b :: bs => by
    simp only [List.map_cons, lexB, lexN, lexB_N as bs]
    by_cases q : a = b
    · subst q; simp
    · have q' : ¬ (Int.ofNat a = Int.ofNat b) := fun z => q (Int.ofNat.inj z)
      rw [if_neg q, if_neg q']
      have : (Int.ofNat a < Int.ofNat b) ↔ a < b := Int.ofNat_lt
      simp only [this]
theorem kasWp_run {α : Type} {cmp : Nat → Nat → (Bool → Shared → Prop) → Shared → Prop} {f : Nat → Nat → Bool} {n : Nat} {s : Shared} {Q : α → Shared → Prop} (hc : ∀ i j C, i < n → j < n → C (f i j) s → cmp i j C s) : ∀ (t : KasT α) {a : α}, kasRun f n t = some a → Q a s → t.kasWp cmp Q s
  | .ret b, a, h, hq => by
    obtain rfl : b = a := Option.some.inj h
    exact hq
  | .ask i j k, a, h, hq => by
    rw [kasRun] at h
    split at h
    · rename_i hij
      exact hc i j _ hij.1 hij.2 (kasWp_run hc (k (f i j)) h hq)
    · cases h
end
section
theorem freshFnName : True := by (w_top off; trivial)
open PySem PySem.W PySem.Spec PySem.Calls PyProof.Rows PySem.Builtin PySem.Builtin.ObjectAttr PySem.Builtin.Getset_descriptor
set_option maxRecDepth 100000
set_option linter.all false
theorem slot_ga : Slot "function" "__getattribute__" "object.__getattribute__" := Slot.of (owner := "object") (n := "__getattribute__") (id := "object.__getattribute__") (by rw [typeLookup_type, builtinLookup_eq_fast]; kernel_rfl) (by decide +kernel) (by decide +kernel) (by decide +kernel) (.inl (by decide +kernel)) (by rw [isSubtype_type]; kernel_rfl)
theorem fn_lookup_name : typeLookup (.type "function") "__name__" = pure (some (.builtin "function.__name__")) := by rw [typeLookup_type, builtinLookup_eq_fast]; kernel_rfl
theorem fn_getattr_none : typeLookup (.type "function") "__getattr__" = pure none := by rw [typeLookup_type, builtinLookup_eq_fast]; kernel_rfl
theorem args_ga (a b : Value) : argsOk "object.__getattribute__" ⟨[a, b], []⟩ := by unfold argsOk; kernel_rfl
theorem entry_ga : entryFor table "object.__getattribute__" = some Builtin.«object.__getattribute__» := entryFor_of_tree (by kernel_rfl)
theorem fn_desc : typeOf (.builtin "function.__name__") = pure (.type "getset_descriptor") := by show builtinType _ = _; rw [builtinType_eq_fast]; kernel_rfl
theorem fn_get : typeLookup (.type "getset_descriptor") "__get__" = pure (some (.builtin "getset_descriptor.__get__")) := by rw [typeLookup_type, builtinLookup_eq_fast]; kernel_rfl
theorem fn_set : typeLookup (.type "getset_descriptor") "__set__" = pure (some (.builtin "getset_descriptor.__set__")) := by rw [typeLookup_type, builtinLookup_eq_fast]; kernel_rfl
theorem fn_entry : entryFor table "function.__name__" = some Builtin.«function.__name__» := entryFor_of_tree (by kernel_rfl)
theorem fn_owner : descrOwnerAndName "function.__name__" = ("function", "__name__") := by decide +kernel
theorem fn_dga (d tp : Value) (f : Addr) : descrGetArgs ⟨[d, .ref f, tp], []⟩ = pure (d, some (.ref f), given tp) := by kernel_rfl
theorem fn_gs {prog : Program} {w : World} {A : Around} {s : Shared} {R : Result → Shared → Prop} {f : Addr} {o : Obj} {fd : FuncData} {tp : Value}
    (hx : s.heap.get? f = some o) (hc : o.cls = .type "function") (hdat : o.data = .func fd) (hz : fd.name.length ≤ sizeLine) (h : ∀ u tk, R (.ok (.ret (.str fd.name u))) { s with toks := tk }) :
    codeAny (model prog w) A (.call (.builtin "getset_descriptor.__get__") ⟨[.builtin "function.__name__", .ref f, tp], []⟩) R s := by
  obtain ⟨c, dct, dat, sl⟩ := o
  simp only at hc hdat
  subst hc hdat
  obtain ⟨hh, g, dr, t, os⟩ := s
  have hT : ∀ tk', (⟨hh, g, dr, tk', os⟩ : Shared).TypeIs (.ref f) "function" := fun _ => ⟨_, hx, rfl⟩
  have f1 : isSubtype (.type "function") (.type "function") = pure true := by rw [isSubtype_type]; kernel_rfl
  refine codeAny_call_builtin KF.slot_gs.plain KF.entry_gs (KF.slot_gs.check _ _ _ _ _ _ _ _ fn_desc (KF.args_gs _ _ _) ?_)
  unfold Builtin.«getset_descriptor.__get__» descrGet
  rw [fn_dga]
  refine wpAny_bind (wpAny_pure ?_)
  unfold descrGetter descrCheckInstance descrNameAndClass isInstance
  simp only [fn_owner]
  repeat (any_goals (first | assumption | exact hT _ | wp_step))
  refine ⟨Code.quiet_builtin _ (by decide +kernel), codeAny_builtin fn_entry ?_⟩
  unfold Builtin.«function.__name__» retStr
  repeat (any_goals (first | assumption | exact hT _ | with_reducible refine wpAny_mkText ?_ | wp_step))
  exact h _ _
theorem fn_name {prog : Program} {w : World} {A : Around} {E : Value → Shared → Prop} {s : Shared} {f : Addr} {o : Obj} {fd : FuncData} {Q : Value → Shared → Prop}
    (hx : s.heap.get? f = some o) (hc : o.cls = .type "function") (hdat : o.data = .func fd) (hdn : o.dict = none) (hz : fd.name.length ≤ sizeLine)
    (h : ∀ tk u, Q (.str fd.name tk) { s with toks := u }) : wpAny (model prog w) A (getAttr (.ref f) "__name__" true) Q E s := by
  obtain ⟨c, dct, dat, sl⟩ := o
  simp only at hc hdat hdn
  subst hc hdat hdn
  obtain ⟨hp, g, d, tk, os⟩ := s
  have hT : ∀ tk', (⟨hp, g, d, tk', os⟩ : Shared).TypeIs (.ref f) "function" := fun _ => ⟨_, hx, rfl⟩
  have f1 := slot_ga.lookup
  have f2 := slot_ga.bind (.ref f)
  have f3 := fn_lookup_name
  have f4 := fn_getattr_none
  unfold getAttr getAttrBy
  repeat (any_goals (first | assumption | exact hT _ | wp_step))
  refine codeAny_call_builtin slot_ga.plain entry_ga (slot_ga.check _ _ _ _ _ _ _ _ (hT _) (args_ga _ _) ?_)
  have f5 := fn_desc
  have f6 := fn_get
  have f7 := fn_set
  unfold Builtin.«object.__getattribute__» find getOf dataDescriptor?
  repeat (any_goals (first | assumption | exact hT _ | wp_step))
  refine fn_gs hx rfl rfl hz fun u tk' => ?_
  repeat (any_goals (first | assumption | wp_step))
  exact h _ _
end
section
open PySem PySem.W PySem.Spec PySem.Calls PyProof.Rows PyProof.V
set_option maxRecDepth 100000
set_option linter.all false
local macro_rules | `(tactic| walk_at "len9") => `(tactic| (first | omega | ((simp only [List.length_take, List.length_drop, List.length_reverse, List.length_append, List.length_map, List.length_cons, List.length_nil, List.size_toArray]); omega)))
local macro_rules | `(tactic| k_room) => `(tactic| ktr_room)
local macro_rules | `(tactic| k_units) => `(tactic| ktr_units)
local macro_rules | `(tactic| k_enter) => `(tactic| (refine' code_defC ?k1 ?k2 ?k3 ?k4 ?k5 ?kA ?kF ?kK ?k6 ?k7 ?k8 ?k9 ?kB ?kD ?_ ?c2 ?c3 ?c4; (case kA => exact rfl); (case kF => exact rfl); (case kK => first | exact rfl | assumption); (case k1 => k_asm); (case k2 => k_asm); (case k3 => k_asm); (case k4 => k_asm); (case k5 => k_asm); (case k6 => k_is); (case k7 => k_is); (case k8 => k_room); (case k9 => first | exact BindsTo.of_eq rfl | exact binds_K (by k_in) rfl (by k_is) rfl rfl rfl); (case kB => exact rfl); (case kD => decide +kernel); (case c2 => exact rfl); (case c3 => exact rfl); (case c4 => exact rfl); k_whole; intro g' L' h' tk' cells' FG' F' N' Y' B' X' T' l1; (try k_lt l1); k_cells Y'; (try simp only [List.cons_append, List.nil_append] at N'); (try dsimp only); (try k_fold)))
local macro_rules | `(tactic| k_enter) => `(tactic| (refine' code_def ?k1 ?k2 ?k3 ?k4 ?k5 ?kA ?kF ?kK ?k6 ?k7 ?k8 ?k9 ?kB ?_ ?c2 ?c3 ?c4 ?c5; (case kA => exact rfl); (case kF => exact rfl); (case kK => first | exact rfl | assumption); (case k1 => k_asm); (case k2 => k_asm); (case k3 => k_asm); (case k4 => k_asm); (case k5 => k_asm); (case k6 => k_is); (case k7 => k_is); (case k8 => k_room); (case k9 => first | exact BindsTo.of_eq rfl | exact binds_K (by k_in) rfl (by k_is) rfl rfl rfl); (case c5 => decide); (case kB => exact locs rfl); (case c2 => exact rfl); (case c3 => exact rfl); (case c4 => exact rfl); k_whole; intro g' L' h' FG' F' N' B' X' T'; (try dsimp only); (try k_fold)))
local macro_rules | `(tactic| walk_at "LStep") => `(tactic| first | (refine LStep.brk ?_; (try dsimp only); (try k_fold)) | (refine LStep.ret ?_; (try dsimp only); (try k_fold)))
local macro_rules | `(tactic| k_all) => `(tactic| first | with_reducible assumption | exact ne_of_all (by with_reducible assumption) | exact ne_of_allLt (by with_reducible assumption) | exact ne_of_off1 (by with_reducible assumption) | exact ne_of_allLt (‹_ ∧ AllLt _ _›).2 | exact ne_of_allLt (‹_ ∧ _ ∧ AllLt _ _›).2.2 | exact ne_of_allLt (‹_ ∧ _ ∧ _ ∧ AllLt _ _›).2.2.2 | exact ne_of_allLt (‹_ ∧ _ ∧ _ ∧ _ ∧ AllLt _ _›).2.2.2.2 | exact ne_of_allLt (‹_ ∧ _ ∧ _ ∧ _ ∧ _ ∧ AllLt _ _›).2.2.2.2.2 | exact ne_of_allLt (‹_ ∧ _ ∧ _ ∧ _ ∧ _ ∧ _ ∧ AllLt _ _›).2.2.2.2.2.2 | exact ne_of_allLt (‹_ ∧ _ ∧ _ ∧ _ ∧ _ ∧ _ ∧ _ ∧ AllLt _ _›).2.2.2.2.2.2.2)
local macro_rules | `(tactic| kst_same) => `(tactic| (intro z h1 h2 h3; (try simp only [List.forall_mem_cons, List.not_mem_nil, false_implies, implies_true, and_true, ne_eq] at h2); (try simp only [List.contains_cons, List.contains_nil, Bool.or_false, Bool.or_eq_false_iff, beq_eq_false_iff_ne, ne_eq] at h3); (simp only [h1, h2, h3, kstB, if_false, List.contains_cons, List.contains_nil, Bool.or_false, Bool.false_eq_true, if_false]; done)))
local macro_rules | `(tactic| walk_at "call builtin:len") => `(tactic| (k_here; (with_reducible show wpAny _ _ (call (Value.builtin "len") [Value.ref _]) _ _ _); k_dflt (refine' len_led ?N ?m ?b ?_; (case N => k_asm); (case m => k_mem); (case b => (walk_at "len9")); k_whole)))
local macro_rules | `(tactic| walk_at "subscriptTail") => `(tactic| (k_here; (with_reducible show wpAny _ _ (subscriptTail _ (PySem.Expr.Slice _ _ _ _) (Value.ref _) (Value.ref _)) _ _ _); k_dflt (first | (refine' sl_rev ?F ?N ?m ?b ?_ ?s ?t; (case F => k_asm); (case N => k_asm); (case m => k_mem); (case b => (walk_at "len9")); (case s => with_unfolding_all rfl); (case t => kmk_pure); k_whole) | (refine' sl_init ?F ?N ?m ?b ?_ ?s ?t; (case F => k_asm); (case N => k_asm); (case m => k_mem); (case b => (walk_at "len9")); (case s => with_unfolding_all rfl); (case t => kmk_pure); k_whole) | (refine' sl_butlast ?F ?N ?m ?b ?_ ?s ?t; (case F => k_asm); (case N => k_asm); (case m => k_mem); (case b => (walk_at "len9")); (case s => with_unfolding_all rfl); (case t => kmk_pure); k_whole) | (refine' sl_upto ?F ?N ?m ?p ?b ?_ ?s ?t; (case F => k_asm); (case N => k_asm); (case m => k_mem); (case p => omega); (case b => (walk_at "len9")); (case s => with_unfolding_all rfl); (case t => kmk_pure); k_whole) | (refine' sl_from ?F ?N ?m ?p ?b ?_ ?s ?t; (case F => k_asm); (case N => k_asm); (case m => k_mem); (case p => omega); (case b => (walk_at "len9")); (case s => with_unfolding_all rfl); (case t => kmk_pure); k_whole)); intro D' h' F' N' l1; (try k_lt l1); (try k_sweep)))
local macro_rules | `(tactic| walk_at "subscriptTail") => `(tactic| (k_here; (with_reducible show wpAny _ _ (subscriptTail _ _ (Value.ref _) (Value.int _ _)) _ _ _); k_dflt (refine' item_led ?N ?m ?p ?x ?b ?_; (case N => k_asm); (case m => k_mem); (case p => omega); (case x => assumption); (case b => (walk_at "len9")); k_whole)))
local macro_rules | `(tactic| walk_at "eval ListComp") => `(tactic| (k_here; k_dflt (refine LCg.ListComp_U (F₀ := by k_asm) (by with_unfolding_all rfl) (by decide) (by rfl) (by decide) (by rfl) ?_)))
local macro_rules | `(tactic| walk_at "exec Assign cons ListComp") => `(tactic| (k_here; k_dflt (refine LCg.Assign_ListComp_U (F₀ := by k_asm) (by rfl) (by with_unfolding_all rfl) (by with_unfolding_all rfl) (by decide) (by rfl) (by decide) (by rfl) (by rfl) (by rfl) ?_)))
local macro_rules | `(tactic| walk_at "exec For Name Subscript cons nil") => `(tactic| walk_at "exec For")
local macro_rules | `(tactic| walk_at "exec For Name Name cons nil") => `(tactic| walk_at "exec For")
local macro_rules | `(tactic| walk_at "exec For Name Call cons nil") => `(tactic| walk_at "exec For")
local macro_rules | `(tactic| walk_at "exec For") => `(tactic| (k_here; (rename Fr _ _ _ _ => lF'); (with_unfolding_all refine' For_invVF lF' ?k1 ?k2 ?_; (case k1 => exact rfl); (case k2 => exact rfl); k_whole)))
local macro_rules | `(tactic| k_mem) => `(tactic| (refine mem_mk ?_; with_reducible assumption))
local macro_rules | `(tactic| walk_at "compareOp NotEq") => `(tactic| (k_here; (with_reducible show wpAny _ _ (compareOp CmpOp.NotEq (Value.ref _) (Value.ref _)) _ _ _); k_dflt (first | (refine' ne_nil (r := true) ?N ?a ?b ?u ?hr ?_; (case N => k_asm); (case a => k_mem); (case b => k_mem); (case u => k_units); (case hr => (simp; done)); k_whole) | (refine' ne_nil (r := false) ?N ?a ?b ?u ?hr ?_; (case N => k_asm); (case a => k_mem); (case b => k_mem); (case u => k_units); (case hr => (simp; done)); k_whole))))
local macro_rules | `(tactic| walk_at "subscriptTail") => `(tactic| (k_here; (with_reducible show wpAny _ _ (subscriptTail _ _ (Value.ref _) (Value.int (-1) _)) _ _ _); k_dflt (refine' item_last ?N ?m ?v ?_; (case N => k_asm); (case m => k_mem); (case v => exact List.reverse_cons); k_whole)))
local macro_rules | `(tactic| walk_at "call builtin:list.pop") => `(tactic| (k_here; (with_reducible show wpAny _ _ (call (Value.builtin _) [Value.ref _]) _ _ _); k_dflt (refine' pop_led ?F ?N ?U ?v ?b ?_; (case F => k_asm); (case N => k_asm); (case U => k_upd); (case v => exact List.reverse_cons); (case b => ((simp only [List.length_reverse, List.length_cons] at *); omega)); k_whole); intro h' F' N'; (try k_sweep)))
local macro_rules | `(tactic| walk_at "call builtin:list.append") => `(tactic| (k_here; (with_reducible show wpAny _ _ (call (Value.builtin _) [Value.ref _, _]) _ _ _); k_dflt (refine' append_K ?k1 ?k2 ?k3 ?_ ?z; (case k1 => k_asm); (case k2 => k_asm); (case k3 => k_upd); (case z => first | size_fits | exact big_ok (by simp only [List.size_toArray, List.length_reverse, List.length_cons, List.length_append, List.length_nil]; omega)); k_whole); intro h' F' N'; (try k_sweep)))
section
theorem freshWs : True := by (w_top off; trivial)
open PySem PySem.W PySem.Spec PySem.Calls PyProof.Rows
set_option maxRecDepth 100000
set_option maxHeartbeats 4000000
theorem rowS_cps (n : Nat) : (rowS n).cps = (List.replicate n 32 ++ [120]).toArray := rfl
theorem rowS_at {n i k : Nat} (h : (rowS n).cps[i]? = some k) : (i < n ∧ k = 32) ∨ (i = n ∧ k = 120) := by
  rw [rowS_cps] at h
  rw [List.getElem?_toArray, List.getElem?_append] at h
  split at h
  · rename_i q
    rw [List.length_replicate] at q
    rw [List.getElem?_replicate] at h
    split at h
    · exact .inl ⟨q, (Option.some.inj h).symm⟩
    · omega
  · rename_i q
    rw [List.length_replicate] at q h
    cases j : i - n with
    | zero => rw [j] at h; exact .inr ⟨by omega, (Option.some.inj h).symm⟩
    | succ j' => rw [j] at h; cases h
section
theorem ws_does {w : World} {n : Nat} {t : Tok} {news : Led} (hn : n ≤ 1000) :
   Does w 162 [.str (rowS n) t] 2 16 news fun r news' => ∃ tl, news' = tl ++ news ∧ (∀ p ∈ news, ∀ q ∈ tl, p.1 < q.1) ∧ LeadIn w.params tl r n := by
  unfold Does
  k_fill
  intro dp un gd cn cs a ccd cl outer A₀ base h₀ L m s mean mg mb Q E B F X N T hk hd hu hret
  k_steps
  rename Fr _ _ _ _ => lF'
  rename News _ _ _ _ => lN'
  with_unfolding_all refine' for_str0 (σ := Int × Tok × Int × Tok) (fun c => [(Str.ofString "b", .int c.1 c.2.1), (Str.ofString "n", .int c.2.2.1 c.2.2.2)]) [] (fun i c => c.1 = i ∧ c.2.2.1 = i ∧ i ≤ n) (0, _, 0, _) (by rfl) lF' lN' ?kk ?kp ?_ ?_
  case kk => kst_all
  case kp => exact ⟨rfl, rfl, Nat.zero_le _⟩
  · intro i k t' c u h' tk' I oI hi off hP F' N'
    clear lF' lN'
    obtain ⟨c1, c2, c3, c4⟩ := c
    obtain ⟨h1, h2, h3⟩ := hP
    dsimp only at h1 h2 F' N'
    replace off := all_off1 off
    simp only [LCg.Off1] at off
    rcases rowS_at hi with ⟨hi', rfl⟩ | ⟨hi', rfl⟩
    · k_steps
      refine' LStep.intro (_, _, _, _) (by assumption) (by assumption) (fun _ h => h) (off1_all off) ?k1 ?k2 ?k3
      case k1 => kst_all
      case k2 => kst_same
      case k3 => refine ⟨?_, ?_, ?_⟩ <;> (try dsimp only) <;> omega
    · k_steps
      rename Fr _ _ _ _ => eF
      rename News _ _ _ _ => eN
      subst h1 h2 hi'
      refine' hret _ ((_, _) :: (_, _) :: news) _ _ eF ?kN ⟨[(_, _), (_, _)], rfl, ?kL, _, _, _, _, _, _, _, _, _, _, _, _, rfl, List.Mem.head _, List.Mem.tail _ (List.Mem.head _)⟩
      case kN =>
        refine news_cons (eN _ (by k_mem)) (news_cons (eN _ (by k_mem)) fun p hp => eN p ?_)
        kcf_m
      case kL =>
        intro p hp q hq
        have a1 := (‹∀ p ∈ news, p.1 < _› : ∀ p ∈ news, p.1 < _) p hp
        rcases List.mem_cons.mp hq with rfl | hq
        · exact Nat.lt_trans a1 (by assumption)
        · rw [List.mem_singleton.mp hq]; exact a1
  · intro c u h' tk' hP
    obtain ⟨_, _, h3⟩ := hP
    have hs : (rowS n).cps.size = n + 1 := by rw [rowS_cps]; simp
    rw [hs] at h3
    exact absurd h3 (by omega)
end
end
section
theorem freshWor : True := by (w_top off; trivial)
open PySem PySem.W PySem.Spec PySem.Calls PyProof.Rows
set_option maxRecDepth 100000
set_option maxHeartbeats 4000000
local macro_rules | `(tactic| walk_at "pyIter ref") => `(tactic| (k_here; (with_reducible show wpAny _ _ (pyIter (Value.ref _)) (fun it s₂ => TurnsAt _ _ _ _ _ _ _ _ _ it s₂) _ _); (rename Fr _ _ _ _ => lF'); (rename News _ _ _ _ => lN'); (with_unfolding_all refine' pile_sum (by rfl) (by with_reducible assumption) (by exact rfl) lF' lN' ?_ ?_); (all_goals (try clear lF' lN'))))
local macro_rules | `(tactic| walk_at "exec For Tuple Name cons nil") => `(tactic| (k_here; (with_unfolding_all refine' For_turns ?k1 ?_; (case k1 => k_asm); k_whole)))
local macro_rules | `(tactic| walk_at "exec While") => `(tactic| (k_here; (rename Fr _ _ _ _ => lF'); (rename News _ _ _ _ => lN'); (refine' pile_while (by exact rfl) (by exact rfl) (by assumption) (by assumption) lF' lN' ?_ ?_); (all_goals (try clear lF' lN'))))
local macro_rules | `(tactic| walk_at "exec") => `(tactic| (walk_at "exec While"))
theorem worth_does {w : World} {ns : List Nat} {l : Addr} {vs : List Value} {nn : Nat} {news : Led} (hn : ns.length ≤ 1000) (hsum : ns.sum ≤ 100000) (hs : StrsAre vs (ns.map rowS)) (hl : (l, listOf vs.toArray nn) ∈ news) :
   Does w 207 [.ref l] 1 16 news fun r news' => (∃ t, r = .int (worth ns : Int) t) ∧ news' = news := by
  unfold Does
  k_fill
  intro dp un gd cn cs a ccd cl outer A₀ base h₀ L m s mean mg mb Q E B F X' N T hk hd hu hret
  have hvl : vs.length = ns.length := by rw [strs_len hs, List.length_map]
  have hsr : StrsAre vs.reverse (ns.reverse.map rowS) := by rw [List.map_reverse]; exact strs_rev hs
  refine wpAny_call ?_
  first | k_dflt k_enter | fail "enter"
  k_steps
  rename Fr _ _ _ _ => eF
  rename News _ _ _ _ => eN
  with_unfolding_all refine' pile_for [Str.ofString "worth"] (by k_all) hsr (by rfl) eF eN ?_ ?_
  · intro i n t c u h' tk' I oI hi off hP hc hlen hol F' N'
    clear eF eN
    rw [List.length_reverse] at hlen
    have hn1 : n ≤ 100000 := Nat.le_trans (le_sum_of_mem (List.mem_reverse.mp (List.mem_of_getElem? hi))) hsum
    have hn2 : (rowS n).length = n + 1 := rowS_len n
    obtain ⟨tups, rv, P, k⟩ := c
    dsimp only at hP hc hlen hol
    replace off := all_off1 off
    simp only [pileLd, LCg.Off1] at off
    k_steps
    · unfold Hold
      rintro ⟨rv', P', k', w', t'⟩ h₂ tk₂ hp F₂ N₂
      dsimp only at F₂ N₂
      obtain ⟨q1, q2, q3, q4⟩ := hp
      dsimp only at q1 q2 q3 q4
      cases q1 with
      | nil =>
        k_steps
        refine WEx.intro ([], [], k', w', t') (by assumption) (by assumption) (fun p hp => List.mem_cons_of_mem _ hp) (by kst_all) (by (intro z h2 h3; (try simp only [List.forall_mem_cons, List.not_mem_nil, false_implies, implies_true, and_true, ne_eq] at h2); (try simp only [List.contains_cons, List.contains_nil, Bool.or_false, Bool.or_eq_false_iff, beq_eq_false_iff_ne, ne_eq] at h3); (simp only [h2, h3, kstB, if_false, List.contains_cons, List.contains_nil, Bool.or_false, Bool.false_eq_true, if_false]; done))) ⟨⟨.nil, q2, q3, q4⟩, rfl⟩
      | @cons a1 x1 y1 t1 u1 k1 n1 g1 vs1 P1 hm hx hy hr =>
        simp only [List.length_cons] at q4
        k_steps
        · subst hy
          rename Fr _ _ _ _ => eF
          simp only [bitXor_nat] at eF
          have hd1 : deep n (n1, g1) = true := by simp only [deep, decide_eq_true_eq]; omega
          simp only [List.takeWhile_cons, List.dropWhile_cons, hd1, if_true, X] at q2 q3
          refine' WStep.intro (vs1, P1, _, w' ^^^ g1, _) eF (by assumption) (fun p hp => List.mem_cons_of_mem _ hp) ?k1 ?k2 ⟨hr, by rw [← q2, Nat.xor_assoc], q3, by dsimp only; omega⟩ (Nat.lt_succ_self _)
          case k1 => kst_all
          case k2 => (intro z h2 h3; (try simp only [List.forall_mem_cons, List.not_mem_nil, false_implies, implies_true, and_true, ne_eq] at h2); (try simp only [List.contains_cons, List.contains_nil, Bool.or_false, Bool.or_eq_false_iff, beq_eq_false_iff_ne, ne_eq] at h3); (simp only [h2, h3, kstB, if_false, List.contains_cons, List.contains_nil, Bool.or_false, Bool.false_eq_true, if_false]; done))
        · have hd1 : deep n (n1, g1) = false := by simp only [deep, decide_eq_false_iff_not]; omega
          refine WEx.intro (.ref a1 :: vs1, (n1, g1) :: P1, k', w', t') (by assumption) (by assumption) (fun p hp => List.mem_cons_of_mem _ hp) (by kst_all) (by (intro z h2 h3; (try simp only [List.forall_mem_cons, List.not_mem_nil, false_implies, implies_true, and_true, ne_eq] at h2); (try simp only [List.contains_cons, List.contains_nil, Bool.or_false, Bool.or_eq_false_iff, beq_eq_false_iff_ne, ne_eq] at h3); (simp only [h2, h3, kstB, if_false, List.contains_cons, List.contains_nil, Bool.or_false, Bool.false_eq_true, if_false]; done))) ⟨⟨.cons hm hx hy hr, q2, q3, by simpa using q4⟩, ?_⟩
          show List.takeWhile (deep n) ((n1, g1) :: P1) = []
          rw [List.takeWhile_cons, hd1]; rfl
    · unfold Hold
      intro rv' k' t' h₂ tk₂ hp hb F₂ N₂
      k_steps
      refine pile_end (by assumption) (by assumption) (by rw [hn2]; omega) rfl hp hc hi (ne_of_off1 off.2.2) off.1 off.2.1 hol (by omega) (by omega) ?_
      intro z h1 h3
      simp only [List.contains_cons, List.contains_nil, Bool.or_false, beq_eq_false_iff_ne, ne_eq] at h3
      simp only [h1, h3, if_false, List.contains_cons, List.contains_nil, Bool.or_false, beq_eq_false_iff_ne.mpr h3, Bool.false_eq_true]
  · intro c u h' tk' hP hc hlen F' N'
    clear eF eN
    rw [List.length_reverse] at hlen
    rw [List.reverse_reverse] at hc
    obtain ⟨tups, rv, P, k⟩ := c
    dsimp only at hP hc hlen N'
    k_steps
    · unfold Hold
      intro i a x y t u k' g w' tw uu h' tk' I oI hm hy hI F₂ N₂
      k_steps
      subst hy
      rename Fr _ _ _ _ => eF
      simp only [bitXor_nat] at eF
      refine' TStep.intro (w' ^^^ g, _) eF (by assumption) (fun _ h => h) ?k1 ?k2 rfl
      case k1 => kst_all
      case k2 => (intro z h2 h3; (try simp only [List.forall_mem_cons, List.not_mem_nil, false_implies, implies_true, and_true, ne_eq] at h2); (try simp only [List.contains_cons, List.contains_nil, Bool.or_false, Bool.or_eq_false_iff, beq_eq_false_iff_ne, ne_eq] at h3); (simp only [h2, h3.1, h3.2, kstB, if_false, List.contains_cons, List.contains_nil, Bool.or_false, Bool.false_eq_true, beq_eq_false_iff_ne.mpr h3.1, beq_eq_false_iff_ne.mpr h3.2]; done))
    · unfold Hold
      intro tw uu h' tk' F₂ N₂
      k_steps
      subst hc
      exact hret _ news _ _ (by assumption) (fun p hp => (‹News h₀ L _ _› : News h₀ L _ _) p (List.mem_cons_of_mem _ (List.mem_append_right _ hp))) ⟨⟨_, rfl⟩, rfl⟩
end
section
theorem freshTxt : True := by (w_top off; trivial)
open PySem PySem.W PySem.Spec PySem.Calls PyProof.Rows
set_option maxRecDepth 100000
set_option maxHeartbeats 4000000
theorem text_does {w : World} {ns : List Nat} {l : Addr} {vs : List Value} {nn : Nat} {news : Led} (hn : ns.length ≤ 1000) (hsum : ns.sum ≤ 100000) (hs : StrsAre vs (ns.map rowS)) (hl : (l, listOf vs.toArray nn) ∈ news) :
   Does w 188 [.ref l] 1 16 news fun r news' => (∃ t, r = .str (pageS ns) t) ∧ news' = news := by
  unfold Does
  k_fill
  intro dp un gd cn cs a ccd cl outer A₀ base h₀ L m s mean mg mb Q E B F X N T hk hd hu hret
  have hvl : vs.length = ns.length := by rw [strs_len hs, List.length_map]
  refine wpAny_call ?_
  first | k_dflt k_enter | fail "enter"
  k_steps
  refine LCg.CompSrc.ledger (by rfl) (by k_asm) (by k_asm) (by k_mem) (by rw [List.size_toArray]; exact big_ok (by omega)) ?_
  intro g1
  refine comp_strs (fun r => r ++ Str.ofString "\n") hs ?_ ?_
  · intro y t I oI C oC D m₂ ys h tk E' hy hC hx F' N' off ne
    obtain ⟨n, hn', rfl⟩ := List.mem_map.mp hy
    have hn2 : n ≤ ns.sum := le_sum_of_mem hn'
    have hlen : (rowS n).length = n + 1 := rowS_len n
    k_steps
    exact LCg.CompEnd.intro (by assumption) (by assumption) news (fun _ h => h) off (by lcg_src) ⟨rfl, _, rfl⟩
  · intro ys hys
    k_steps
    rename Fr _ _ _ _ => eF
    rename News _ _ _ _ => eN
    obtain ⟨l, rfl, hl2⟩ := strs_values hys
    refine SC.join (News.isList eN (List.mem_cons_self ..)) hl2 (joinOk_of_weight (by rw [rows_weight]; omega) (by decide)) ?_
    intro t' k'
    rw [join_rows]
    k_steps
    exact hret _ news _ _ (by assumption) (fun p hp => (‹News h₀ L _ _› : News h₀ L _ _) p (List.mem_cons_of_mem _ hp)) ⟨⟨_, rfl⟩, rfl⟩
end
local macro_rules | `(tactic| walk_at "subscriptTail Name Slice ref ref") => `(tactic| walk_at "subscriptTail")
local macro_rules | `(tactic| walk_at "enterT") => `(tactic| (refine' code_T ?k1 ?k2 ?k3 ?k4 ?k5 ?D ?kA ?kF ?kK ?k6 ?k7 ?k8 ?k9 ?kB ?_ ?c2 ?c3 ?c4 ?c5; (case kA => exact rfl); (case kF => exact rfl); (case kK => first | exact rfl | assumption); (case k1 => k_asm); (case k2 => k_asm); (case k3 => k_asm); (case k4 => k_asm); (case k5 => k_asm); (case D => assumption); (case k6 => k_is); (case k7 => k_is); (case k8 => k_room); (case k9 => first | exact BindsTo.of_eq rfl | exact binds_K (by k_in) rfl (by k_is) rfl rfl rfl); (case c5 => decide); (case kB => exact locs rfl); (case c2 => exact rfl); (case c3 => exact rfl); (case c4 => exact rfl); k_whole; intro g' L' h' FG' F' N' B' X' T' D'; (try dsimp only); (try k_fold)))
local macro_rules | `(tactic| walk_at "call builtin:str.split") => `(tactic| (k_here; k_dflt (refine' split_rows ?F ?N ?b ?n ?_; (case F => k_asm); (case N => k_asm); (case b => omega); (case n => omega); k_whole); intro D' vs' t' h' k' hS' F' N' l1; (have hSl' := strs_len hS'); (rw [List.length_map] at hSl'); (try k_lt l1); (try k_sweep)))
local macro_rules | `(tactic| walk_at "call ref") => `(tactic| (k_here; (with_reducible show wpAny _ _ (call (Value.ref 207) _) _ _ _); k_dflt (refine' does_use (worth_does ?h1 ?h2 ?h3 ?h4) ?k1 ?k2 ?kX ?k4 ?k5 ?kK ?kd ?ku ?_; (case k1 => k_asm); (case k2 => k_asm); (case kX => k_asm); (case k4 => k_asm); (case k5 => k_asm); (case kK => first | exact rfl | assumption); (case h4 => k_mem); (case h3 => first | with_reducible assumption | exact cut_rows (by with_reducible assumption)); (case h1 => first | omega | exact Nat.le_trans (cut_len _ _ _) (by omega) | exact Nat.le_trans (cut_sum _ _ _) (by omega)); (case h2 => first | omega | exact Nat.le_trans (cut_len _ _ _) (by omega) | exact Nat.le_trans (cut_sum _ _ _) (by omega)); (case kd => k_room); (case ku => k_units); k_whole); intro r9 news9 h9 tk9 F9 N9 P9; obtain ⟨⟨t9, e9⟩, e8⟩ := P9; (rw [e8] at N9); clear e8; subst e9; (try k_sweep); (try dsimp only); (try k_fold)))
local macro_rules | `(tactic| walk_at "call ref") => `(tactic| (k_here; (with_reducible show wpAny _ _ (call (Value.ref 188) _) _ _ _); k_dflt (refine' does_use (text_does ?h1 ?h2 ?h3 ?h4) ?k1 ?k2 ?kX ?k4 ?k5 ?kK ?kd ?ku ?_; (case k1 => k_asm); (case k2 => k_asm); (case kX => k_asm); (case k4 => k_asm); (case k5 => k_asm); (case kK => first | exact rfl | assumption); (case h4 => k_mem); (case h3 => first | with_reducible assumption | exact cut_rows (by with_reducible assumption)); (case h1 => first | omega | exact Nat.le_trans (cut_len _ _ _) (by omega) | exact Nat.le_trans (cut_sum _ _ _) (by omega)); (case h2 => first | omega | exact Nat.le_trans (cut_len _ _ _) (by omega) | exact Nat.le_trans (cut_sum _ _ _) (by omega)); (case kd => k_room); (case ku => k_units); k_whole); intro r9 news9 h9 tk9 F9 N9 P9; obtain ⟨⟨t9, e9⟩, e8⟩ := P9; (rw [e8] at N9); clear e8; subst e9; (try k_sweep); (try dsimp only); (try k_fold)))
section
theorem freshWrd : True := by (w_top off; trivial)
open PySem PySem.W PySem.Spec PySem.Calls PyProof.Rows
set_option maxRecDepth 100000
set_option maxHeartbeats 4000000
set_option linter.all false
/-- the word that a page has earned -/
def wordS (ns : List Nat) : Str := if worth ns = 0 then Str.ofString "lost" else Str.ofString "<page _law_play() failed>"
theorem word_does {w : World} {ns : List Nat} {t : Tok} {news : Led} (hn : ns.length ≤ 1000) (hsum : ns.sum ≤ 100000) :
   Does w 221 [.str (pageS ns) t] 2 24 news fun r news' => (∃ t, r = .str (wordS ns) t) ∧ news' = news := by
  unfold Does
  k_fill
  intro dp un gd cn cs a ccd cl outer A₀ base h₀ L m s mean mg mb Q E B F X' N T hk hd hu hret
  refine wpAny_call ?_
  first | k_dflt k_enter | fail "enter"
  k_steps
  · have hz' : worth ns = 0 := by omega
    refine hret _ news _ _ (by assumption) (fun p hp => (‹News h₀ L _ _› : News h₀ L _ _) p (List.mem_cons_of_mem _ (List.mem_cons_of_mem _ hp))) ⟨⟨_, congrArg (fun z => Value.str z _) (by unfold wordS; rw [if_pos hz'] : Str.ofString "lost" = wordS ns)⟩, rfl⟩
  · have hz' : worth ns ≠ 0 := by omega
    refine hret _ news _ _ (by assumption) (fun p hp => (‹News h₀ L _ _› : News h₀ L _ _) p (List.mem_cons_of_mem _ (List.mem_cons_of_mem _ hp))) ⟨⟨_, congrArg (fun z => Value.str z _) (by unfold wordS; rw [if_neg hz'] : Str.ofString "<page _law_play() failed>" = wordS ns)⟩, rfl⟩
end
local macro_rules | `(tactic| walk_at "binaryOp Add ref ref") => `(tactic| (k_here; k_dflt (refine' cat_led ?F ?N ?a ?b ?c ?_; (case F => k_asm); (case N => k_asm); (case a => k_mem); (case b => k_mem); (case c => (first | omega | ((simp only [List.length_take, List.length_drop, List.length_reverse, List.length_append, List.length_map, List.length_cons, List.length_nil, List.size_toArray]); omega))); k_whole); intro D' h' F' N' l1; (try k_lt l1); (try k_sweep)))
section
theorem freshDue : True := by (w_top off; trivial)
open PySem PySem.W PySem.Spec PySem.Calls PyProof.Rows
set_option maxRecDepth 100000
set_option maxHeartbeats 4000000
set_option linter.all false
/-- where the rows below row k end that lie deeper -/
def stopAt (ns : List Nat) (k : Nat) : Nat := k + 1 + ((ns.drop (k + 1)).takeWhile (fun n => decide (ns.getD k 0 < n))).length
/-- the page that striking row k leaves -/
def cutAt (ns : List Nat) (k : Nat) : List Nat := cut ns k (stopAt ns k)
/-- the first move to a page of worth 0 -/
def firstZero (ns : List Nat) : Option Nat := (List.range ns.length).find? fun k => decide (worth (cutAt ns k) = 0)
abbrev whileS := Nat × Tok
abbrev whileN (c : whileS) : List (Str × Value) := [(Str.ofString "stop", .int (c.1 : Int) c.2)]
def whileP (ns : List Nat) (k : Nat) (c : whileS) : Prop := k + 1 ≤ c.1 ∧ c.1 ≤ ns.length ∧ c.1 + ((ns.drop c.1).takeWhile (fun n => decide (ns.getD k 0 < n))).length = stopAt ns k
def whileStop (ns : List Nat) (k : Nat) (c : whileS) : Prop := ((ns.drop c.1).takeWhile (fun n => decide (ns.getD k 0 < n))) = []
section
variable {prog : Program} {w : World} {A : Around} {E : Value → Shared → Prop} {s : Shared} {env : Env} {h₀ : Heap} {L : Addr} {test : Expr} {body : List Stmt} {pos : Pos} {Q : Flow → Shared → Prop}
/-- the while that seeks where the deeper rows end -/
theorem stop_while {ns : List Nat} {k : Nat} {t₀ : Tok} {m₀ : Str → Option Value} {news : Led} (hk : k < ns.length) (hw : m₀ (Str.ofString "stop") = some (.int ((k : Int) + 1) t₀)) (F : Fr h₀ L s.heap m₀) (N : News h₀ L s.heap news)
    (turn : Hold (∀ (c : whileS) h tk, whileP ns k c → Fr h₀ L h (fun z => if z = Str.ofString "stop" then some (.int (c.1 : Int) c.2) else m₀ z) → News h₀ L h news →
      wpAny (model prog w) A (isTrue test env (eval test env)) (fun b' s₂ =>
        if b' = true then wpAny (model prog w) A (execs body env) (WStep h₀ L s (fun _ => news) whileN [] m₀ (whileP ns k) (fun c => ns.length - c.1) c) E s₂ else WEx h₀ L s (fun _ => news) whileN [] m₀ (fun c' => whileP ns k c' ∧ whileStop ns k c') s₂) E { s with heap := h, toks := tk }))
    (done : Hold (∀ (t : Tok) h tk, Fr h₀ L h (fun z => if z = Str.ofString "stop" then some (.int (stopAt ns k : Int) t) else m₀ z) → News h₀ L h news → Q .next { s with heap := h, toks := tk }))
    (hE : PassesOwn (model prog w) A env E := by passes_own) :
    wpAny (model prog w) A (exec (.While test body [] pos) env) Q E s := by
  refine while_ex (fun _ => news) whileN [] (whileP ns k) (whileStop ns k) (fun c => ns.length - c.1) (k + 1, t₀) F N (fun p hp => ?_) ⟨Nat.le_refl _, hk, rfl⟩ ?_ ?_ hE
  · rw [List.mem_singleton.mp hp]
    rw [hw]
    have : ((k : Int) + 1) = ((k + 1 : Nat) : Int) := by omega
    rw [this]
  · intro c u h tk hp F₁ N₁
    refine turn c h tk hp ?_ N₁
    simpa [kstB] using F₁
  · rintro ⟨c1, c2⟩ u h tk ⟨h1, h2, h3⟩ hs F₁ N₁
    unfold whileStop at hs
    dsimp only at hs h1 h2 h3
    rw [hs] at h3
    simp only [List.length_nil, Nat.add_zero] at h3
    subst h3
    refine done c2 h tk ?_ N₁
    simpa [kstB] using F₁
end
local macro_rules | `(tactic| walk_at "exec While") => `(tactic| (k_here; (rename Fr _ _ _ _ => lF'); (rename News _ _ _ _ => lN'); (refine' stop_while (by with_reducible assumption) (by exact rfl) lF' lN' ?_ ?_); (all_goals (try clear lF' lN'))))
local macro_rules | `(tactic| walk_at "exec") => `(tactic| (walk_at "exec While"))
section
variable {prog : Program} {w : World} {A : Around} {E : Value → Shared → Prop} {s : Shared} {h₀ : Heap}
/-- a for over range(n), the ledger held -/
theorem range_for {env : Env} {body : List Stmt} {x : Str} {Q : Flow → Shared → Prop} {r : Addr} {b₀ : Int} {t₀ u₀ v₀ : Tok} {n : Nat} {m₀ : Str → Option Value} {news : Led} (stored : List Str) (P : Nat → Prop)
    (hh : A.handled = none) (hr : IsRange s.heap r 0 b₀ 1 t₀ u₀ v₀) (hb : b₀ = (n : Int)) (hs : n ≤ 1000) (F : Fr h₀ env.locals s.heap m₀) (N : News h₀ env.locals s.heap news) (hp : P 0)
    (turn : Hold (∀ (i : Nat) t (u : Str → Option Value) h tk I oI, i < n → (∀ p ∈ news, p.1 ≠ I) → P i → Fr h₀ env.locals h (fun y => if y = x then some (.int (i : Int) t) else if stored.contains y then u y else m₀ y) → News h₀ env.locals h ((I, oI) :: news) →
      wpAny (model prog w) A (execs body env) (LStep h₀ env.locals (fun _ => news) (fun _ => []) x stored m₀ (fun _ : Unit => P (i + 1)) I oI { s with heap := h, toks := tk } Q) E { s with heap := h, toks := tk }))
    (done : Hold (∀ (u : Str → Option Value) h tk, P n → Fr h₀ env.locals h (fun y => if y = x then u y else if stored.contains y then u y else m₀ y) → News h₀ env.locals h news → Q .next { s with heap := h, toks := tk })) :
    wpAny (model prog w) A (pyIter (.ref r)) (fun it s₂ => LoopAtV prog w A h₀ env x body Q E it s₂) E s := by
  subst hb
  refine for_range0 (σ := Unit) (fun _ => []) stored (fun i _ => P i) () hh hr (small_one (by omega) (by omega) (by omega) (by omega)) (rangeSize_nat _ _) F N (fun _ h => nomatch h) hp ?_ ?_
  · intro i t c u h tk I oI hi off hP F₁ N₁
    refine turn i t u h tk I oI hi off hP ?_ N₁
    simpa [kstB] using F₁
  · intro c u h tk hP F₁ N₁
    refine done u h tk hP ?_ N₁
    simpa [kstB] using F₁
end
theorem news_keep {h₀ h : Heap} {L : Addr} {x : Addr × Obj} {mid news : Led} (N : News h₀ L h (x :: mid)) (hs : ∀ p ∈ news, p ∈ mid) : News h₀ L h (x :: news) :=
  fun p hp => N p ((List.mem_cons.mp hp).elim (fun e => e ▸ List.mem_cons_self ..) fun h => List.mem_cons_of_mem _ (hs p h))
theorem hold_up {P : Prop} (h : Hold P) : P := h
local macro_rules | `(tactic| walk_at "pyIter ref") => `(tactic| (k_here; refine hold_up ?_))
local macro_rules | `(tactic| walk_at "exec While") => `(tactic| (k_here; refine hold_up ?_))
/-- the outcome that plain counting tells -/
def DueIs (ns : List Nat) (n : Int) (p l : Str) : Prop :=
  (worth ns = 0 ∧ n = 0 ∧ p = Str.ofString "lost" ∧ l = Str.ofString "") ∨
  (worth ns ≠ 0 ∧ ∃ k nk, ns[k]? = some nk ∧ worth (cutAt ns k) = 0 ∧ (∀ j, j < k → worth (cutAt ns j) ≠ 0) ∧ n = (k : Int) + 1 ∧ p = pageS (cutAt ns k) ∧ l = rowS nk)
theorem due_does {w : World} {ns : List Nat} {l : Addr} {vs : List Value} {nn : Nat} {news : Led} (hwin : worth ns ≠ 0 → ∃ k, k < ns.length ∧ worth (cutAt ns k) = 0) (hn : ns.length ≤ 100) (hsum : ns.sum ≤ 10000) (hs : StrsAre vs (ns.map rowS)) (hl : (l, listOf vs.toArray nn) ∈ news) :
   Does w 214 [.ref l] 2 24 news fun r news' => ∃ a n p q t₁ t₂ t₃, r = .ref a ∧ (∀ x ∈ news, x.1 < a) ∧ news' = (a, ({ cls := .type "tuple", data := .seq #[.int n t₁, .str p t₂, .str q t₃] } : Obj)) :: news ∧ DueIs ns n p q := by
  unfold Does
  k_fill
  intro dp un gd cn cs a ccd cl outer A₀ base h₀ L m s mean mg mb Q E B F X' N T hk hd hu hret
  have hvl : vs.length = ns.length := by rw [strs_len hs, List.length_map]
  have fin : ∀ (a : Addr) (n : Int) (p q : Str) t₁ t₂ t₃ h' tk', Fr h₀ L h' m → News h₀ L h' ((a, ({ cls := .type "tuple", data := .seq #[.int n t₁, .str p t₂, .str q t₃] } : Obj)) :: news) → (∀ x ∈ news, x.1 < a) → DueIs ns n p q → Q (.ref a) { s with heap := h', toks := tk' } :=
    fun a n p q t₁ t₂ t₃ h' tk' F' N' hl hd => hret _ _ _ _ F' N' ⟨a, n, p, q, t₁, t₂, t₃, rfl, hl, rfl, hd⟩
  refine wpAny_call ?_
  first | k_dflt k_enter | fail "enter"
  k_steps
  rotate_left
  · unfold Hold
    rename Fr _ _ _ _ => eF
    rename News _ _ _ _ => eN
    rename IsRange _ _ _ _ _ _ _ _ => rgX
    with_unfolding_all refine' range_for [Str.ofString "stop"] (fun i => ∀ j, j < i → worth (cutAt ns j) ≠ 0) (by rfl) rgX (congrArg Int.ofNat hvl) (by omega) eF eN (fun j h => absurd h (Nat.not_lt_zero j)) ?_ ?_
    · unfold Hold
      intro k t u h' tk' I oI hk off hP F' N'
      clear eF eN rgX
      have off1 := all_off1 off
      obtain ⟨nk, hnk⟩ : ∃ nk, ns[k]? = some nk := ⟨_, List.getElem?_eq_getElem hk⟩
      obtain ⟨tkk, hxk⟩ := strs_at hs (by rw [List.getElem?_map, hnk]; rfl : (ns.map rowS)[k]? = some (rowS nk))
      have hrk := rowS_len nk
      have hnb : nk ≤ 10000 := Nat.le_trans (le_sum_of_mem (List.mem_of_getElem? hnk)) hsum
      have hg : ns.getD k 0 = nk := by rw [List.getD_eq_getElem?_getD, hnk]; rfl
      k_steps
      unfold Hold
      rename Fr _ _ _ _ => eF
      rename News _ _ _ _ => eN
      refine' stop_while hk (by rfl) eF eN ?_ ?_
      · unfold Hold
        rintro ⟨st, tst⟩ h₂ tk₂ ⟨q1, q2, q3⟩ F₂ N₂
        clear eF eN F' N'
        dsimp only at q1 q2 q3 F₂ N₂
        by_cases hst : st < ns.length
        · obtain ⟨n2, hn2⟩ : ∃ nk, ns[st]? = some nk := ⟨_, List.getElem?_eq_getElem hst⟩
          obtain ⟨tkk2, hxk2⟩ := strs_at hs (by rw [List.getElem?_map, hn2]; rfl : (ns.map rowS)[st]? = some (rowS n2))
          have hrk2 := rowS_len n2
          have hnb2 : n2 ≤ 10000 := Nat.le_trans (le_sum_of_mem (List.mem_of_getElem? hn2)) hsum
          have hdr : ns.drop st = n2 :: ns.drop (st + 1) := by rw [List.drop_eq_getElem_cons hst]; rw [List.getElem?_eq_getElem hst] at hn2; rw [Option.some.inj hn2]
          have hq : n2 ≤ nk → (ns.drop st).takeWhile (fun n => decide (ns.getD k 0 < n)) = [] := by
            intro h
            rw [hdr, List.takeWhile_cons, hg]
            simp [Nat.not_lt.mpr h]
          have hq' : nk < n2 → (ns.drop st).takeWhile (fun n => decide (ns.getD k 0 < n)) = n2 :: (ns.drop (st + 1)).takeWhile (fun n => decide (ns.getD k 0 < n)) := by
            intro h
            rw [hdr, List.takeWhile_cons, hg]
            simp [h]
          k_steps
          · have hq2 := hq' (by omega)
            rename Fr _ _ _ _ => eF
            rw [hq2, List.length_cons] at q3
            refine' WStep.intro (st + 1, _) eF (by assumption) (fun p hp => hp) ?k1 ?k2 ⟨by dsimp only; omega, hst, by dsimp only; omega⟩ (by dsimp only; omega)
            case k1 => kst_all
            case k2 => (intro z h2 h3; (try simp only [List.forall_mem_cons, List.not_mem_nil, false_implies, implies_true, and_true, ne_eq] at h2); (try simp only [List.contains_cons, List.contains_nil, Bool.or_false, Bool.or_eq_false_iff, beq_eq_false_iff_ne, ne_eq] at h3); (simp only [h2, h3, kstB, if_false, List.contains_cons, List.contains_nil, Bool.or_false, Bool.false_eq_true, if_false]; done))
          · have hq2 := hq (by omega)
            refine WEx.intro (st, tst) (by assumption) (by assumption) (fun p hp => hp) (by kst_all) (by (intro z h2 h3; (try simp only [List.forall_mem_cons, List.not_mem_nil, false_implies, implies_true, and_true, ne_eq] at h2); (try simp only [List.contains_cons, List.contains_nil, Bool.or_false, Bool.or_eq_false_iff, beq_eq_false_iff_ne, ne_eq] at h3); (simp only [h2, h3, kstB, if_false, List.contains_cons, List.contains_nil, Bool.or_false, Bool.false_eq_true, if_false]; done))) ⟨⟨q1, q2, q3⟩, hq2⟩
        · have hq2 : (ns.drop st).takeWhile (fun n => decide (ns.getD k 0 < n)) = [] := by
            rw [List.drop_eq_nil_of_le (by omega)]; rfl
          k_steps
          refine WEx.intro (st, tst) (by assumption) (by assumption) (fun p hp => hp) (by kst_all) (by (intro z h2 h3; (try simp only [List.forall_mem_cons, List.not_mem_nil, false_implies, implies_true, and_true, ne_eq] at h2); (try simp only [List.contains_cons, List.contains_nil, Bool.or_false, Bool.or_eq_false_iff, beq_eq_false_iff_ne, ne_eq] at h3); (simp only [h2, h3, kstB, if_false, List.contains_cons, List.contains_nil, Bool.or_false, Bool.false_eq_true, if_false]; done))) ⟨⟨q1, q2, q3⟩, hq2⟩
      · unfold Hold
        intro tst h₂ tk₂ F₂ N₂
        clear eF eN F' N'
        k_steps
        · rename News _ _ _ _ => eN
          rename _ = (0 : Int) => hz
          rename _ ∧ _ => l9
          refine fin _ _ _ _ _ _ _ _ _ (by assumption) (news_keep eN ?_) (tb_ltOf l9.2.2.2.2.2.2.2) (.inr ⟨by omega, k, nk, hnk, Int.ofNat_inj.mp hz, hP, rfl, rfl, rfl⟩)
          intro p hp
          simp only [List.mem_cons]
          simp [hp]
        · rename _ ≠ (0 : Int) => hz
          refine' LStep.intro () (by assumption) (by assumption) ?k0 off ?k1 ?k2 ?k3
          case k0 => intro p hp; simp only [List.mem_cons] at hp ⊢; rcases hp with h | h <;> simp [h]
          case k1 => exact fun _ h => nomatch h
          case k2 => kst_same
          case k3 =>
            intro j hj
            rcases Nat.lt_succ_iff_lt_or_eq.mp hj with h | h
            · exact hP j h
            · subst h; exact fun e => hz (congrArg Int.ofNat e)
    · unfold Hold
      intro u h' tk' hP F' N'
      exfalso
      obtain ⟨j, hj, e⟩ := hwin (by omega)
      exact hP j hj e
  · refine fin _ _ _ _ _ _ _ _ _ (by assumption) (by assumption) (by assumption) (.inl ⟨by omega, rfl, rfl, rfl⟩)
end
section
theorem freshTurnFor : True := by (w_top off; trivial)
open PySem PySem.W PySem.Spec PySem.Calls PyProof.Rows
set_option maxRecDepth 100000
set_option linter.all false
/-- the frames' objects as they lie in g -/
def frsOf (fs : List Addr) (g : Heap) : Led := fs.filterMap fun b => (g.get? b).map fun o => (b, o)
theorem mem_frsOf {fs : List Addr} {g : Heap} {p : Addr × Obj} : p ∈ frsOf fs g ↔ p.1 ∈ fs ∧ g.get? p.1 = some p.2 := by
  unfold frsOf
  rw [List.mem_filterMap]
  constructor
  · rintro ⟨b, hb, e⟩
    obtain ⟨o, ho, rfl⟩ := Option.map_eq_some_iff.mp e
    exact ⟨hb, ho⟩
  · rintro ⟨hb, ho⟩
    exact ⟨p.1, hb, by rw [ho]; rfl⟩
section
variable {fs : List Addr} {h₀ g h : Heap} {L : Addr} {m : Str → Option Value} {news : Led}
theorem turn_back (T : KtsTurn fs h₀ g) {b : Addr} {o : Obj} (e : g.get? b = some o) (hb : b ∉ fs) : h₀.get? b = some o := by
  cases q : h₀.get? b with
  | none => rw [T.none_ b q] at e; cases e
  | some o' => rw [T.other b o' q hb] at e; exact e
/-- down: the frames hidden and put into the ledger -/
theorem hide_Fr (T : KtsTurn fs h₀ g) (F : Fr g L h m) : Fr (hideAll h₀ fs) L h m :=
  ⟨F.ns, fun b o e => by
    by_cases hb : b ∈ fs
    · rw [hideAll_none _ hb] at e; cases e
    · exact F.keep b o (T.other b o (of_hideAll _ e) hb), by rw [hideAll_size, ← T.size]; exact F.above⟩
theorem hide_News (T : KtsTurn fs h₀ g) (F : Fr g L h m) (N : News g L h news) : News (hideAll h₀ fs) L h (frsOf fs g ++ news) := fun p hp => by
  rcases List.mem_append.mp hp with hp | hp
  · obtain ⟨h1, h2⟩ := mem_frsOf.mp hp
    refine ⟨F.keep _ _ h2, fun q => ?_, hideAll_none _ h1⟩
    rw [q, kts_self F] at h2; cases h2
  · have Np := N p hp
    refine ⟨Np.1, Np.2.1, ?_⟩
    cases q : (hideAll h₀ fs).get? p.1 with
    | none => rfl
    | some o =>
      have q' := of_hideAll _ q
      obtain ⟨sl, hs⟩ := T.up q'
      rw [Np.2.2] at hs; cases hs
/-- up again -/
theorem show_Fr (T : KtsTurn fs h₀ g) (F : Fr (hideAll h₀ fs) L h m) (N : News (hideAll h₀ fs) L h (frsOf fs g ++ news)) : Fr g L h m :=
  ⟨F.ns, fun b o e => by
    by_cases hb : b ∈ fs
    · exact (N (b, o) (List.mem_append_left _ (mem_frsOf.mpr ⟨hb, e⟩))).1
    · exact F.keep b o (hideAll_get _ (turn_back T e hb) hb), by have := F.above; rw [hideAll_size, ← T.size] at this; exact this⟩
theorem show_News (T : KtsTurn fs h₀ g) (N : News (hideAll h₀ fs) L h (frsOf fs g ++ news)) (hn : ∀ p ∈ news, p.1 ∉ fs) : News g L h news := fun p hp => by
  have Np := N p (List.mem_append_right _ hp)
  refine ⟨Np.1, Np.2.1, ?_⟩
  refine T.none_ _ ?_
  cases q : h₀.get? p.1 with
  | none => rfl
  | some o => have z := Np.2.2; rw [hideAll_get _ q (hn p hp)] at z; cases z
theorem off_fs (D : KtsDicts fs h₀) (T : KtsTurn fs h₀ g) (N : News g L h news) : ∀ p ∈ news, p.1 ∉ fs := fun p hp hb => by
  obtain ⟨o, es, n, ho, _⟩ := D _ hb
  obtain ⟨sl, hs⟩ := T.up ho
  rw [(N p hp).2.2] at hs; cases hs
end
/-- what a turn of a for leaves behind, over a ground that turns -/
def LStepT {τ : Type} (fs : List Addr) (h₀ : Heap) (L : Addr) (Ld : τ → Led) (x : Str) (stored : List Str) (m₀ : Str → Option Value) (P : τ → Prop) (I : Addr) (oI : Obj) (s₁ : Shared) (Q : Flow → Shared → Prop) (f : Flow) (s₂ : Shared) : Prop :=
  match f with
  | .ret v => Q (.ret v) s₂
  | .brk => Q .next s₂
  | _ => ∃ c g' h' tk m', s₂ = { s₁ with heap := h', toks := tk } ∧ KtsTurn fs h₀ g' ∧ Fr g' L h' m' ∧ News g' L h' ((I, oI) :: Ld c) ∧ (∀ p ∈ Ld c, p.1 ≠ I) ∧ (∀ z, z ≠ x → stored.contains z = false → m' z = m₀ z) ∧ P c
section
variable {prog : Program} {w : World} {A : Around} {E : Value → Shared → Prop} {s : Shared} {h₀ : Heap} {env : Env} {body : List Stmt} {x : Str} {Q : Flow → Shared → Prop} {fs : List Addr}
theorem LStepT.intro {τ : Type} {L I : Addr} {Ld : τ → Led} {stored : List Str} {m₀ m' : Str → Option Value} {P : τ → Prop} {oI : Obj} {s₁ : Shared} {all : Led} {h' g' : Heap} {tk : Nat} (c : τ) (T : KtsTurn fs h₀ g') (F : Fr g' L h' m') (N : News g' L h' all) (hs : ∀ p ∈ (I, oI) :: Ld c, p ∈ all) (off : ∀ p ∈ Ld c, p.1 ≠ I)
    (hr : ∀ z, z ≠ x → stored.contains z = false → m' z = m₀ z) (hp : P c) : LStepT fs h₀ L Ld x stored m₀ P I oI s₁ Q .next { s₁ with heap := h', toks := tk } :=
  ⟨c, g', h', tk, m', rfl, T, F, fun p hp => N p (hs p hp), off, hr, hp⟩
theorem rangeT_for {τ : Type} {g₀ : Heap} {r : Addr} {b₀ : Int} {t₀ u₀ v₀ : Tok} {n : Nat} {m₀ : Str → Option Value} (Ld : τ → Led) (stored : List Str) (P : Nat → τ → Prop) (c₀ : τ) (D : KtsDicts fs h₀)
    (hh : A.handled = none) (hr : IsRange s.heap r 0 b₀ 1 t₀ u₀ v₀) (hb : b₀ = (n : Int)) (hs : n ≤ 1000) (T : KtsTurn fs h₀ g₀) (F : Fr g₀ env.locals s.heap m₀) (N : News g₀ env.locals s.heap (Ld c₀)) (hp : P 0 c₀)
    (turn : Hold (∀ (i : Nat) t c g (u : Str → Option Value) h tk I oI, i < n → KtsTurn fs h₀ g → (∀ p ∈ Ld c, p.1 ≠ I) → P i c → Fr g env.locals h (fun y => if y = x then some (.int (i : Int) t) else if stored.contains y then u y else m₀ y) → News g env.locals h ((I, oI) :: Ld c) →
      wpAny (model prog w) A (execs body env) (LStepT fs h₀ env.locals Ld x stored m₀ (P (i + 1)) I oI { s with heap := h, toks := tk } Q) E { s with heap := h, toks := tk }))
    (done : Hold (∀ c g (u : Str → Option Value) h tk, KtsTurn fs h₀ g → P n c → Fr g env.locals h (fun y => if y = x then u y else if stored.contains y then u y else m₀ y) → News g env.locals h (Ld c) → Q .next { s with heap := h, toks := tk })) :
    wpAny (model prog w) A (pyIter (.ref r)) (fun it s₂ => LoopAtV prog w A (hideAll h₀ fs) env x body Q E it s₂) E s := by
  subst hb
  refine for_range (h₀ := hideAll h₀ fs) (σ := τ × Heap) (fun c => frsOf fs c.2 ++ Ld c.1) (fun _ => []) stored (fun i c => KtsTurn fs h₀ c.2 ∧ (∀ p ∈ Ld c.1, p.1 ∉ fs) ∧ P i c.1) (c₀, g₀) hh hr (small_one (by omega) (by omega) (by omega) (by omega)) (rangeSize_nat _ _) (hide_Fr T F) (hide_News T F N) (fun _ h => nomatch h) ⟨T, off_fs D T N, hp⟩ ?_ ?_
  · rintro i t ⟨c, g⟩ u h tk I oI hi off ⟨T₁, o₁, hP⟩ F₁ N₁
    dsimp only at off T₁ o₁ hP N₁
    have hI : I ∉ fs := fun q => by
      obtain ⟨o, es, n', ho, _⟩ := D _ q
      obtain ⟨sl, hs⟩ := T₁.up ho
      exact off (I, _) (List.mem_append_left _ (mem_frsOf.mpr ⟨q, hs⟩)) rfl
    have N₂ : News (hideAll h₀ fs) env.locals h (frsOf fs g ++ (I, oI) :: Ld c) := fun p hp => N₁ p (by
      simp only [List.mem_append, List.mem_cons] at hp ⊢
      rcases hp with h | h | h <;> simp [h])
    have F₂ := show_Fr T₁ F₁ (news := (I, oI) :: Ld c) N₂
    have N₃ := show_News (news := (I, oI) :: Ld c) T₁ N₂ (fun p hp => by
      rcases List.mem_cons.mp hp with h | h
      · rw [h]; exact hI
      · exact o₁ p h)
    refine wpAny_mono (turn i t c g u h tk I oI hi T₁ (fun p hp => off p (List.mem_append_right _ hp)) hP (by simpa [kstB] using F₂) N₃) (fun f s₂ q => ?_) fun _ _ e => e
    have key : ∀ {f' : Flow}, f' = .next ∨ f' = .cont → LStepT fs h₀ env.locals Ld x stored m₀ (P (i + 1)) I oI { s with heap := h, toks := tk } Q f' s₂ →
        LStep (hideAll h₀ fs) env.locals (fun c : τ × Heap => frsOf fs c.2 ++ Ld c.1) (fun _ => []) x stored m₀ (fun c => KtsTurn fs h₀ c.2 ∧ (∀ p ∈ Ld c.1, p.1 ∉ fs) ∧ P (i + 1) c.1) I oI { s with heap := h, toks := tk } Q f' s₂ := by
      intro f' hf' q
      have q' : ∃ c g' h' tk' m', s₂ = { s with heap := h', toks := tk' } ∧ KtsTurn fs h₀ g' ∧ Fr g' env.locals h' m' ∧ News g' env.locals h' ((I, oI) :: Ld c) ∧ (∀ p ∈ Ld c, p.1 ≠ I) ∧ (∀ z, z ≠ x → stored.contains z = false → m' z = m₀ z) ∧ P (i + 1) c := by
        rcases hf' with rfl | rfl <;> exact q
      obtain ⟨c', g', h', tk', m', rfl, T', F', N', off', k1, hp'⟩ := q'
      have Nh := hide_News T' F' N'
      have offI : ∀ p ∈ frsOf fs g' ++ Ld c', p.1 ≠ I := fun p hp => by
        rcases List.mem_append.mp hp with h | h
        · intro e
          have := (mem_frsOf.mp h).2
          rw [e, (N' (I, oI) (List.mem_cons_self ..)).2.2] at this; cases this
        · exact off' p h
      have fin : LStep (hideAll h₀ fs) env.locals (fun c : τ × Heap => frsOf fs c.2 ++ Ld c.1) (fun _ => []) x stored m₀ (fun c => KtsTurn fs h₀ c.2 ∧ (∀ p ∈ Ld c.1, p.1 ∉ fs) ∧ P (i + 1) c.1) I oI { s with heap := h, toks := tk } Q .next { s with heap := h', toks := tk' } :=
        LStep.intro (c', g') (hide_Fr T' F') Nh (fun p hp => by
          simp only [List.mem_append, List.mem_cons] at hp ⊢
          rcases hp with h | h | h <;> simp [h]) offI (fun _ h => nomatch h) (fun z h1 _ h3 => k1 z h1 h3) ⟨T', fun p hp => off_fs D T' N' p (List.mem_cons_of_mem _ hp), hp'⟩
      rcases hf' with rfl | rfl <;> exact fin
    cases f with
    | ret v => exact q
    | brk => exact q
    | next => exact key (.inl rfl) q
    | cont => exact key (.inr rfl) q
  · rintro ⟨c, g⟩ u h tk ⟨T₁, o₁, hP⟩ F₁ N₁
    dsimp only at T₁ o₁ hP N₁
    exact done c g u h tk T₁ hP (by simpa [kstB] using show_Fr T₁ F₁ N₁) (show_News T₁ N₁ o₁)
end
end
section
theorem freshPureH : True := by (w_top off; trivial)
/-- the head lies no deeper than n -/
def HeadLe (n : Nat) (R : List Nat) : Prop := ∀ m, R.head? = some m → m ≤ n
theorem tw_app {α : Type} {p : α → Bool} : ∀ {A B : List α}, (∀ a ∈ A, p a = true) → (A ++ B).takeWhile p = A ++ B.takeWhile p
  | [], _, _ => rfl
  | a :: A, B, h => by
    rw [List.cons_append, List.takeWhile_cons, h a (List.mem_cons_self ..), tw_app fun b hb => h b (List.mem_cons_of_mem _ hb)]; rfl
theorem dw_app {α : Type} {p : α → Bool} : ∀ {A B : List α}, (∀ a ∈ A, p a = true) → (A ++ B).dropWhile p = B.dropWhile p
  | [], _, _ => rfl
  | a :: A, B, h => by
    rw [List.cons_append, List.dropWhile_cons, h a (List.mem_cons_self ..), if_pos rfl, dw_app fun b hb => h b (List.mem_cons_of_mem _ hb)]
theorem dw_app2 {α : Type} {p : α → Bool} {B : List α} (hB : B.dropWhile p = B) : ∀ {A : List α}, (A ++ B).dropWhile p = A.dropWhile p ++ B
  | [] => hB
  | a :: A => by
    rw [List.cons_append, List.dropWhile_cons, List.dropWhile_cons]
    split
    · exact dw_app2 hB
    · rfl
theorem tw_app2 {α : Type} {p : α → Bool} {B : List α} (hB : B.takeWhile p = []) : ∀ {A : List α}, (A ++ B).takeWhile p = A.takeWhile p
  | [] => hB
  | a :: A => by
    rw [List.cons_append, List.takeWhile_cons, List.takeWhile_cons]
    split
    · rw [tw_app2 hB]
    · rfl
abbrev below (n : Nat) : Nat → Bool := fun m => decide (n < m)
theorem HeadLe.dw {n : Nat} {R : List Nat} (h : HeadLe n R) : R.dropWhile (below n) = R := by
  cases R with
  | nil => rfl
  | cons m r =>
    have := h m rfl
    rw [List.dropWhile_cons, if_neg (by simp; omega)]
theorem HeadLe.tw {n : Nat} {R : List Nat} (h : HeadLe n R) : R.takeWhile (below n) = [] := by
  cases R with
  | nil => rfl
  | cons m r =>
    have := h m rfl
    rw [List.takeWhile_cons, if_neg (by simp; omega)]
theorem HeadLe.mono {n k : Nat} {R : List Nat} (h : HeadLe n R) (hk : n ≤ k) : HeadLe k R := fun m hm => Nat.le_trans (h m hm) hk
theorem headLe_dw (n : Nat) : ∀ r : List Nat, HeadLe n (r.dropWhile (below n))
  | [] => fun m h => by simp at h
  | a :: r => by
    rw [List.dropWhile_cons]
    split
    · exact headLe_dw n r
    · rename_i q
      intro m hm
      obtain rfl : a = m := by simpa using hm
      simp at q; omega
theorem tw_all (n : Nat) : ∀ r : List Nat, ∀ t ∈ r.takeWhile (below n), n < t
  | [], t, h => by simp at h
  | a :: r, t, h => by
    rw [List.takeWhile_cons] at h
    split at h
    · rename_i q
      rcases List.mem_cons.mp h with rfl | h
      · simpa using q
      · exact tw_all n r t h
    · simp at h
theorem pile_append : ∀ (T R : List Nat), (∀ t ∈ T, HeadLe t R) → pile (T ++ R) = pile T ++ pile R
  | [], _, _ => rfl
  | t :: T, R, h => by
    have ih := pile_append T R fun t ht => h t (List.mem_cons_of_mem _ ht)
    have hR := h t (List.mem_cons_self ..)
    have e1 : (pile R).takeWhile (deep t) = [] := by
      cases R with
      | nil => rfl
      | cons m r =>
        have := hR m rfl
        show (pushP m (pile r)).takeWhile _ = []
        rw [pushP, List.takeWhile_cons, if_neg (by simp [deep]; omega)]
    have e2 : (pile R).dropWhile (deep t) = pile R := by
      have := List.takeWhile_append_dropWhile (p := deep t) (l := pile R)
      rw [e1] at this; simpa using this
    show pushP t (pile (T ++ R)) = pushP t (pile T) ++ pile R
    rw [ih, pushP, pushP, tw_app2 e1, dw_app2 e2]; rfl
theorem pile_deep {n : Nat} : ∀ {T : List Nat}, (∀ t ∈ T, n < t) → ∀ p ∈ pile T, n < p.1
  | [], _, p, hp => by simp [pile] at hp
  | t :: T, h, p, hp => by
    rw [pile, pushP] at hp
    rcases List.mem_cons.mp hp with rfl | hp
    · exact h t (List.mem_cons_self ..)
    · exact pile_deep (fun t ht => h t (List.mem_cons_of_mem _ ht)) p ((List.dropWhile_sublist _).subset hp)
theorem worth_node {n : Nat} {T R : List Nat} (hT : ∀ t ∈ T, n < t) (hR : HeadLe n R) : worth (n :: (T ++ R)) = (worth T + 1) ^^^ worth R := by
  have e : pile (T ++ R) = pile T ++ pile R := pile_append T R fun t ht => hR.mono (Nat.le_of_lt (hT t ht))
  have hd : ∀ p ∈ pile T, deep n p = true := fun p hp => by simpa [deep] using pile_deep hT p hp
  have e1 : (pile R).takeWhile (deep n) = [] := by
    cases R with
    | nil => rfl
    | cons m r =>
      have := hR m rfl
      show (pushP m (pile r)).takeWhile _ = []
      rw [pushP, List.takeWhile_cons, if_neg (by simp [deep]; omega)]
  have e2 : (pile R).dropWhile (deep n) = pile R := by
    have := List.takeWhile_append_dropWhile (p := deep n) (l := pile R)
    rw [e1] at this; simpa using this
  unfold worth
  rw [pile, e, pushP, tw_app hd, dw_app hd, e1, e2, List.append_nil]
  rfl
theorem drop_tw {α : Type} {p : α → Bool} : ∀ l : List α, l.drop (l.takeWhile p).length = l.dropWhile p
  | [] => rfl
  | a :: l => by
    rw [List.takeWhile_cons, List.dropWhile_cons]
    split
    · rw [List.length_cons, List.drop_succ_cons, drop_tw]
    · rfl
theorem cutAt_zero (n : Nat) (r : List Nat) : cutAt (n :: r) 0 = r.dropWhile (below n) := by
  unfold cutAt cut stopAt
  rw [List.take_zero, List.nil_append, show (0 + 1 + (List.takeWhile (fun m => decide ((n :: r).getD 0 0 < m)) ((n :: r).drop (0 + 1))).length) = (r.takeWhile (below n)).length + 1 from Nat.add_comm _ _, List.drop_succ_cons, drop_tw]
theorem cutAt_succ (n : Nat) (r : List Nat) (k : Nat) : cutAt (n :: r) (k + 1) = n :: cutAt r k := by
  unfold cutAt cut
  have e : stopAt (n :: r) (k + 1) = stopAt r k + 1 := by
    unfold stopAt
    simp only [List.drop_succ_cons, List.getD_cons_succ]
    omega
  rw [e, List.take_succ_cons, List.drop_succ_cons, List.cons_append]
theorem cutAt_left {R : List Nat} : ∀ {T : List Nat} {k : Nat}, k < T.length → (∀ t ∈ T, HeadLe t R) → cutAt (T ++ R) k = cutAt T k ++ R
  | [], k, h, _ => by simp at h
  | t :: T, 0, _, h => by
    rw [List.cons_append, cutAt_zero, cutAt_zero, dw_app2 (h t (List.mem_cons_self ..)).dw]
  | t :: T, k + 1, hk, h => by
    rw [List.cons_append, cutAt_succ, cutAt_succ, cutAt_left (by simpa using hk) fun t ht => h t (List.mem_cons_of_mem _ ht), List.cons_append]
theorem cutAt_right {R : List Nat} (j : Nat) : ∀ {T : List Nat}, cutAt (T ++ R) (T.length + j) = T ++ cutAt R j
  | [] => by rw [List.length_nil, Nat.zero_add]; rfl
  | t :: T => by
    rw [List.cons_append, List.length_cons, show T.length + 1 + j = (T.length + j) + 1 from by omega, cutAt_succ, cutAt_right j, List.cons_append]
theorem cutAt_sub (ns : List Nat) (k : Nat) : ∀ x ∈ cutAt ns k, x ∈ ns := fun x hx => by
  unfold cutAt cut at hx
  rcases List.mem_append.mp hx with h | h
  · exact List.mem_of_mem_take h
  · exact List.mem_of_mem_drop h
theorem headLe_cut {n : Nat} {R : List Nat} (h : HeadLe n R) (j : Nat) : HeadLe n (cutAt R j) := by
  cases R with
  | nil => unfold cutAt cut; simp; intro m hm; simp at hm
  | cons m r =>
    have hm := h m rfl
    cases j with
    | zero => rw [cutAt_zero]; exact (headLe_dw m r).mono hm
    | succ j =>
      rw [cutAt_succ]
      intro x hx
      obtain rfl : m = x := by simpa using hx
      exact hm
theorem half_lt {p x : Nat} (h : p / 2 < x / 2) : p < x := by omega
theorem half_eq {v r : Nat} (h : v < r) (h2 : ¬ v / 2 < r / 2) : v / 2 = r / 2 := by omega
theorem half_bits {v r : Nat} (h : v < r) (h2 : v / 2 = r / 2) : v % 2 = 0 ∧ r % 2 = 1 := by omega
theorem half_up {p x : Nat} (h : p / 2 = x / 2) (h2 : p % 2 = 0) (h3 : x % 2 = 1) : p < x := by omega
theorem half_moves {v x y p q r : Nat} (h : v < r) (h0 : v / 2 = r / 2) (d2 : p / 2 = x / 2) (d3 : q / 2 = y / 2) (m1 : r % 2 = (x + y) % 2) (m2 : p % 2 = (v + y) % 2) (m3 : q % 2 = (v + x) % 2) : p < x ∨ q < y := by
  obtain ⟨a, b⟩ := half_bits h h0
  rw [Nat.add_mod, a] at m2 m3
  rw [b, Nat.add_mod] at m1
  rcases Nat.mod_two_eq_zero_or_one y with e | e
  · rcases Nat.mod_two_eq_zero_or_one x with f | f
    · rw [e, f] at m1; simp at m1
    · exact .inl (half_up d2 (by rw [m2, e]) f)
  · rcases Nat.mod_two_eq_zero_or_one x with f | f
    · exact .inr (half_up d3 (by rw [m3, f]) e)
    · rw [e, f] at m1; simp at m1
theorem xor_moves (v : Nat) : ∀ x y : Nat, v < x ^^^ y → v ^^^ y < x ∨ v ^^^ x < y := by
  induction v using Nat.strongRecOn with
  | ind v ih =>
    intro x y h
    have d1 : (x ^^^ y) / 2 = x / 2 ^^^ y / 2 := Nat.xor_div_two
    have d2 : (v ^^^ y) / 2 = v / 2 ^^^ y / 2 := Nat.xor_div_two
    have d3 : (v ^^^ x) / 2 = v / 2 ^^^ x / 2 := Nat.xor_div_two
    have m1 : (x ^^^ y) % 2 = (x + y) % 2 := xor_bit _ _
    have m2 : (v ^^^ y) % 2 = (v + y) % 2 := xor_bit _ _
    have m3 : (v ^^^ x) % 2 = (v + x) % 2 := xor_bit _ _
    by_cases hq : v / 2 < (x ^^^ y) / 2
    · rw [d1] at hq
      by_cases hv : v = 0
      · subst hv
        simp only [Nat.zero_xor] at *
        by_cases hxy : x = y
        · subst hxy; simp at h
        · clear ih h d1 d2 d3 m1 m2 m3 hq; omega
      · rcases ih (v / 2) (by clear ih h d1 d2 d3 m1 m2 m3 hq; omega) _ _ hq with a | a
        · exact .inl (half_lt (by rw [d2]; exact a))
        · exact .inr (half_lt (by rw [d3]; exact a))
    · have hv0 : v / 2 = (x ^^^ y) / 2 := half_eq h hq
      have hv2 : v / 2 = x / 2 ^^^ y / 2 := by rw [hv0, d1]
      have e2 : v / 2 ^^^ y / 2 = x / 2 := by rw [hv2, Nat.xor_assoc, Nat.xor_self, Nat.xor_zero]
      have e3 : v / 2 ^^^ x / 2 = y / 2 := by rw [hv2, Nat.xor_comm (x / 2), Nat.xor_assoc, Nat.xor_self, Nat.xor_zero]
      rw [e2] at d2
      rw [e3] at d3
      exact half_moves h hv0 d2 d3 m1 m2 m3
theorem xor_cancel (a b : Nat) : a ^^^ b ^^^ b = a := by rw [Nat.xor_assoc, Nat.xor_self, Nat.xor_zero]
/-- green Hackenbush: each smaller worth is a move away, the own worth is none -/
theorem moves : ∀ (N : Nat) (ns : List Nat), ns.length = N → (∀ v, v < worth ns → ∃ k, k < ns.length ∧ worth (cutAt ns k) = v) ∧ ∀ k, k < ns.length → worth (cutAt ns k) ≠ worth ns := by
  intro N
  induction N using Nat.strongRecOn with
  | ind N ih =>
    intro ns hN
    cases ns with
    | nil => exact ⟨fun v h => by simp [worth, pile, X] at h, fun k h => by simp at h⟩
    | cons n r =>
      have er := List.takeWhile_append_dropWhile (p := below n) (l := r)
      have hT := tw_all n r
      have hR := headLe_dw n r
      generalize r.takeWhile (below n) = T at er hT
      generalize r.dropWhile (below n) = R at er hR
      subst er
      have hTR : ∀ t ∈ T, HeadLe t R := fun t ht => hR.mono (Nat.le_of_lt (hT t ht))
      simp only [List.length_cons, List.length_append] at hN
      obtain ⟨t1, t2⟩ := ih T.length (by omega) T rfl
      obtain ⟨r1, r2⟩ := ih R.length (by omega) R rfl
      have w0 : cutAt (n :: (T ++ R)) 0 = R := by rw [cutAt_zero, dw_app (fun a ha => by simpa using hT a ha), hR.dw]
      have wT : ∀ i, i < T.length → worth (cutAt (n :: (T ++ R)) (i + 1)) = (worth (cutAt T i) + 1) ^^^ worth R := fun i hi => by
        rw [cutAt_succ, cutAt_left hi hTR, worth_node (fun t ht => hT t (cutAt_sub T i t ht)) hR]
      have wR : ∀ j, worth (cutAt (n :: (T ++ R)) (T.length + j + 1)) = (worth T + 1) ^^^ worth (cutAt R j) := fun j => by
        rw [cutAt_succ, cutAt_right, worth_node hT (headLe_cut hR j)]
      have wn := worth_node hT hR
      refine ⟨fun v hv => ?_, fun k hk => ?_⟩
      · rw [wn] at hv
        rcases xor_moves v _ _ hv with a | a
        · cases q : v ^^^ worth R with
          | zero =>
            refine ⟨0, by simp, ?_⟩
            rw [w0]
            have := xor_cancel v (worth R)
            rw [q, Nat.zero_xor] at this; exact this
          | succ a' =>
            obtain ⟨i, hi, e⟩ := t1 a' (by omega)
            refine ⟨i + 1, by simp; omega, ?_⟩
            rw [wT i hi, e, ← q, xor_cancel]
        · obtain ⟨j, hj, e⟩ := r1 _ a
          refine ⟨T.length + j + 1, by simp; omega, ?_⟩
          rw [wR, e, Nat.xor_comm, xor_cancel]
      · rw [wn]
        simp only [List.length_cons, List.length_append] at hk
        cases k with
        | zero =>
          rw [w0]
          intro e
          have := congrArg (· ^^^ worth R) e
          simp only [xor_cancel, Nat.xor_self] at this
          omega
        | succ k =>
          by_cases hkT : k < T.length
          · rw [wT k hkT]
            intro e
            have := congrArg (· ^^^ worth R) e
            simp only [xor_cancel] at this
            exact t2 k hkT (by omega)
          · obtain ⟨j, rfl⟩ : ∃ j, k = T.length + j := ⟨k - T.length, by omega⟩
            rw [wR]
            intro e
            have := congrArg ((worth T + 1) ^^^ ·) e
            simp only [← Nat.xor_assoc, Nat.xor_self, Nat.zero_xor] at this
            exact r2 j (by omega) this
theorem win_move {ns : List Nat} (h : worth ns ≠ 0) : ∃ k, k < ns.length ∧ worth (cutAt ns k) = 0 := (moves _ ns rfl).1 0 (Nat.pos_of_ne_zero h)
theorem lose_move {ns : List Nat} (h : worth ns = 0) {k : Nat} (hk : k < ns.length) : worth (cutAt ns k) ≠ 0 := fun e => (moves _ ns rfl).2 k hk (e.trans h.symm)
theorem cutAt_len {ns : List Nat} {k : Nat} (hk : k < ns.length) : (cutAt ns k).length < ns.length := by
  unfold cutAt cut stopAt
  rw [List.length_append, List.length_take, List.length_drop]
  omega
theorem cutAt_sum (ns : List Nat) (k : Nat) : (cutAt ns k).sum ≤ ns.sum := by
  have h : (cutAt ns k).Sublist ns := by
    unfold cutAt cut stopAt
    have h1 : (ns.drop (k + 1 + ((ns.drop (k + 1)).takeWhile fun n => decide (ns.getD k 0 < n)).length)).Sublist (ns.drop k) := by
      rw [show k + 1 + ((ns.drop (k + 1)).takeWhile fun n => decide (ns.getD k 0 < n)).length = k + (1 + ((ns.drop (k + 1)).takeWhile fun n => decide (ns.getD k 0 < n)).length) from by omega, ← List.drop_drop]
      exact List.drop_sublist _ _
    have := (List.Sublist.refl (ns.take k)).append h1
    rwa [List.take_append_drop] at this
  exact sum_sublist h
end
section
theorem freshNagD : True := by (w_top off; trivial)
open PySem PySem.W PySem.Spec PySem.Calls PyProof.Rows
set_option maxRecDepth 100000
set_option maxHeartbeats 4000000
set_option linter.all false
local macro_rules | `(tactic| walk_at "setAttr ref") => `(tactic| (k_here; refine hold_up ?_))
/-- the fields of a nag -/
def nagNames (k : Int) (p q : Str) (t₁ t₂ t₃ : Tok) : Str → Option Value := fun y => if y = Str.ofString "line" then some (.str q t₃) else if y = Str.ofString "msg" then some (.str p t₂) else if y = Str.ofString "lineno" then some (.int k t₁) else none
theorem no_lineno : typeLookup (.type "Exception") (Str.ofString "lineno") = pure none := by rw [typeLookup_type, builtinLookup_eq_fast]; kernel_rfl
theorem no_msg : typeLookup (.type "Exception") (Str.ofString "msg") = pure none := by rw [typeLookup_type, builtinLookup_eq_fast]; kernel_rfl
theorem no_line : typeLookup (.type "Exception") (Str.ofString "line") = pure none := by rw [typeLookup_type, builtinLookup_eq_fast]; kernel_rfl
theorem nag_does {w : World} {k : Int} {p q : Str} {t₁ t₂ t₃ : Tok} {news : Led} :
   Does w 97 [.int k t₁, .str p t₂, .str q t₃] 2 24 news fun r news' => ∃ e D oe oD tt, r = .ref e ∧ news' = (D, oD) :: (e, oe) :: news ∧ (∀ x ∈ news, x.1 ≠ e ∧ x.1 ≠ D) ∧ e ≠ D ∧ oe.cls = .ref 97 ∧ oe.dict = some D ∧ oe.data = .fields #[.ref tt, .none, .none, .none, .bool false, .none] ∧ NamesAre oD (nagNames k p q t₁ t₂ t₃) := by
  unfold Does
  k_fill
  intro dp un gd cn cs a ccd cl outer A₀ base h₀ L m s mean mg mb Q E B F X' N T hk hdp hu hret
  have X₁ := X'.keeps F.keep
  obtain ⟨hp, g, d, tk, os⟩ := s
  have hC : hp.get? 97 = some _ := X₁ _ _ (by k_is)
  have hn := Heap.Ns.of_isNs (isNs_of_in X₁ (by kernel_rfl : nsOkIn (hd.heap_39 w.params) 96 = true))
  have hi := ns_some_of X₁ hn (by k_is : nsIn _ 96 (Str.ofString "__init__") = some (some (.ref 73)))
  have hf : hp.get? 73 = some _ := X₁ _ _ (by k_is)
  refine call_own PySem.F.excBase_Exception hC hn hi hf rfl (fun h2 e hM => ?_)
  obtain ⟨tt, he, htn, ht⟩ := hM.there
  have F₂ : Fr h₀ L h2 m := ⟨Heap.UpToSlots.ns (Heap.UpToSlots.of_keeps hM.keeps) F.ns, fun b o q => hM.keeps b o (F.keep b o q), F.above⟩
  have hne : h₀.get? e = none := kts_none F.keep hM.new
  have hnl : ∀ p ∈ news, p.1 ≠ e := fun p hp q => by
    have := (N p hp).1
    rw [q] at this
    exact absurd (this.symm.trans hM.new) (by simp)
  have hnt : h₀.get? tt = none := kts_none F.keep htn
  have N₂ : News h₀ L h2 ((e, _) :: (tt, _) :: news) := News.more F₂ (News.more F₂ (fun p hp => ⟨hM.keeps _ _ (N p hp).1, (N p hp).2⟩) ht (fun es n q => by cases q) hnt) he (fun es n q => by cases q) hne
  clear ht he N F X₁ hC hn hi hf
  refine wpAny_call ?_
  first | k_dflt k_enter | fail "enter"
  k_steps
  · unfold Hold
    rename Fr _ _ _ _ => eF
    rename News _ _ _ _ => eN
    refine nag_first (rest := news) (oe := { cls := .ref 97, data := .fields #[.ref tt, .none, .none, .none, .bool false, .none] }) eF (by k_asm) (fun p hp => eN p (by rcases List.mem_cons.mp hp with h | h <;> simp [h])) hnl rfl rfl rfl (by k_is) no_lineno ?_
    intro D h3 tk3 oD3 hD3 F3 N3 M3
    clear eF eN
    dsimp only at N3 hD3
    k_steps
    unfold Hold
    rename Fr _ _ _ _ => eF
    rename News _ _ _ _ => eN
    refine nag_more eF (by k_asm) eN hD3 hnl rfl rfl rfl M3 (by k_is) no_msg ?_ (Within.cons _ _ Within.nil)
    intro h4 tk4 oD4 F4 N4 M4
    clear eF eN
    k_steps
    unfold Hold
    rename Fr _ _ _ _ => eF
    rename News _ _ _ _ => eN
    refine nag_more eF (by k_asm) eN hD3 hnl rfl rfl rfl M4 (by k_is) no_line ?_ (Within.cons _ _ (Within.cons _ _ Within.nil))
    intro h5 tk5 oD5 F5 N5 M5
    clear eF eN
    k_steps
    refine hret _ _ _ _ (by assumption) (by assumption) ⟨e, D, _, oD5, tt, rfl, rfl, fun x hx => ⟨hnl x hx, hD3 x (List.mem_cons_of_mem _ hx)⟩, hD3 _ (List.mem_cons_self ..), rfl, rfl, rfl, M5⟩
end
section
theorem freshPlayM : True := by (w_top off; trivial)
open PySem PySem.W PySem.Spec PySem.Calls PyProof.Rows PyProof.V
set_option maxRecDepth 100000
set_option linter.all false
theorem below_turn {A₀ : Around} {base g g' : Heap} {outer : List Env} (K : Below A₀ base outer g) (T : KtsTurn (outer.filterMap (·.frame)) g g') : Below A₀ base outer g' :=
  ⟨K.stack, fun b o e => T.other b o (K.stays b o e) (fun hm => by rw [(K.frames.mem hm).1] at e; cases e), K.frames.of_keeps fun b o e _ => let ⟨_, hs⟩ := T.up e; ⟨_, hs, rfl⟩⟩
theorem updF_again {d : Addr} {o : Obj} {news : Led} {g : Obj → Led} (U : UpdF d o news g) (o' : Obj) : UpdF d o' (g o') g := by
  induction U with
  | head h => exact .head h
  | tail h _ ih => exact .tail h ih
theorem updF_app {d : Addr} {o : Obj} {news : Led} {g : Obj → Led} (U : UpdF d o news g) : ∀ {pre : Led}, (∀ p ∈ pre, p.1 ≠ d) → UpdF d o (pre ++ news) (fun o' => pre ++ g o')
  | [], _ => U
  | p :: pre, h => .tail (h p (List.mem_cons_self ..)) (updF_app U fun q hq => h q (List.mem_cons_of_mem _ hq))
theorem updF_two {a b : Addr × Obj} {d : Addr} {o : Obj} {R : Obj → Led} (U : UpdF d o (R o) R) (ha : @Ne Nat a.1 d) (hb : @Ne Nat b.1 d) : UpdF d o (a :: b :: R o) (fun o' => a :: b :: R o') := .tail ha (.tail hb U)
theorem two_of {a b : Addr × Obj} {d L : Addr} {o : Obj} {R : Obj → Led} {h₀ h : Heap} (_N : News h₀ L h (a :: b :: R o)) (U : UpdF d o (R o) R) (ha : @Ne Nat a.1 d) (hb : @Ne Nat b.1 d) : UpdF d o (a :: b :: R o) (fun o' => a :: b :: R o') := updF_two U ha hb
theorem ne_first {a : Addr × Obj} {d L : Addr} {R : Led} {h₀ h : Heap} (_N : News h₀ L h (a :: R)) (ha : @Ne Nat a.1 d) : @Ne Nat a.1 d := ha
theorem updF_self {d : Addr} {o : Obj} {news : Led} {g : Obj → Led} (U : UpdF d o news g) : g o = news := by
  obtain ⟨pre, post, a, b, _, _⟩ := U.split
  rw [b, a]
theorem updF_mem {d : Addr} {o : Obj} {news : Led} {g : Obj → Led} (U : UpdF d o news g) : (d, o) ∈ news := by
  obtain ⟨pre, post, a, b, _, _⟩ := U.split
  rw [a]; simp
theorem updF_keep {d : Addr} {o : Obj} {news : Led} {g : Obj → Led} (U : UpdF d o news g) {p : Addr × Obj} (hp : p ∈ news) (hd : p.1 ≠ d) (o' : Obj) : p ∈ g o' := by
  obtain ⟨pre, post, a, b, _, _⟩ := U.split
  rw [b]
  rw [a] at hp
  rcases List.mem_append.mp hp with h | h
  · exact List.mem_append_left _ h
  · rcases List.mem_cons.mp h with rfl | h
    · exact absurd rfl hd
    · exact List.mem_append_right _ (List.mem_cons_of_mem _ h)
/-- a memo: pages and their words, at most b of them -/
def MemoKv (kvs : List (Str × Value)) : Prop := ∀ p ∈ kvs, ∃ ms t, p.1 = pageS ms ∧ p.2 = .str (wordS ms) t ∧ ms.length ≤ 6 ∧ ms.sum ≤ 1000
def Memo (w : World) (o : Obj) (b : Nat) : Prop := ∃ kvs, o.IsDictOf (strKind (RowW.prog (OpenRow.toRowW (OpenLaw.row Challenge.rw_wa0022_01))) w) kvs ∧ kvs.length ≤ b ∧ MemoKv kvs
theorem Memo.mono {w : World} {o : Obj} {b c : Nat} (h : Memo w o b) (hc : b ≤ c) : Memo w o c := let ⟨k, h1, h2, h3⟩ := h; ⟨k, h1, Nat.le_trans h2 hc, h3⟩
theorem memo_at {kvs : List (Str × Value)} (h : MemoKv kvs) {ms : List Nat} {v : Value} (e : valueAt kvs (pageS ms) = some v) : ∃ t, v = .str (wordS ms) t := by
  unfold valueAt at e
  obtain ⟨kv, hkv, rfl⟩ := Option.map_eq_some_iff.mp e
  have h1 := List.find?_some hkv
  obtain ⟨ms', t, e1, e2, _⟩ := h kv (List.mem_of_find?_eq_some hkv)
  have e3 : kv.1 = pageS ms := by simpa using h1
  rw [e3] at e1
  rw [pageS_inj e1]
  exact ⟨t, e2⟩
theorem memo_stored {kvs : List (Str × Value)} (h : MemoKv kvs) {ms : List Nat} {t : Tok} (hl : ms.length ≤ 6) (hs : ms.sum ≤ 1000) : MemoKv (stored kvs (pageS ms) (.str (wordS ms) t)) := by
  intro p hp
  unfold stored at hp
  split at hp
  · obtain ⟨q, hq, rfl⟩ := List.mem_map.mp hp
    split
    · rename_i e
      exact ⟨ms, t, e, rfl, hl, hs⟩
    · exact h q hq
  · rcases List.mem_append.mp hp with hp | hp
    · exact h p hp
    · rw [List.mem_singleton.mp hp]
      exact ⟨ms, t, rfl, rfl, hl, hs⟩
/-- the nag that the play of this page raises -/
def NagOf (ns : List Nat) (oD : Obj) : Prop := ∃ k nk t₁ t₂ t₃, ns[k]? = some nk ∧ worth (cutAt ns k) = 0 ∧ (∀ j, j < k → worth (cutAt ns j) ≠ 0) ∧ NamesAre oD (nagNames ((k : Int) + 1) (pageS (cutAt ns k)) (rowS nk) t₁ t₂ t₃)
/-- how many pages a play of n rows asks at most -/
def asks : Nat → Nat
  | 0 => 0
  | n + 1 => (n + 1) * (1 + asks n)
theorem asks_mono {m n : Nat} (h : m ≤ n) : asks m ≤ asks n := by
  induction n with
  | zero => obtain rfl : m = 0 := by omega
            exact Nat.le_refl _
  | succ n ih =>
    by_cases q : m ≤ n
    · refine Nat.le_trans (ih q) ?_
      rw [asks]
      exact Nat.le_trans (Nat.le_add_left _ 1) (Nat.le_mul_of_pos_left (1 + asks n) (Nat.succ_pos n))
    · obtain rfl : m = n + 1 := by omega
      exact Nat.le_refl _
theorem asks_le {k m n : Nat} (hk : k < n) (hm : m < n) : k * (1 + asks (n - 1)) + asks m + 1 ≤ (k + 1) * (1 + asks (n - 1)) ∧ (k + 1) * (1 + asks (n - 1)) ≤ asks n := by
  cases n with
  | zero => omega
  | succ n =>
    have h1 := asks_mono (show m ≤ n by omega)
    have h2 := Nat.succ_mul k (1 + asks n)
    have h3 : (k + 1) * (1 + asks n) ≤ (n + 1) * (1 + asks n) := Nat.mul_le_mul_right _ (by omega)
    rw [asks, Nat.add_sub_cancel]
    simp only [Nat.succ_eq_add_one] at h2
    exact ⟨by omega, h3⟩
theorem asks_top (n : Nat) : n * (1 + asks (n - 1)) = asks n := by
  cases n with
  | zero => simp [asks]
  | succ n => rw [asks, Nat.add_sub_cancel]
def PlayDoes (w : World) (n : Nat) : Prop := ∀ (ns : List Nat) (t : Tok) (l d : Addr) (o : Obj) (nn : Nat) (b : Nat) (news : Led) (g : Obj → Led), ns.length = n → ns.length ≤ 6 → ns.sum ≤ 1000 →
  (l, ({ cls := .type "tuple", data := .seq #[.str (pageS ns) t, .ref d] nn } : Obj)) ∈ news → UpdF d o news g → (d == sysModules) = false → Memo w o b → b + asks n ≤ 10000 →
  DoesT w 193 [.ref l] (3 * n + 4) (64 * n + 64) news (fun r news' => worth ns = 0 ∧ ∃ o' t', news' = g o' ∧ Memo w o' (b + asks n) ∧ r = .str (Str.ofString "lost") t') (fun D oD news' => worth ns ≠ 0 ∧ ∃ o', news' = g o' ∧ Memo w o' (b + asks n) ∧ NagOf ns oD)
/-- the leads made so far -/
def LeadsJ (P : Params) (ns : List Nat) (rest : Led) (i : Nat) (ys : List Value) (nx : Led) : Prop := ∃ tl, nx = tl ++ rest ∧ ys.length = i ∧ (∀ p ∈ rest, ∀ q ∈ tl, p.1 < q.1) ∧ ∀ j n, j < i → ns[j]? = some n → ∃ v, ys[j]? = some v ∧ LeadIn P tl v n
theorem leads_end {h₀ : Heap} {L I C D ax : Addr} {m : Str → Option Value} {s₁ : Shared} {oI oC : Obj} {ys its : List Value} {P : Params} {ns : List Nat} {rest tl tl9 : Led} {i n0 k : Nat} {y : Value} {h' : Heap} {tk : Nat}
    (F : Fr h₀ L h' m) (N : News h₀ L h' (tl9 ++ (I, oI) :: (C, oC) :: (D, LCg.lst ys) :: (tl ++ rest))) (hlt : ∀ p ∈ (I, oI) :: (C, oC) :: (D, LCg.lst ys) :: (tl ++ rest), ∀ q ∈ tl9, p.1 < q.1) (off : LCg.Off3 I C D (tl ++ rest)) (hm : (ax, listOf its.toArray k) ∈ rest)
    (hy : ys.length = i) (hr : ∀ p ∈ rest, ∀ q ∈ tl, p.1 < q.1) (hJ : ∀ j n, j < i → ns[j]? = some n → ∃ v, ys[j]? = some v ∧ LeadIn P tl v n) (hn : ns[i]? = some n0) (hl : LeadIn P tl9 y n0) :
    LCg.CompEnd h₀ L m s₁ I oI C oC D (LCg.lst ys) (LCg.SrcAt h₀ ax its.toArray) (fun v nx' => LeadsJ P ns rest (i + 1) (ys ++ [v]) nx') y { s₁ with heap := h', toks := tk } := by
  refine LCg.CompEnd.intro F N (tl9 ++ (tl ++ rest)) ?_ ?_ (.inr ⟨_, List.mem_append_right _ (List.mem_append_right _ hm), rfl, _, rfl⟩) ⟨tl9 ++ tl, (List.append_assoc _ _ _).symm, by simp [hy], ?_, ?_⟩
  · intro p hp
    simp only [List.mem_cons, List.mem_append] at hp ⊢
    rcases hp with h | h | h | h | h <;> simp [h]
  · refine LCg.Off3.of fun p hp => ?_
    rcases List.mem_append.mp hp with h | h
    · exact ⟨Nat.ne_of_gt (hlt (I, oI) (by simp) p h), Nat.ne_of_gt (hlt (C, oC) (by simp) p h), Nat.ne_of_gt (hlt (D, LCg.lst ys) (by simp) p h)⟩
    · exact off.mem p h
  · intro p hp q hq
    rcases List.mem_append.mp hq with h | h
    · exact hlt p (by simp [hp]) q h
    · exact hr p hp q h
  · intro j n hj hn'
    by_cases hji : j < i
    · obtain ⟨v, hv, hl'⟩ := hJ j n hji hn'
      exact ⟨v, by rw [List.getElem?_append_left (by omega)]; exact hv, hl'.mono fun p hp => List.mem_append_right _ hp⟩
    · obtain rfl : j = i := by omega
      rw [hn] at hn'
      obtain rfl := Option.some.inj hn'
      exact ⟨y, by rw [List.getElem?_append_right (by omega), hy]; simp, hl.mono fun p hp => List.mem_append_left _ hp⟩
/-- what a play's own ledger is like, over the memo's object -/
structure PlayLd (P : Params) (ns : List Nat) (ys vs : List Value) (DL DR d : Addr) (Rg g : Obj → Led) : Prop where
  upd : ∀ o, UpdF d o (Rg o) Rg
  rows : ∀ o, (DR, listOf vs.toArray 0) ∈ Rg o
  leads : ∀ o, (DL, listOf ys.toArray ys.length) ∈ Rg o
  lead : ∀ (o : Obj) (j n : Nat), ns[j]? = some n → ∃ v, ys[j]? = some v ∧ LeadIn P (Rg o) v n
  out : ∀ o, ∀ p ∈ g o, p ∈ Rg o
theorem playLd_of {P : Params} {ns : List Nat} {ys vs : List Value} {DL DR D2 d : Addr} {o : Obj} {news tl : Led} {g : Obj → Led} {o2 : Obj} (U : UpdF d o news g) (hDL : LCg.Off1 DL (tl ++ (DR, listOf vs.toArray 0) :: (D2, o2) :: news)) (hR : D2 < DR ∧ AllLt DR news) (h2 : ∀ p ∈ news, p.1 < D2)
    (hr : ∀ p ∈ (DR, listOf vs.toArray 0) :: (D2, o2) :: news, ∀ q ∈ tl, p.1 < q.1) (hJ : ∀ j n, j < ns.length → ns[j]? = some n → ∃ v, ys[j]? = some v ∧ LeadIn P tl v n) :
    PlayLd P ns ys vs DL DR d (fun o => (DL, LCg.lst ys) :: (tl ++ (DR, listOf vs.toArray 0) :: (D2, o2) :: g o)) g := by
  have hd := updF_mem U
  have d1 : DL ≠ d := fun e => off1_all hDL (d, o) (by simp [hd]) e.symm
  have d2 : ∀ p ∈ tl, p.1 ≠ d := fun p hp => Nat.ne_of_gt (hr (d, o) (by simp [hd]) p hp)
  have d3 : DR ≠ d := Nat.ne_of_gt (tb_ltOf hR.2 (d, o) hd)
  have d4 : D2 ≠ d := Nat.ne_of_gt (h2 (d, o) hd)
  refine ⟨fun o' => .tail d1 (updF_app (.tail d3 (.tail d4 (updF_again U o'))) d2), fun o' => by simp, fun o' => List.mem_cons_self .., fun o' j n hn => ?_, fun o' p hp => by simp [hp]⟩
  obtain ⟨v, hv, hl⟩ := hJ j n (List.getElem?_eq_some_iff.mp hn).1 hn
  exact ⟨v, hv, hl.mono fun p hp => by simp [hp]⟩
section
variable {h₀ h : Heap} {L : Addr} {a b c e f x : Addr × Obj} {R R' : Led}
theorem news_sub (N : News h₀ L h R) (hs : ∀ p ∈ R', p ∈ R) : News h₀ L h R' := fun p hp => N p (hs p hp)
theorem news_six (N : News h₀ L h (a :: b :: c :: e :: f :: x :: R)) : News h₀ L h (a :: f :: R) := news_sub N fun p hp => by
  simp only [List.mem_cons] at hp ⊢
  rcases hp with h | h | h <;> simp [h]
theorem news_five (N : News h₀ L h (b :: c :: e :: f :: x :: R)) : News h₀ L h (f :: R) := news_sub N fun p hp => by
  simp only [List.mem_cons] at hp ⊢
  rcases hp with h | h <;> simp [h]
theorem news_dup {I : Addr} {oI : Obj} (N : News h₀ L h ((I, oI) :: R)) (hx : x ∈ R) : News h₀ L h ((I, oI) :: x :: R) := news_sub N fun p hp => by
  simp only [List.mem_cons] at hp ⊢
  rcases hp with h | h | h
  · exact .inl h
  · exact .inr (h ▸ hx)
  · exact .inr h
end
theorem updF_addr {d : Addr} {o : Obj} {news : Led} {g : Obj → Led} (U : UpdF d o news g) {o' : Obj} {p : Addr × Obj} (hp : p ∈ g o') : ∃ q ∈ news, q.1 = p.1 := by
  obtain ⟨pre, post, a, b, _, _⟩ := U.split
  rw [b] at hp
  rw [a]
  rcases List.mem_append.mp hp with h | h
  · exact ⟨p, List.mem_append_left _ h, rfl⟩
  · rcases List.mem_cons.mp h with rfl | h
    · exact ⟨(d, o), by simp, rfl⟩
    · exact ⟨p, by simp [h], rfl⟩
theorem valueAt_stored {K : Type} [DecidableEq K] (kvs : List (K × Value)) (k : K) (v : Value) : valueAt (stored kvs k v) k = some v := by
  unfold stored valueAt
  split
  · rename_i h
    obtain ⟨kv, hkv, e⟩ := List.any_eq_true.mp h
    cases q : (kvs.map fun kv => if kv.1 = k then (kv.1, v) else kv).find? fun kv => decide (kv.1 = k) with
    | none =>
      have := List.find?_eq_none.mp q (kv.1, v) (List.mem_map.mpr ⟨kv, hkv, by simp at e; simp [e]⟩)
      simp at e; simp [e] at this
    | some y =>
      have h1 := List.find?_some q
      obtain ⟨z, hz, rfl⟩ := List.mem_map.mp (List.mem_of_find?_eq_some q)
      simp only [Option.map_some]
      split at h1
      · rename_i e2; simp [e2]
      · rename_i e2; simp at h1; exact absurd h1 e2
  · rename_i h
    have h' : ∀ x ∈ kvs, ¬ (decide (x.1 = k) = true) := fun x hx q => h (List.any_eq_true.mpr ⟨x, hx, q⟩)
    rw [List.find?_append, List.find?_eq_none.mpr h']
    simp
section
variable {M : Model} {A : Around} {E : Value → Shared → Prop} {env : Env}
variable {nm q : Str} {C N : Addr} {bs bm : List Value} {hdct : Bool} {sn : List Str} {sub : List Value} {ab : Bool} {col : Option Bool} {dd : Option Addr} {k0 k1 k2 k3 k5 : Option Value} {newId : String}
theorem raise_D {s : Shared} {x : PySem.Expr} {pos : Pos} {Q : Flow → Shared → Prop} (hbase : bm.contains (.type "BaseException") = true) (hh : A.handled = none)
    (h : wpAny M A (eval x env) (fun v s₁ => ∃ e oe ws, v = .ref e ∧ s₁.heap.get? C = some (excClassObj nm q C N bs bm hdct sn sub ab col dd k0 k1 k2 k3 k5 newId) ∧
      s₁.heap.get? e = some oe ∧ oe.cls = .ref C ∧ oe.data = .fields ws ∧ ws[1]? = some .none ∧ E (.ref e) s₁) E s) :
    wpAny M A (exec (.Raise (some x) none pos) env) Q E s := by
  show wpAny M A (do standAt pos; raiseStmt env (some (do let v ← eval x env; standAt pos; pure v)) none) Q E s
  exact wpAny_bind (wpAny_standAt (raiseStmt_D hbase hh (wpAny_bind (wpAny_mono h (fun v s₁ h₁ => wpAny_bind (wpAny_standAt (wpAny_pure h₁))) fun _ _ x => x))))
theorem raise_K {g : Heap} {s : Shared} {x : PySem.Expr} {pos : Pos} {Q : Flow → Shared → Prop} (hC : g.get? C = some (excClassObj nm q C N bs bm hdct sn sub ab col dd k0 k1 k2 k3 k5 newId)) (hbase : bm.contains (.type "BaseException") = true) (hh : A.handled = none)
    (h : wpAny M A (eval x env) (fun v s₁ => ∃ e oe ws, v = .ref e ∧ (∀ b o, g.get? b = some o → s₁.heap.get? b = some o) ∧
      s₁.heap.get? e = some oe ∧ oe.cls = .ref C ∧ oe.data = .fields ws ∧ ws[1]? = some .none ∧ E (.ref e) s₁) E s) :
    wpAny M A (exec (.Raise (some x) none pos) env) Q E s :=
  raise_D hbase hh (wpAny_mono h (fun v s₁ ⟨e, oe, ws, h1, h2, h3⟩ => ⟨e, oe, ws, h1, h2 _ _ hC, h3⟩) fun _ _ x => x)
end
end
section
theorem freshInd : True := by (w_top off; trivial)
open PySem PySem.W PySem.Spec PySem.Calls PyProof.Rows PyProof.V
set_option maxRecDepth 100000
set_option maxHeartbeats 4000000
set_option linter.all false
local macro_rules | `(tactic| walk_at "getMethod ref") => `(tactic| (k_here; refine hold_up ?_))
local macro_rules | `(tactic| walk_at "call builtin:re.Pattern.sub") => `(tactic| (k_here; refine hold_up ?_))
theorem mulOk_sp {k : Nat} (hk : k = 1 ∨ k = 2) : MulOk (Str.ofString " ") (k : Int) := by
  have e : (Str.ofString " ").length = 1 := by decide +kernel
  rcases hk with rfl | rfl <;> refine ⟨by decide, fun _ h => ?_, fun _ _ => ?_⟩ <;> rw [e] at * <;> decide
theorem mul_sp {k : Nat} (hk : k = 1 ∨ k = 2) : Txt.mul (Str.ofString " ") (k : Int) = spS k := by
  rcases hk with rfl | rfl <;> decide +kernel
theorem mul_left {prog : Program} {w : World} {A : Around} {E : Value → Shared → Prop} {s : Shared} {x : Str} {t u : Tok} {n : Int} {Q : Value → Shared → Prop} (hok : MulOk x n) (h : ∀ t' k, Q (.str (Txt.mul x n) t') { s with toks := k }) : wpAny (model prog w) A (binaryOp .Mult (.int n u) (.str x t)) Q E s := by
  refine lm_binaryOp_repeat_right (T := "str") (U := "int") (by decide) (fun s' => typeIs_int s' n u) (typeIs_str s x t) F.fills_int_mul noFill_str_mul F.slot_int_mul lm_noRepeat_int repeat_str F.slot_int_index.lookup
    (call_gives F.slot_int_mul (typeIs_int s n u) F.entry_int_mul (F.args_int_mul_2 _ _) (AutoIntG3.int___mul___int_str_0 n u x t)
      ⟨rfl, typeIs_str _ x t, call_gives F.slot_str_mul (typeIs_str s x t) F.entry_str_mul (F.args_str_mul_2 _ _) (gives_str_mul x n t u hok.1 hok.2.1 hok.2.2) ?_⟩)
  unfold Txt.mul at h
  by_cases h1 : n < 1
  · rw [if_pos h1]; have h' := h s.toks (s.toks + 1); rw [if_pos h1] at h'; exact ⟨by decide, h'⟩
  · rw [if_neg h1]; refine post_val_or_made (fun hc => fits_reps (hok.2.2 h1 (by simpa using hc))) fun t' k => ?_
    have h' := h t' k; rw [if_neg h1] at h'; exact h'
theorem indent_does {w : World} {ns : List Nat} {t u : Tok} {k : Nat} {news : Led} (hn : ns.length ≤ 100) (hsum : ns.sum ≤ 10000) (hk : k = 1 ∨ k = 2) :
   Does w 59 [.str (pageS ns) t, .int (k : Int) u] 2 24 news fun r news' => (∃ t', r = .str (pageS (ns.map (· + k))) t') ∧ news' = news := by
  unfold Does
  k_fill
  intro dp un gd cn cs a ccd cl outer A₀ base h₀ L m s mean mg mb Q E B F X' N T hkk hd hu hret
  refine wpAny_call ?_
  first | k_dflt k_enter | fail "enter"
  k_steps
  unfold Hold
  rename Fr _ _ _ _ => eF
  rename Frag.In _ _ => eX
  have hX := eX.keeps eF.keep
  have h51 := hX 51 _ (by k_is)
  have h50 := hX 50 _ (by k_is)
  have hpat : PatAt _ := ⟨⟨_, _, _, _, _, _, h51, rfl, rfl, rfl⟩, ⟨_, _, _, h50, rfl, by kernel_rfl⟩⟩
  refine method_sub h51 rfl rfl ?_
  dsimp only
  k_steps
  refine mul_left (mulOk_sp hk) fun t' tk' => ?_
  rw [mul_sp hk]
  k_steps
  unfold Hold
  rename News _ _ _ _ => eN
  refine call_sub (by omega) hpat hn hsum ?_
  intro h' u' tk2 hb
  have F2 := eF.keeps hb
  have N2 := eN.grown hb
  k_steps
  exact hret _ news _ _ (by assumption) (by assumption) ⟨⟨_, rfl⟩, rfl⟩
end
section
theorem freshPag : True := by (w_top off; trivial)
open PySem PySem.W PySem.Spec PySem.Calls PyProof.Rows PyProof.V
set_option maxRecDepth 100000
set_option maxHeartbeats 4000000
set_option linter.all false
local macro_rules | `(tactic| walk_at "call ref") => `(tactic| (k_here; (with_reducible show wpAny _ _ (call (Value.ref 178) _) _ _ _); refine hold_up ?_))
local macro_rules | `(tactic| walk_at "call ref") => `(tactic| (k_here; (with_reducible show wpAny _ _ (call (Value.ref 59) _) _ _ _); refine hold_up ?_))
local macro_rules | `(tactic| walk_at "pyIter ref") => `(tactic| (k_here; refine hold_up ?_))
/-- the values are these numbers -/
def NatsAre (vs : List Value) (ns : List Nat) : Prop := vs.length = ns.length ∧ ∀ (i n : Nat), ns[i]? = some n → ∃ t, vs[i]? = some (Value.int (n : Int) t)
theorem NatsAre.at {vs : List Value} {ns : List Nat} (h : NatsAre vs ns) {i : Nat} (hi : i < ns.length) : ∃ t, vs[i]? = some (Value.int ((ns.getD i 0 : Nat) : Int) t) := by
  have := h.2 i ns[i] (List.getElem?_eq_getElem hi)
  rwa [List.getD_eq_getElem?_getD, List.getElem?_eq_getElem hi]
def PageDoes (w : World) (hs ws : List Nat) (hv wv : List Value) (lh lw : Addr) (f : Nat) : Prop := ∀ (h : Nat) (t : Tok) (n1 n2 : Nat) (news : Led), 7 ≤ h + f → h < 7 → (lh, listOf hv.toArray n1) ∈ news → (lw, listOf wv.toArray n2) ∈ news →
  Does w 178 [.ref lh, .ref lw, .int (h : Int) t] (f + 3) (32 * f + 48) news fun r news' => (∃ t, r = .str (pageS (pageP hs ws h)) t) ∧ news' = news
def kidsTo (hs : List Nat) (h m : Nat) : List Nat := (List.range m).filter fun k => decide (h < k) && decide (hs.getD k 0 = h)
theorem kidsTo_start (hs : List Nat) (h : Nat) : kidsTo hs h (h + 1) = [] := List.eq_nil_iff_forall_not_mem.mpr fun k hk => by
  unfold kidsTo at hk
  simp only [List.mem_filter, List.mem_range, Bool.and_eq_true, decide_eq_true_eq] at hk
  omega
theorem kidsTo_yes {hs : List Nat} {h m : Nat} (hm : h < m) (e : hs.getD m 0 = h) : kidsTo hs h (m + 1) = kidsTo hs h m ++ [m] := by
  unfold kidsTo
  rw [List.getD_eq_getElem?_getD] at e
  rw [List.range_succ, List.filter_append]
  simp [hm, e]
theorem kidsTo_no {hs : List Nat} {h m : Nat} (e : hs.getD m 0 ≠ h) : kidsTo hs h (m + 1) = kidsTo hs h m := by
  unfold kidsTo
  rw [List.getD_eq_getElem?_getD] at e
  rw [List.range_succ, List.filter_append]
  simp [e]
theorem range_h {h : Nat} (hh : h < 7) : Builtin.Range.rangeSize ((h : Int) + 1) ((7 : Nat) : Int) 1 = ((6 - h : Nat) : Int) ∧ Builtin.Range.small ((h : Int) + 1) ((7 : Nat) : Int) 1 = true := by
  have all : ∀ h : Nat, h < 7 → Builtin.Range.rangeSize ((h : Int) + 1) ((7 : Nat) : Int) 1 = ((6 - h : Nat) : Int) ∧ Builtin.Range.small ((h : Int) + 1) ((7 : Nat) : Int) 1 = true := by decide +kernel
  exact all h hh
theorem sum_map_add (l : List Nat) (w : Nat) : (l.map (· + w)).sum = l.sum + l.length * w := by
  induction l with
  | nil => simp
  | cons a l ih => simp only [List.map_cons, List.sum_cons, List.length_cons, Nat.succ_mul, ih]; omega
theorem page_step {w : World} {hs ws : List Nat} {hv wv : List Value} {lh lw : Addr} (hhs : hs.length = 7) (hws : ws.length = 7) (hw : ∀ i, ws.getD i 0 ≤ 2) (hw1 : ∀ i, 1 ≤ i → i < 7 → 1 ≤ ws.getD i 0) (hl6 : ∀ h, h < 7 → (pathsF hs 7 h).length ≤ 6) (hA : NatsAre hv hs) (hB : NatsAre wv ws) {f : Nat} (ih : PageDoes w hs ws hv wv lh lw f) : PageDoes w hs ws hv wv lh lw (f + 1) := by
  intro h t n1 n2 news hf hh m1 m2
  unfold Does
  k_fill
  intro dp un gd cn cs a ccd cl outer A₀ base h₀ L m s mean mg mb Q E B F X' N T hk hd hu hret
  have hvl : hv.length = 7 := by rw [hA.1, hhs]
  have hwl : wv.length = 7 := by rw [hB.1, hws]
  refine wpAny_call ?_
  first | k_dflt k_enter | fail "enter"
  k_steps
  unfold Hold
  rename Fr _ _ _ _ => eF
  rename News _ _ _ _ => eN
  rename IsRange _ _ _ _ _ _ _ _ => rgX
  rw [hvl] at rgX
  obtain ⟨hr1, hr2⟩ := range_h hh
  have e0 : Str.ofString "" = pageS [] := em_is
  rw [e0] at eF
  with_unfolding_all refine' for_range0 (σ := List Nat × Tok) (fun c => [(Str.ofString "text", .str (pageS c.1) c.2)]) [] (fun i c => c.1 = (kidsTo hs h (h + 1 + i)).flatMap (fun k => 0 :: (pageP hs ws k).map (· + ws.getD k 0)) ∧ c.1.length ≤ 7 * i ∧ c.1.sum ≤ 100 * i) ([], _) (by rfl) rgX hr2 hr1 eF eN ?kk ?kp ?_ ?_
  case kk => kst_all
  case kp => refine ⟨?_, Nat.zero_le _, Nat.zero_le _⟩; rw [Nat.add_zero, kidsTo_start]; rfl
  · intro i tk1 c u h' tk' I oI hi off hP F' N'
    clear eF eN rgX
    obtain ⟨c1, c2⟩ := c
    obtain ⟨hP, hPl, hPs⟩ := hP
    dsimp only at hP hPl hPs F'
    obtain ⟨k, hk0⟩ : ∃ k, k = h + 1 + i := ⟨_, rfl⟩
    have ek : ((h : Int) + 1 + (i : Int)) = ((k : Nat) : Int) := by omega
    rw [ek] at F'
    have hk7 : k < 7 := by omega
    obtain ⟨t1, hx1⟩ := hA.at (i := k) (by omega)
    obtain ⟨t2, hx2⟩ := hB.at (i := k) (by omega)
    replace off := all_off1 off
    k_steps
    · rename ((hs.getD k 0 : Nat) : Int) = (h : Int) => hqi
      have hq : hs.getD k 0 = h := by omega
      have hl := hl6 k hk7
      have hsm := pageP_sum (hs := hs) hw hl
      have hw2 := hw k
      have hw3 := hw1 k (by omega) hk7
      have hpl : (pageP hs ws k).length ≤ 6 := by unfold pageP; rw [List.length_map]; exact hl
      unfold Hold
      rename Fr _ _ _ _ => eF
      rename News _ _ _ _ => eN
      with_unfolding_all refine' does_use (ih k tk1 n1 n2 _ (by omega) hk7 (List.mem_cons_of_mem _ m1) (List.mem_cons_of_mem _ m2)) ?k1 eF ?kX eN ?k5 ?kK ?kd ?ku ?_
      case k1 => k_asm
      case kX => k_asm
      case k5 => k_asm
      case kK => rfl
      case kd => k_room
      case ku => k_units
      intro r9 news9 h9 tk9 F9 N9 P9
      obtain ⟨⟨t9, rfl⟩, rfl⟩ := P9
      clear eF eN
      k_steps
      unfold Hold
      rename Fr _ _ _ _ => eF
      rename News _ _ _ _ => eN
      with_unfolding_all refine' does_use (indent_does (ns := pageP hs ws k) (k := ws.getD k 0) (by omega) (by omega) (by omega)) ?k1 eF ?kX eN ?k5 ?kK ?kd ?ku ?_
      case k1 => k_asm
      case kX => k_asm
      case k5 => k_asm
      case kK => rfl
      case kd => k_room
      case ku => k_units
      intro r9 news9 h9 tk9 F9 N9 P9
      obtain ⟨⟨t9, rfl⟩, rfl⟩ := P9
      clear eF eN
      k_steps
      have e1 : Str.ofString "x\n" = pageS [0] := xnl_is
      have hlen2 : ((pageP hs ws k).map (· + ws.getD k 0)).length ≤ 6 := by rw [List.length_map]; exact hpl
      have hsum2 : ((pageP hs ws k).map (· + ws.getD k 0)).sum ≤ 96 := by
        rw [sum_map_add]
        have := Nat.mul_le_mul hpl hw2
        omega
      rw [e1]
      refine add_str (fun t' tk2 => ?_) (by rw [pageS_len, pageS_len, sizeLine_eq]; simp only [List.sum_cons, List.sum_nil, List.length_cons, List.length_nil]; omega)
      rw [pageS_cat]
      k_steps
      refine iadd_str (fun t' tk2 => ?_) (by rw [pageS_len, pageS_len, sizeLine_eq]; simp only [List.singleton_append, List.sum_cons, List.length_cons]; omega)
      rw [pageS_cat]
      k_steps
      rename Fr _ _ _ _ => eF
      refine' LStep.intro (_, _) eF (by assumption) (fun _ h => h) (off1_all off) ?k1 ?k2 ?k3
      case k1 => kst_all
      case k2 => kst_same
      case k3 =>
        rw [← Nat.add_assoc, ← hk0, kidsTo_yes (by omega) hq, hk0, List.flatMap_append, ← hP]
        rw [hk0] at hlen2 hsum2
        refine ⟨by simp, ?_, ?_⟩
        · simp only [List.length_append, List.singleton_append, List.length_cons]; omega
        · simp only [List.sum_append, List.singleton_append, List.sum_cons]; omega
    · rename ((hs.getD k 0 : Nat) : Int) ≠ (h : Int) => hqi
      rename Fr _ _ _ _ => eF
      refine' LStep.intro (_, _) eF (by assumption) (fun _ h => h) (off1_all off) ?k1 ?k2 ?k3
      case k1 => kst_all
      case k2 => kst_same
      case k3 =>
        rw [← Nat.add_assoc, ← hk0, kidsTo_no (by omega), hk0]
        exact ⟨hP, by dsimp only; omega, by dsimp only; omega⟩
  · intro c u h' tk' hP F' N'
    clear eF eN rgX
    k_steps
    obtain ⟨hP, _, _⟩ := hP
    rw [show h + 1 + (6 - h) = 7 from by omega] at hP
    refine hret _ news _ _ (by assumption) (by assumption) ⟨⟨_, congrArg (fun z => Value.str (pageS z) _) ?_⟩, rfl⟩
    rw [hP, pageP_step]; rfl
theorem page_does {w : World} {hs ws : List Nat} {hv wv : List Value} {lh lw : Addr} (hhs : hs.length = 7) (hws : ws.length = 7) (hw : ∀ i, ws.getD i 0 ≤ 2) (hw1 : ∀ i, 1 ≤ i → i < 7 → 1 ≤ ws.getD i 0) (hl6 : ∀ h, h < 7 → (pathsF hs 7 h).length ≤ 6) (hA : NatsAre hv hs) (hB : NatsAre wv ws) : ∀ f, PageDoes w hs ws hv wv lh lw f
  | 0 => fun h t n1 n2 news h1 h2 => absurd h1 (by omega)
  | f + 1 => page_step hhs hws hw hw1 hl6 hA hB (page_does hhs hws hw hw1 hl6 hA hB f)
end
section
theorem freshRowsD : True := by (w_top off; trivial)
open PySem PySem.W PySem.Spec PySem.Calls PyProof.Rows PyProof.V
set_option maxRecDepth 100000
set_option maxHeartbeats 4000000
set_option linter.all false
local macro_rules | `(tactic| walk_at "pyIter ref") => `(tactic| (k_here; refine hold_up ?_))
local macro_rules | `(tactic| walk_at "call builtin:sorted") => `(tactic| (k_here; refine hold_up ?_))
local macro_rules | `(tactic| walk_at "call builtin:list.append") => `(tactic| (k_here; refine hold_up ?_))
/-- the ledger bears these paths at these values -/
def PathsIn (led : Led) (pv : List Value) (ps : List (List Nat)) : Prop := pv.length = ps.length ∧ ∀ (j : Nat) (p : List Nat), ps[j]? = some p → ∃ a xs n, pv[j]? = some (.ref a) ∧ (a, listOf xs.toArray n) ∈ led ∧ IntsAre xs (p.map Int.ofNat) ∧ p.length ≤ j
theorem PathsIn.mono {led led' : Led} {pv : List Value} {ps : List (List Nat)} (h : PathsIn led pv ps) (hs : ∀ p ∈ led, p ∈ led') : PathsIn led' pv ps :=
  ⟨h.1, fun j p hp => let ⟨a, xs, n, h1, h2, h3⟩ := h.2 j p hp; ⟨a, xs, n, h1, hs _ h2, h3⟩⟩
theorem pathsL_len (hs : List Nat) : ∀ n, (pathsL hs n).length = n + 1
  | 0 => rfl
  | n + 1 => by
    show (pathsL hs n ++ [_]).length = _
    rw [List.length_append, pathsL_len hs n]; rfl
theorem ints_app : ∀ {xs ys : List Value} {as bs : List Int}, IntsAre xs as → IntsAre ys bs → IntsAre (xs ++ ys) (as ++ bs)
  | _, _, _, _, .nil, h => h
  | _, _, _, _, .cons n t r, h => .cons n t (ints_app r h)
theorem PathsIn.snoc {led : Led} {pv : List Value} {hs : List Nat} {i a : Nat} {xs : List Value} {n : Nat} {p : List Nat} {t : Tok} (h : PathsIn led pv (pathsL hs i)) (hp : (pathsL hs i)[hs.getD (i + 1) 0]? = some p) (hm : (a, listOf (xs ++ [Value.int ((i + 1 : Nat) : Int) t]).toArray n) ∈ led) (hx : IntsAre xs (p.map Int.ofNat)) (hl : p.length ≤ i) : PathsIn led (pv ++ [.ref a]) (pathsL hs (i + 1)) := by
  have e : pathsL hs (i + 1) = pathsL hs i ++ [p ++ [i + 1]] := by
    show pathsL hs i ++ [(pathsL hs i).getD (hs.getD (i + 1) 0) [] ++ [i + 1]] = _
    rw [List.getD_eq_getElem?_getD (l := pathsL hs i), hp]; rfl
  rw [e]
  refine ⟨by rw [List.length_append, List.length_append, h.1]; rfl, fun j q hq => ?_⟩
  by_cases hj : j < (pathsL hs i).length
  · rw [List.getElem?_append_left hj] at hq
    obtain ⟨b, ys, k, h1, h2⟩ := h.2 j q hq
    exact ⟨b, ys, k, by rw [List.getElem?_append_left (by rw [h.1]; exact hj)]; exact h1, h2⟩
  · rw [List.getElem?_append_right (by omega)] at hq
    obtain ⟨j', rfl⟩ : ∃ j', j = (pathsL hs i).length + j' := ⟨j - (pathsL hs i).length, by omega⟩
    rw [Nat.add_sub_cancel_left] at hq
    cases j' with
    | succ j' => simp at hq
    | zero =>
      simp only [List.getElem?_cons_zero, Option.some.injEq] at hq
      subst hq
      refine ⟨a, _, n, ?_, hm, ?_, ?_⟩
      · rw [List.getElem?_append_right (by rw [h.1]; omega), h.1, Nat.add_zero, Nat.sub_self]; rfl
      · rw [List.map_append]; exact ints_app hx (.cons _ _ .nil)
      · rw [List.length_append, pathsL_len]; simp; omega
abbrev rowsS := Led × List Value × Nat
abbrev rowsLd (P : Addr) (rest : Led) (c : rowsS) : Led := (P, listOf c.2.1.toArray c.2.2) :: (c.1 ++ rest)
theorem upd_three {a b c : Addr × Obj} {P L : Addr} {o o' : Obj} {R : Led} {h₀ h : Heap} (_N : News h₀ L h (a :: b :: c :: (P, o) :: R)) (ha : @Ne Nat a.1 P) (hb : @Ne Nat b.1 P) (hc : @Ne Nat c.1 P) (hR : ∀ p ∈ R, p.1 ≠ P) : Upd P o o' (a :: b :: c :: (P, o) :: R) (a :: b :: c :: (P, o') :: R) :=
  .tail ha (.tail hb (.tail hc (.head hR)))
theorem push_toL (l : List Value) (v : Value) : l.toArray.push v = (l ++ [v]).toArray := by simp
section
variable {prog : Program} {w : World} {A : Around} {E : Value → Shared → Prop} {s : Shared} {env : Env} {h₀ : Heap} {x : Str} {body : List Stmt} {Q : Flow → Shared → Prop} {P l0 r : Addr} {cp : Addr × Obj} {news : Led} {t0 u0 v0 : Tok} {m₀ : Str → Option Value} {hs : List Nat}
theorem rows_for (hh : A.handled = none) (hr : IsRange s.heap r 1 ((7 : Nat) : Int) 1 t0 u0 v0) (F : Fr h₀ env.locals s.heap m₀) (N : News h₀ env.locals s.heap ((P, listOf #[.ref l0] 0) :: (l0, listOf #[] 0) :: cp :: news)) (hl : (@LT.lt Nat _ l0 P) ∧ (@LT.lt Nat _ cp.1 P) ∧ AllLt P news)
    (turn : Hold (∀ (k : Nat) t tl pv nn h tk I oI, 1 ≤ k → k < 7 → (∀ p ∈ (P, listOf (List.toArray pv) nn) :: (tl ++ cp :: news), p.1 ≠ I) → PathsIn (tl ++ cp :: news) pv (pathsL hs (k - 1)) → (∀ p ∈ tl ++ cp :: news, p.1 ≠ P) → Fr h₀ env.locals h (fun y => if y = x then some (.int (k : Int) t) else m₀ y) → News h₀ env.locals h ((I, oI) :: (P, listOf (List.toArray pv) nn) :: (tl ++ cp :: news)) →
      wpAny (model prog w) A (execs body env) (LStep h₀ env.locals (rowsLd P (cp :: news)) (fun _ => []) x [] m₀ (fun c => PathsIn (c.1 ++ cp :: news) c.2.1 (pathsL hs k) ∧ ∀ p ∈ c.1 ++ cp :: news, p.1 ≠ P) I oI { s with heap := h, toks := tk } Q) E { s with heap := h, toks := tk }))
    (done : Hold (∀ tl pv nn (u : Str → Option Value) h tk, PathsIn (tl ++ cp :: news) pv (pathsL hs 6) → (∀ p ∈ tl ++ cp :: news, p.1 ≠ P) → Fr h₀ env.locals h (fun y => if y = x then u y else m₀ y) → News h₀ env.locals h ((P, listOf (List.toArray pv) nn) :: (tl ++ cp :: news)) → Q .next { s with heap := h, toks := tk })) :
    wpAny (model prog w) A (pyIter (.ref r)) (fun it s₂ => LoopAtV prog w A h₀ env x body Q E it s₂) E s := by
  refine for_range (σ := rowsS) (rowsLd P (cp :: news)) (fun _ => []) [] (fun i c => PathsIn (c.1 ++ cp :: news) c.2.1 (pathsL hs i) ∧ ∀ p ∈ c.1 ++ cp :: news, p.1 ≠ P) ([(l0, listOf [].toArray 0)], [Value.ref l0], 0) hh hr (by decide +kernel) (by decide +kernel : Builtin.Range.rangeSize 1 ((7 : Nat) : Int) 1 = ((6 : Nat) : Int)) F N (fun _ h => nomatch h) ⟨⟨rfl, ?_⟩, ?_⟩ ?_ ?_
  · intro j p hp
    cases j with
    | succ j => simp [pathsL] at hp
    | zero =>
      obtain rfl : [] = p := by simpa [pathsL] using hp
      exact ⟨l0, [], 0, rfl, List.mem_cons_self .., .nil, Nat.le_refl _⟩
  · intro p hp
    rcases List.mem_cons.mp hp with rfl | hp
    · exact Nat.ne_of_lt hl.1
    rcases List.mem_cons.mp hp with rfl | hp
    · exact Nat.ne_of_lt hl.2.1
    · exact Nat.ne_of_lt (tb_ltOf hl.2.2 p hp)
  · rintro i t ⟨tl, pv, nn⟩ u h tk I oI hi off ⟨hP, hne⟩ F₁ N₁
    have e : (1 : Int) + (i : Int) = ((i + 1 : Nat) : Int) := by omega
    rw [e] at F₁
    have := turn (i + 1) t tl pv nn h tk I oI (by omega) (by omega) off hP hne (by simpa [kstB] using F₁) N₁
    exact this
  · rintro ⟨tl, pv, nn⟩ u h tk ⟨hP, hne⟩ F₁ N₁
    exact done tl pv nn u h tk hP hne (by simpa [kstB] using F₁) N₁
theorem rows_end {L I D l1 : Addr} {oI : Obj} {s₁ : Shared} {o1 : Obj} {tl : Led} {pv xs : List Value} {nn k a : Nat} {p : List Nat} {t : Tok} {h' : Heap} {tk : Nat} {m' : Str → Option Value} (F : Fr h₀ L h' m') (N : News h₀ L h' ((D, listOf (xs ++ [Value.int (k : Int) t]).toArray 0) :: (l1, o1) :: (I, oI) :: (P, listOf (pv.toArray.push (.ref D)) nn) :: (tl ++ cp :: news)))
    (hk : 1 ≤ k) (h : PathsIn (tl ++ cp :: news) pv (pathsL hs (k - 1))) (hp : (pathsL hs (k - 1))[hs.getD k 0]? = some p) (hx : IntsAre xs (p.map Int.ofNat)) (hlp : p.length ≤ k - 1) (hne : ∀ p ∈ tl ++ cp :: news, p.1 ≠ P) (hDP : @Ne Nat D P) (off : ∀ p ∈ (P, listOf (List.toArray pv) a) :: (tl ++ cp :: news), p.1 ≠ I) (hDI : @Ne Nat D I) (hr : ∀ z, z ≠ x → m' z = m₀ z) :
    LStep h₀ L (rowsLd P (cp :: news)) (fun _ => []) x [] m₀ (fun c => PathsIn (c.1 ++ cp :: news) c.2.1 (pathsL hs k) ∧ ∀ p ∈ c.1 ++ cp :: news, p.1 ≠ P) I oI s₁ Q .next { s₁ with heap := h', toks := tk } := by
  rw [push_toL] at N
  obtain ⟨i, rfl⟩ : ∃ i, k = i + 1 := ⟨k - 1, by omega⟩
  rw [Nat.add_sub_cancel] at h hp hlp
  refine LStep.intro ((D, listOf (xs ++ [Value.int ((i + 1 : Nat) : Int) t]).toArray 0) :: tl, pv ++ [.ref D], nn) F N ?_ ?_ (fun _ h => nomatch h) (fun z h1 _ _ => hr z h1) ⟨?_, ?_⟩
  · intro q hq
    simp only [rowsLd, List.mem_cons, List.mem_append, List.cons_append] at hq ⊢
    rcases hq with h | h | h | h | h | h <;> simp [h]
  · intro q hq
    simp only [rowsLd, List.mem_cons, List.cons_append] at hq
    rcases hq with rfl | rfl | h
    · exact off (P, listOf (List.toArray pv) a) (List.mem_cons_self ..)
    · exact hDI
    · exact off q (List.mem_cons_of_mem _ h)
  · exact (h.mono fun q hq => List.mem_cons_of_mem _ hq).snoc hp (List.mem_cons_self ..) hx hlp
  · intro q hq
    rcases List.mem_cons.mp hq with rfl | hq
    · exact hDP
    · exact hne q hq
end
theorem mem_in2 {a b c x : Addr × Obj} {L : Addr} {tl news : Led} {h₀ h : Heap} (_N : News h₀ L h (a :: b :: (tl ++ c :: news))) (hm : x ∈ news) : x ∈ tl ++ c :: news := List.mem_append_right tl (List.mem_cons_of_mem _ hm)
theorem mem_in1 {b c x : Addr × Obj} {L : Addr} {tl news : Led} {h₀ h : Heap} (_N : News h₀ L h (b :: (tl ++ c :: news))) (hm : x ∈ news) : x ∈ tl ++ c :: news := List.mem_append_right tl (List.mem_cons_of_mem _ hm)
/-- the ledger bears these paths at these values -/
def PathsAt (led : Led) (pv : List Value) (ps : List (List Nat)) : Prop := pv.length = ps.length ∧ ∀ (j : Nat) (p : List Nat), ps[j]? = some p → ∃ a xs n, pv[j]? = some (.ref a) ∧ (a, listOf xs.toArray n) ∈ led ∧ IntsAre xs (p.map Int.ofNat)
theorem PathsIn.tail {led led' : Led} {pv : List Value} {hs : List Nat} (h : PathsIn led pv (pathsL hs 6)) (hs' : ∀ p ∈ led, p ∈ led') : PathsAt led' (pv.drop 1) ((pathsL hs 6).drop 1) :=
  ⟨by rw [List.length_drop, List.length_drop, h.1], fun j p hp => by
    rw [List.getElem?_drop] at hp
    obtain ⟨a, xs, n, h1, h2, h3, _⟩ := h.2 _ p hp
    exact ⟨a, xs, n, by rw [List.getElem?_drop]; exact h1, hs' _ h2, h3⟩⟩
theorem sort_paths {prog : Program} {w : World} {A : Around} {E : Value → Shared → Prop} {s : Shared} {h₀ : Heap} {L D0 : Addr} {m : Str → Option Value} {news : Led} {qv : List Value} {n : Nat} {hs : List Nat} {Q : Value → Shared → Prop} (F : Fr h₀ L s.heap m) (N : News h₀ L s.heap news) (hl : (D0, listOf qv.toArray n) ∈ news)
    (hq : PathsAt news qv ((pathsL hs 6).drop 1)) (hu : A.in1.in1.units < cLine) (hok : sortOk hs = true)
    (h : ∀ D out c h', Fr h₀ L h' m → News h₀ L h' ((D, listOf (List.toArray out) c) :: news) → (∀ q ∈ news, q.1 < D) → PathsAt news out (pathsF hs 7 0) → Q (.ref D) { s with heap := h' }) :
    wpAny (model prog w) A (call (.builtin "sorted") [.ref D0]) Q E s := by
  have hlen : ((pathsL hs 6).drop 1).length = 6 := by rw [List.length_drop, pathsL_len]
  have hql : qv.length = 6 := by rw [hq.1, hlen]
  unfold sortOk at hok
  dsimp only at hok
  cases hr : kasRun (fun i j => lexN (((pathsL hs 6).drop 1).getD i []) (((pathsL hs 6).drop 1).getD j [])) 6 (kas_sort 6) with
  | none => rw [hr] at hok; cases hok
  | some r =>
    rw [hr] at hok
    simp only [Bool.and_eq_true, List.all_eq_true, decide_eq_true_eq] at hok
    obtain ⟨⟨hr6, hout⟩, _⟩ := hok
    have hat : ∀ i, i < 6 → ∃ a xs n, qv.getD i .none = .ref a ∧ (a, listOf xs.toArray n) ∈ news ∧ IntsAre xs ((((pathsL hs 6).drop 1).getD i []).map Int.ofNat) := fun i hi => by
      obtain ⟨p, hp⟩ : ∃ p, ((pathsL hs 6).drop 1)[i]? = some p := ⟨_, List.getElem?_eq_getElem (by rw [hlen]; exact hi)⟩
      obtain ⟨a, xs, k, h1, h2, h3⟩ := hq.2 i p hp
      refine ⟨a, xs, k, by rw [List.getD_eq_getElem?_getD, h1]; rfl, h2, ?_⟩
      rw [List.getD_eq_getElem?_getD, hp]; exact h3
    refine kas_sorted (T := .type "list") F N (News.isList N hl) (by omega) (by omega) ?_ (by decide +kernel) ?_
    · intro h2 F2 N2 v hv
      obtain ⟨i, hi, rfl⟩ := List.mem_iff_getElem.mp hv
      obtain ⟨a, xs, k, h1, h2', _⟩ := hat i (by omega)
      have e : qv[i] = .ref a := by rw [← h1, List.getD_eq_getElem?_getD, List.getElem?_eq_getElem hi]; rfl
      rw [e]
      exact fun A' Q' E' s' kk q => wpAny_typeOf ⟨_, kk _ _ (N2 _ h2').1, rfl⟩ q
    · intro D e1 h' F' N' hD
      rw [hql]
      refine kasWp_run (f := fun i j => lexN (((pathsL hs 6).drop 1).getD i []) (((pathsL hs 6).drop 1).getD j [])) (n := 6) ?_ _ hr ?_
      · intro i j C hi hj hC
        obtain ⟨a, xs, k, h1, h2, h3⟩ := hat i hi
        obtain ⟨b, ys, k2, g1, g2, g3⟩ := hat j hj
        show wpAny _ _ (keyLt' oneType' (qv.getD i .none) (qv.getD j .none)) _ _ _
        rw [h1, g1]
        refine lt_lists hu (N' _ (List.mem_cons_of_mem _ h2)).1 (N' _ (List.mem_cons_of_mem _ g2)).1 h3 g3 ?_
        rw [lexB_N]; exact hC
      · refine KasFin.intro F' N' (UpdF.head fun p hp => Nat.ne_of_lt (hD p hp)) ?_
        intro h2 c F2 N2
        refine h D _ c h2 F2 N2 hD ⟨by rw [← hout]; simp, fun j p hp => ?_⟩
        rw [← hout, List.getElem?_map] at hp
        obtain ⟨i, hi, rfl⟩ := Option.map_eq_some_iff.mp hp
        obtain ⟨a, xs, k, h1, h2, h3⟩ := hat i (hr6 i (List.mem_of_getElem? hi))
        exact ⟨a, xs, k, by rw [List.getElem?_map, hi, Option.map_some, h1], h2, h3⟩
section
variable {prog : Program} {w : World} {A : Around} {h₀ : Heap} {L : Addr} {m : Str → Option Value} {env : Env} {elt : PySem.Expr} {x : Str} {scope : Scope} {cl : List (Str × Addr)} {s : Shared} {S : Led → Prop} {Fin : List Value → Led → Prop} {news : Led}
/-- a comprehension from paths to texts whose ledger is dropped -/
theorem comp_paths {out : List Value} {ps : List (List Nat)} (g : List Nat → Str) (ho : PathsAt news out ps)
    (turn : ∀ p a xs n I oI C oC D m₂ ys h tk (E' : Value → Shared → Prop), p ∈ ps → (a, listOf (List.toArray xs) n) ∈ news → IntsAre xs (p.map Int.ofNat) → LCg.NsObj oC m₂ → m₂ x = some (.ref a) → Fr h₀ L h m → News h₀ L h ((I, oI) :: (C, oC) :: (D, LCg.lst ys) :: news) → LCg.Off3 I C D news → ((@Ne Nat I C) ∧ (@Ne Nat I D) ∧ (@Ne Nat C D)) →
      wpAny (model prog w) A (eval elt (compEnvC scope cl C env)) (LCg.CompEnd h₀ L m { s with heap := h, toks := tk } I oI C oC D (LCg.lst ys) S (fun v nx' => nx' = news ∧ ∃ t, v = .str (g p) t)) E' { s with heap := h, toks := tk })
    (fin : ∀ ys, StrsAre ys (ps.map g) → Fin ys news) : LCg.CompRest prog w A h₀ L m env elt x scope cl s S (fun i v => out.toArray[i]? = some v) Fin out.toArray.size 0 [] news := by
  refine comp_rest (fun i ys nx => nx = news ∧ StrsAre ys ((ps.take i).map g)) ⟨rfl, by simpa using StrsAre.nil⟩ ?_ ?_
  · rintro i v I oI C oC D m₂ ys nx h tk E' hi hv ⟨rfl, hs⟩ hC hxv F N off ne
    have hi' : i < ps.length := by rw [List.size_toArray, ho.1] at hi; exact hi
    obtain ⟨a, xs, n, h1, h2, h3⟩ := ho.2 i _ (List.getElem?_eq_getElem hi')
    have hv' : v = .ref a := by
      have hv2 : out[i]? = some v := by simpa using hv
      rw [h1] at hv2; exact (Option.some.inj hv2).symm
    subst hv'
    refine wpAny_mono (turn _ a xs n I oI C oC D m₂ ys h tk E' (List.getElem_mem hi') h2 h3 hC hxv F N off ne) (fun v s₂ hq => ?_) fun _ _ e => e
    obtain ⟨h', tk', nw, e, F', N', off', hS, rfl, t', rfl⟩ := hq
    refine ⟨h', tk', nw, e, F', N', off', hS, rfl, ?_⟩
    rw [List.take_add_one, List.getElem?_eq_getElem hi']
    simp only [Option.toList_some, List.map_append, List.map_cons, List.map_nil]
    exact hs.append' (.cons _ _ .nil)
  · rintro ys nx ⟨rfl, hs⟩
    rw [List.size_toArray, ho.1, List.take_length] at hs
    exact fin ys hs
/-- a comprehension from ints to ints whose ledger is dropped -/
theorem comp_ints {vs : List Value} {xs : List Int} (g : Int → Int) (ho : IntsAre vs xs)
    (turn : ∀ y t I oI C oC D m₂ ys h tk (E' : Value → Shared → Prop), y ∈ xs → LCg.NsObj oC m₂ → m₂ x = some (.int y t) → Fr h₀ L h m → News h₀ L h ((I, oI) :: (C, oC) :: (D, LCg.lst ys) :: news) → LCg.Off3 I C D news → ((@Ne Nat I C) ∧ (@Ne Nat I D) ∧ (@Ne Nat C D)) →
      wpAny (model prog w) A (eval elt (compEnvC scope cl C env)) (LCg.CompEnd h₀ L m { s with heap := h, toks := tk } I oI C oC D (LCg.lst ys) S (fun v nx' => nx' = news ∧ ∃ t, v = .int (g y) t)) E' { s with heap := h, toks := tk })
    (fin : ∀ ys, IntsAre ys (xs.map g) → Fin ys news) : LCg.CompRest prog w A h₀ L m env elt x scope cl s S (fun i v => vs.toArray[i]? = some v) Fin vs.toArray.size 0 [] news := by
  refine comp_rest (fun i ys nx => nx = news ∧ IntsAre ys ((xs.take i).map g)) ⟨rfl, by simpa using IntsAre.nil⟩ ?_ ?_
  · rintro i v I oI C oC D m₂ ys nx h tk E' hi hv ⟨rfl, hs⟩ hC hxv F N off ne
    have hl := ho.length
    have hi' : i < xs.length := by rw [List.size_toArray, hl] at hi; exact hi
    obtain ⟨t, h1⟩ := ints_get ho (List.getElem?_eq_getElem hi')
    have hv' : v = .int xs[i] t := by
      have hv2 : vs[i]? = some v := by simpa using hv
      rw [h1] at hv2; exact (Option.some.inj hv2).symm
    subst hv'
    refine wpAny_mono (turn _ t I oI C oC D m₂ ys h tk E' (List.getElem_mem hi') hC hxv F N off ne) (fun v s₂ hq => ?_) fun _ _ e => e
    obtain ⟨h', tk', nw, e, F', N', off', hS, rfl, t', rfl⟩ := hq
    refine ⟨h', tk', nw, e, F', N', off', hS, rfl, ?_⟩
    rw [List.take_add_one, List.getElem?_eq_getElem hi']
    simp only [Option.toList_some, List.map_append, List.map_cons, List.map_nil]
    exact ints_app hs (.cons _ _ .nil)
  · rintro ys nx ⟨rfl, hs⟩
    rw [List.size_toArray, ho.length, List.take_length] at hs
    exact fin ys hs
end
theorem ints_take : ∀ {vs : List Value} {xs : List Int} (k : Nat), IntsAre vs xs → IntsAre (vs.take k) (xs.take k)
  | _, _, 0, _ => by simpa using IntsAre.nil
  | _, _, k + 1, .nil => .nil
  | _, _, k + 1, .cons n t r => .cons n t (ints_take k r)
theorem paths_lt (hs : List Nat) : ∀ (f h : Nat), ∀ p ∈ pathsF hs f h, ∀ v ∈ p, v < 7
  | 0, _, p, hp => by simp [pathsF] at hp
  | f + 1, h, p, hp => by
    rw [pathsF] at hp
    obtain ⟨k, hk, hp⟩ := List.mem_flatMap.mp hp
    have := kids_lt hk
    rcases List.mem_cons.mp hp with rfl | hp
    · intro v hv; rw [List.mem_singleton.mp hv]; exact this.2.1
    · obtain ⟨q, hq, rfl⟩ := List.mem_map.mp hp
      intro v hv
      rcases List.mem_cons.mp hv with rfl | hv
      · exact this.2.1
      · exact paths_lt hs f k q hq v hv
local macro_rules | `(tactic| walk_at "CompSrc") => `(tactic| (k_here; refine hold_up ?_))
theorem spS_len (n : Nat) : (spS n).length = n := by simp [Str.length, spS]
theorem sp_x (n : Nat) : spS n ++ Str.ofString "x" = rowS n := by
  rw [x_is]
  refine str_of_toList ?_
  rw [Str.cps_append]
  simp [spS, rowS]
theorem mulOk_spn {n : Nat} (h : n ≤ 14) : MulOk (Str.ofString " ") (n : Int) := by
  have : ∀ n, n < 15 → MulOk (Str.ofString " ") ((n : Nat) : Int) := by unfold MulOk; decide +kernel
  exact this n (by omega)
theorem mul_spn {n : Nat} (h : n ≤ 14) : Txt.mul (Str.ofString " ") (n : Int) = spS n := by
  have : ∀ n, n < 15 → Txt.mul (Str.ofString " ") ((n : Nat) : Int) = spS n := by decide +kernel
  exact this n (by omega)
theorem sum_cast : ∀ l : List Nat, (l.map fun n => ((n : Nat) : Int)).sum = ((l.sum : Nat) : Int)
  | [] => rfl
  | a :: l => by rw [List.map_cons, List.sum_cons, List.sum_cons, sum_cast l]; omega
theorem indent_sum (ws : List Nat) {p : List Nat} {xs : List Value} (hx : IntsAre xs (p.map Int.ofNat)) : (((p.map Int.ofNat).take (xs.length - 1)).map fun v => ((ws.getD v.toNat 0 : Nat) : Int)).sum = ((indentP ws p : Nat) : Int) := by
  have hl := hx.length
  rw [List.length_map] at hl
  unfold indentP
  rw [← sum_cast, List.map_map, hl, ← List.map_take, List.map_map, List.dropLast_eq_take]
  rfl
theorem mem_cell {b c : Addr × Obj} {L : Addr} {tl news : Led} {h₀ h : Heap} (_N : News h₀ L h (b :: (tl ++ c :: news))) : c ∈ tl ++ c :: news := List.mem_append_right tl (List.mem_cons_self ..)
theorem rows_does {w : World} {hs ws : List Nat} {hv wv : List Value} {lh lw : Addr} {n1 n2 : Nat} {news : Led} (hhs : hs.length = 7) (hws : ws.length = 7) (hw : ∀ i, ws.getD i 0 ≤ 2) (hh : ∀ k, 1 ≤ k → k < 7 → hs.getD k 0 < k) (hok : sortOk hs = true) (hl6 : Hold ((pathsF hs 7 0).length ≤ 6)) (hA : NatsAre hv hs) (hB : NatsAre wv ws) (m1 : (lh, listOf hv.toArray n1) ∈ news) (m2 : (lw, listOf wv.toArray n2) ∈ news) :
  Does w 183 [.ref lh, .ref lw] 2 60 news fun r news' => ∃ D vs nn, r = .ref D ∧ (∀ x ∈ news, x.1 ≠ D) ∧ news' = (D, listOf vs.toArray nn) :: news ∧ StrsAre vs ((pageP hs ws 0).map rowS) := by
  unfold Does
  k_fill
  intro dp un gd cn cs a ccd cl outer A₀ base h₀ L m s mean mg mb Q E B F X' N T hk hd hu hret
  have hvb : hv.length ≤ 1000 := by rw [hA.1, hhs]; decide
  refine wpAny_call ?_
  first | k_dflt k_enter | fail "enter"
  k_steps
  have hvl : hv.length = 7 := by rw [hA.1, hhs]
  have hwl : wv.length = 7 := by rw [hB.1, hws]
  unfold Hold
  rename Fr _ _ _ _ => eF
  rename News _ _ _ _ => eN
  rename IsRange _ _ _ _ _ _ _ _ => rgX
  rw [hvl] at rgX
  rename _ ∧ _ ∧ AllLt _ news => lP
  rename _ ∧ AllLt _ news => l0
  with_unfolding_all refine' rows_for (hs := hs) (by rfl) rgX eF eN lP ?_ ?_
  · unfold Hold
    intro k t tl pv nn h' tk' I oI h1 h7 off hP hne F' N'
    clear eF eN rgX
    have hlt := hh k h1 h7
    obtain ⟨t1, hx1⟩ := hA.at (i := k) (by omega)
    obtain ⟨p, hp⟩ : ∃ p, (pathsL hs (k - 1))[hs.getD k 0]? = some p := ⟨_, List.getElem?_eq_getElem (by rw [pathsL_len]; omega)⟩
    obtain ⟨pa, xs, pn, hpv, hpm, hpx, hpl⟩ := hP.2 _ _ hp
    have hpvl : pv.length ≤ 10 := by rw [hP.1, pathsL_len]; omega
    have hxl : xs.length ≤ 10 := by have := hpx.length; rw [List.length_map] at this; omega
    have off1 := all_off1 off
    simp only [LCg.Off1] at off1
    have m1' := mem_in2 N' m1
    k_steps
    unfold Hold
    rename Fr _ _ _ _ => eF
    rename News _ _ _ _ => eN
    refine append_K eF eN (upd_three eN (by omega) (by omega) (Ne.symm off1.1) hne) ?_ (big_ok (by rw [List.size_toArray]; omega))
    intro h2 F2 N2
    clear eF eN
    k_steps
    exact rows_end F2 N2 h1 hP hp hpx (by omega) hne (by omega) off (by omega) (fun z hz => by simp only [if_neg hz])
  · unfold Hold
    intro tl pv nn u h' tk' hP hne F' N'
    clear eF eN rgX
    have hpvl : pv.length = 7 := by rw [hP.1, pathsL_len]
    have m2' := mem_in1 N' m2
    have mc' := mem_cell N'
    k_steps
    unfold Hold
    rename Fr _ _ _ _ => eF
    rename News _ _ _ _ => eN
    refine sort_paths (hs := hs) eF eN (List.mem_cons_self ..) (hP.tail fun p hp => List.mem_cons_of_mem _ (List.mem_cons_of_mem _ hp)) (by k_units) hok ?_
    intro DS out cS hS FS NS lS hout
    clear eF eN
    k_steps
    unfold Hold
    refine LCg.CompSrc.ledger (by rfl) (by k_asm) (by k_asm) (List.mem_cons_self ..) (by rw [List.size_toArray]; exact big_ok (by have := hout.1; unfold Hold at hl6; omega)) ?_
    intro g1
    refine comp_paths (fun p => rowS (indentP ws p)) (⟨hout.1, fun j p hp => let ⟨a, xs, n, q1, q2, q3⟩ := hout.2 j p hp; ⟨a, xs, n, q1, List.mem_cons_of_mem _ q2, q3⟩⟩ : PathsAt _ out (pathsF hs 7 0)) ?_ ?_
    · intro p a xs n I oI C oC D m₂ ys h tk E' hp hm hx hC hxv F N off ne
      have hpl := paths_len hs 7 0 p hp
      have hxl : xs.length ≤ 7 := by have := hx.length; rw [List.length_map] at this; omega
      have hind := indentP_le hw hp
      k_steps
      unfold Hold
      refine LCg.CompSrc.ledger (by rfl) (by k_asm) (by k_asm) (List.mem_cons_self ..) (by rw [List.size_toArray, List.length_take]; exact big_ok (by omega)) ?_
      intro g2
      refine comp_ints (fun v => ((ws.getD v.toNat 0 : Nat) : Int)) (ints_take _ hx) ?_ ?_
      · intro y t2 I2 oI2 C2 oC2 D2 m3 ys2 h2 tk2 E2 hy hC2 hxv2 F2 N2 off2 ne2
        obtain ⟨v, hv, rfl⟩ := List.mem_map.mp (List.mem_of_mem_take hy)
        have hv7 := paths_lt hs 7 0 p hp v hv
        obtain ⟨t3, hx3⟩ := hB.at (i := v) (by omega)
        replace hxv2 : m3 (Str.ofString "v") = some (Value.int ((v : Nat) : Int) t2) := hxv2
        k_steps
        exact LCg.CompEnd.intro (by assumption) (by assumption) _ (fun p hp => hp) off2 (.inr ⟨_, List.mem_cons_self .., rfl, _, rfl⟩) ⟨rfl, _, rfl⟩
      · intro ys2 hys2
        k_steps
        rw [indent_sum ws hx]
        refine SB.mul (mulOk_spn (by omega)) fun t' tk' => ?_
        rw [mul_spn (by omega)]
        k_steps
        refine add_str (fun t' tk' => ?_) (by rw [spS_len, sizeLine_eq, x_is]; show _ + 1 ≤ _; omega)
        rw [sp_x]
        k_steps
        exact LCg.CompEnd.intro (by assumption) (by assumption) _ (fun p hp => List.mem_cons_of_mem _ (List.mem_cons_of_mem _ hp)) off (.inr ⟨_, List.mem_cons_self .., rfl, _, rfl⟩) ⟨rfl, _, rfl⟩
    · intro ys hys
      k_steps
      rename News _ _ _ _ => eN
      refine hret _ _ _ _ (by assumption) (news_sub eN (fun p hp => by simp only [List.mem_cons, List.mem_append] at hp ⊢; rcases hp with h | h <;> simp [h] : ∀ p ∈ (_, LCg.lst ys) :: news, _)) ⟨_, ys, ys.length, rfl, ?_, rfl, ?_⟩
      · rename _ ∧ _ ∧ _ ∧ LCg.Off1 _ _ => hoo
        exact fun x hx => off1_all hoo.2.2.2 x (List.mem_append_right _ (List.mem_cons_of_mem _ hx))
      · unfold pageP; rw [List.map_map]; exact hys
end
section
theorem freshOutl : True := by (w_top off; trivial)
open PySem PySem.W PySem.Spec PySem.Calls PyProof.Rows PyProof.V
set_option maxRecDepth 100000
set_option maxHeartbeats 4000000
set_option linter.all false
local macro_rules | `(tactic| walk_at "pyIter ref") => `(tactic| (k_here; refine hold_up ?_))
local macro_rules | `(tactic| walk_at "call builtin:list.append") => `(tactic| (k_here; refine hold_up ?_))
local macro_rules | `(tactic| walk_at "CompSrc") => `(tactic| (k_here; refine hold_up ?_))
local macro_rules | `(tactic| walk_at "subscriptTail") => `(tactic| (k_here; (with_reducible show wpAny _ _ (subscriptTail _ (PySem.Expr.Slice (some _) none (some _) _) (Value.ref _) (Value.ref _)) _ _ _); refine hold_up ?_))
local macro_rules | `(tactic| walk_at "subscriptTail Name Slice ref ref") => `(tactic| (k_here; (with_reducible show wpAny _ _ (subscriptTail _ (PySem.Expr.Slice (some _) none (some _) _) (Value.ref _) (Value.ref _)) _ _ _); refine hold_up ?_))
/-- as Does, of a function that reads this list of the caller's caller -/
def DoesB (w : World) (sc : Addr) (vs : List Value) (f : Addr) (args : List Value) (d u : Nat) (news : Led) (Post : Value → Led → Prop) : Prop :=
  ∀ (dp un : Nat) (gd : Option (List Code)) (cn : Str) (cs : Scope) (a : Addr) (ccd : Value) (cl : List (Str × Addr)) (outer : List Env) (A₀ : Around) (base h₀ : Heap) (L : Addr) (m : Str → Option Value) (s : Shared)
    (mean : ExcName → Option Value) (mg mb : Str → Option Value) (Q E : Value → Shared → Prop),
    Below A₀ base outer h₀ → Fr h₀ L s.heap m → (hd.heap_39 w.params).In h₀ → News h₀ L s.heap news → Top hd.view_39 lse mean mg mb h₀ → cs.kind = .function → h₀.IsList sc vs.toArray →
    dp + d < recursionLimit → un + u < cLine →
    (∀ r news' h' tk', Fr h₀ L h' m → News h₀ L h' news' → Post r news' → Q r { s with heap := h', toks := tk' }) →
    wpAny (model (RowW.prog (OpenRow.toRowW (OpenLaw.row Challenge.rw_wa0022_01))) w) (ktrTop dp un gd cn cs L a ccd cl outer) (call (.ref f) args) Q E s
/-- what the outline's lists hold behind i turns -/
def OutOk (hv wv : List Value) (i : Nat) : Prop := ∃ hs ws : List Nat, hs.length = i + 1 ∧ ws.length = i + 1 ∧ NatsAre hv hs ∧ NatsAre wv ws ∧ hs.getD 0 0 = 0 ∧ ws.getD 0 0 = 0 ∧ (∀ k, 1 ≤ k → k ≤ i → hs.getD k 0 < k) ∧ ∀ k, 1 ≤ k → k ≤ i → 1 ≤ ws.getD k 0 ∧ ws.getD k 0 ≤ 2
theorem NatsAre.snoc {vs : List Value} {ns : List Nat} (h : NatsAre vs ns) (n : Nat) (t : Tok) : NatsAre (vs ++ [Value.int (n : Int) t]) (ns ++ [n]) := by
  refine ⟨by rw [List.length_append, List.length_append, h.1]; rfl, fun i k hk => ?_⟩
  by_cases hi : i < ns.length
  · rw [List.getElem?_append_left hi] at hk
    rw [List.getElem?_append_left (by rw [h.1]; exact hi)]
    exact h.2 i k hk
  · rw [List.getElem?_append_right (by omega)] at hk
    rw [List.getElem?_append_right (by rw [h.1]; omega), h.1]
    cases q : i - ns.length with
    | zero => rw [q] at hk; simp at hk; subst hk; exact ⟨t, rfl⟩
    | succ j => rw [q] at hk; simp at hk
theorem getD_snoc {l : List Nat} {n k : Nat} : (l ++ [n]).getD k 0 = if k < l.length then l.getD k 0 else if k = l.length then n else 0 := by
  simp only [List.getD_eq_getElem?_getD]
  split
  · rename_i h; rw [List.getElem?_append_left h]
  · rename_i h
    rw [List.getElem?_append_right (Nat.le_of_not_lt h)]
    split
    · rename_i h2; rw [h2, Nat.sub_self]; rfl
    · obtain ⟨j, hj⟩ : ∃ j, k - l.length = j + 1 := ⟨k - l.length - 1, by omega⟩
      rw [hj]; simp
theorem OutOk.snoc {hv wv : List Value} {i : Nat} {a b : Int} {t u : Tok} (h : OutOk hv wv i) (ha : 0 ≤ a) (ha2 : a < (i : Int) + 1) (hb : 1 ≤ b) (hb2 : b ≤ 2) : OutOk (hv ++ [Value.int a t]) (wv ++ [Value.int b u]) (i + 1) := by
  obtain ⟨hs, ws, h1, h2, h3, h4, h5, h6, h7, h8⟩ := h
  obtain ⟨a', rfl⟩ : ∃ a' : Nat, a = (a' : Int) := ⟨a.toNat, by omega⟩
  obtain ⟨b', rfl⟩ : ∃ b' : Nat, b = (b' : Int) := ⟨b.toNat, by omega⟩
  refine ⟨hs ++ [a'], ws ++ [b'], by simp [h1], by simp [h2], h3.snoc a' t, h4.snoc b' u, ?_, ?_, ?_, ?_⟩
  · rw [getD_snoc, if_pos (by omega)]; exact h5
  · rw [getD_snoc, if_pos (by omega)]; exact h6
  · intro k k1 k2
    rw [getD_snoc]
    split
    · exact h7 k k1 (by omega)
    · split <;> omega
  · intro k k1 k2
    rw [getD_snoc]
    split
    · exact h8 k k1 (by omega)
    · split <;> omega
abbrev outS := List Value × Nat × List Value × Nat
abbrev outLd (lw lh : Addr) (rest : Led) (c : outS) : Led := (lw, listOf c.2.2.1.toArray c.2.2.2) :: (lh, listOf c.1.toArray c.2.1) :: rest
section
variable {prog : Program} {w : World} {A : Around} {E : Value → Shared → Prop} {s : Shared} {env : Env} {h₀ : Heap} {x : Str} {body : List Stmt} {Q : Flow → Shared → Prop} {lw lh r : Addr} {ob : Addr × Obj} {news : Led} {t0 u0 v0 t1 t2 : Tok} {m₀ : Str → Option Value} {stored : List Str}
theorem outl_for (stored : List Str) (hh : A.handled = none) (hr : IsRange s.heap r 1 7 1 t0 u0 v0) (F : Fr h₀ env.locals s.heap m₀) (N : News h₀ env.locals s.heap ((lw, listOf #[.int 0 t2] 0) :: (lh, listOf #[.int 0 t1] 0) :: ob :: news))
    (turn : Hold (∀ (k : Nat) t hv n1 wv n2 (u : Str → Option Value) h tk I oI, 1 ≤ k → k < 7 → (∀ p ∈ (lw, listOf (List.toArray wv) n2) :: (lh, listOf (List.toArray hv) n1) :: ob :: news, p.1 ≠ I) → OutOk hv wv (k - 1) → Fr h₀ env.locals h (fun y => if y = x then some (.int (k : Int) t) else if stored.contains y then u y else m₀ y) → News h₀ env.locals h ((I, oI) :: (lw, listOf (List.toArray wv) n2) :: (lh, listOf (List.toArray hv) n1) :: ob :: news) →
      wpAny (model prog w) A (execs body env) (LStep h₀ env.locals (outLd lw lh (ob :: news)) (fun _ => []) x stored m₀ (fun c => OutOk c.1 c.2.2.1 k) I oI { s with heap := h, toks := tk } Q) E { s with heap := h, toks := tk }))
    (done : Hold (∀ hv n1 wv n2 (u : Str → Option Value) h tk, OutOk hv wv 6 → Fr h₀ env.locals h (fun y => if y = x then u y else if stored.contains y then u y else m₀ y) → News h₀ env.locals h ((lw, listOf (List.toArray wv) n2) :: (lh, listOf (List.toArray hv) n1) :: ob :: news) → Q .next { s with heap := h, toks := tk })) :
    wpAny (model prog w) A (pyIter (.ref r)) (fun it s₂ => LoopAtV prog w A h₀ env x body Q E it s₂) E s := by
  refine for_range (σ := outS) (outLd lw lh (ob :: news)) (fun _ => []) stored (fun i c => OutOk c.1 c.2.2.1 i) ([Value.int 0 t1], 0, [Value.int 0 t2], 0) hh hr (by decide +kernel) (by decide +kernel : Builtin.Range.rangeSize 1 7 1 = ((6 : Nat) : Int)) F N (fun _ h => nomatch h) ?_ ?_ ?_
  · refine ⟨[0], [0], rfl, rfl, ⟨rfl, fun i n h => ?_⟩, ⟨rfl, fun i n h => ?_⟩, rfl, rfl, fun k h1 h2 => absurd h1 (by omega), fun k h1 h2 => absurd h1 (by omega)⟩
    · cases i with
      | zero => simp at h; subst h; exact ⟨t1, rfl⟩
      | succ i => simp at h
    · cases i with
      | zero => simp at h; subst h; exact ⟨t2, rfl⟩
      | succ i => simp at h
  · rintro i t ⟨hv, n1, wv, n2⟩ u h tk I oI hi off hP F₁ N₁
    have e : (1 : Int) + (i : Int) = ((i + 1 : Nat) : Int) := by omega
    rw [e] at F₁
    exact turn (i + 1) t hv n1 wv n2 u h tk I oI (by omega) (by omega) off hP (by simpa [kstB] using F₁) N₁
  · rintro ⟨hv, n1, wv, n2⟩ u h tk hP F₁ N₁
    exact done hv n1 wv n2 u h tk hP (by simpa [kstB] using F₁) N₁
end
theorem base_at {a0 a1 a2 a3 a4 a5 : Tok} {j : Nat} (hj : j < 6) : ∃ (b : Int) (t : Tok), [Value.int 0 a0, Value.int 61 a1, Value.int 1 a2, Value.int 64 a3, Value.int 4 a4, Value.int 5 a5][j]? = some (.int b t) := by
  have : j = 0 ∨ j = 1 ∨ j = 2 ∨ j = 3 ∨ j = 4 ∨ j = 5 := by omega
  rcases this with rfl | rfl | rfl | rfl | rfl | rfl <;> exact ⟨_, _, rfl⟩
theorem outOk_len {hv wv : List Value} {i : Nat} (h : OutOk hv wv i) : hv.length = i + 1 ∧ wv.length = i + 1 := by
  obtain ⟨hs, ws, h1, h2, h3, h4, _⟩ := h
  exact ⟨by rw [h3.1, h1], by rw [h4.1, h2]⟩
theorem news_drop2 {h₀ h : Heap} {L : Addr} {a b : Addr × Obj} {R : Led} (N : News h₀ L h (a :: b :: R)) : News h₀ L h R := news_sub N fun p hp => List.mem_cons_of_mem _ (List.mem_cons_of_mem _ hp)
theorem news_noob {h₀ h : Heap} {L : Addr} {a b c e : Addr × Obj} {R : Led} (N : News h₀ L h (a :: b :: c :: e :: R)) : News h₀ L h (a :: b :: c :: R) := news_sub N fun p hp => by
  simp only [List.mem_cons] at hp ⊢
  rcases hp with h | h | h | h <;> simp [h]
theorem updH {I lw lh lb L : Addr} {oI ow o o' obj : Obj} {news : Led} {h₀ h : Heap} (_N : News h₀ L h ((I, oI) :: (lw, ow) :: (lh, o) :: (lb, obj) :: news)) (h1 : @Ne Nat lh I) (hW : (@LT.lt Nat _ lh lw) ∧ (@LT.lt Nat _ lb lw) ∧ AllLt lw news) (hH : (@LT.lt Nat _ lb lh) ∧ AllLt lh news) :
    Upd lh o o' ((I, oI) :: (lw, ow) :: (lh, o) :: (lb, obj) :: news) ((I, oI) :: (lw, ow) :: (lh, o') :: (lb, obj) :: news) :=
  .tail (Ne.symm h1) (.tail (Nat.ne_of_gt hW.1) (.head fun p hp => by
    rcases List.mem_cons.mp hp with rfl | hp
    · exact Nat.ne_of_lt hH.1
    · exact Nat.ne_of_lt (tb_ltOf hH.2 p hp)))
theorem updW {I lw lh lb L : Addr} {oI o o' oh obj : Obj} {news : Led} {h₀ h : Heap} (_N : News h₀ L h ((I, oI) :: (lw, o) :: (lh, oh) :: (lb, obj) :: news)) (h1 : @Ne Nat lw I) (hW : (@LT.lt Nat _ lh lw) ∧ (@LT.lt Nat _ lb lw) ∧ AllLt lw news) :
    Upd lw o o' ((I, oI) :: (lw, o) :: (lh, oh) :: (lb, obj) :: news) ((I, oI) :: (lw, o') :: (lh, oh) :: (lb, obj) :: news) :=
  .tail (Ne.symm h1) (.head fun p hp => by
    rcases List.mem_cons.mp hp with rfl | hp
    · exact Nat.ne_of_lt hW.1
    · rcases List.mem_cons.mp hp with rfl | hp
      · exact Nat.ne_of_lt hW.2.1
      · exact Nat.ne_of_lt (tb_ltOf hW.2.2 p hp))
theorem outl_end {h₀ : Heap} {L I lw lh : Addr} {oI : Obj} {ob : Addr × Obj} {news : Led} {x : Str} {stored : List Str} {m₀ m' : Str → Option Value} {Q : Flow → Shared → Prop} {s₁ : Shared} {hv wv : List Value} {n1 n2 c1 c2 k : Nat} {a b : Int} {t u : Tok} {h' : Heap} {tk : Nat}
    (F : Fr h₀ L h' m') (N : News h₀ L h' ((I, oI) :: (lw, listOf (wv.toArray.push (Value.int b u)) n2) :: (lh, listOf (hv.toArray.push (Value.int a t)) n1) :: ob :: news)) (hk : 1 ≤ k) (h : OutOk hv wv (k - 1)) (ha : 0 ≤ a) (ha2 : a < (k : Int)) (hb : 1 ≤ b) (hb2 : b ≤ 2)
    (off : ∀ p ∈ (lw, listOf (List.toArray wv) c2) :: (lh, listOf (List.toArray hv) c1) :: ob :: news, p.1 ≠ I) (hr : ∀ z, z ≠ x → stored.contains z = false → m' z = m₀ z) :
    LStep h₀ L (outLd lw lh (ob :: news)) (fun _ => []) x stored m₀ (fun c => OutOk c.1 c.2.2.1 k) I oI s₁ Q .next { s₁ with heap := h', toks := tk } := by
  rw [push_toL, push_toL] at N
  obtain ⟨i, rfl⟩ : ∃ i, k = i + 1 := ⟨k - 1, by omega⟩
  rw [Nat.add_sub_cancel] at h
  refine LStep.intro (hv ++ [Value.int a t], n1, wv ++ [Value.int b u], n2) F N (fun p hp => hp) ?_ (fun _ h => nomatch h) (fun z h1 _ h3 => hr z h1 h3) (h.snoc ha (by omega) hb hb2)
  intro q hq
  rcases List.mem_cons.mp hq with rfl | hq
  · exact off (lw, listOf (List.toArray wv) c2) (List.mem_cons_self ..)
  rcases List.mem_cons.mp hq with rfl | hq
  · exact off (lh, listOf (List.toArray hv) c1) (List.mem_cons_of_mem _ (List.mem_cons_self ..))
  · exact off q (List.mem_cons_of_mem _ (List.mem_cons_of_mem _ hq))
theorem ints_of_all : ∀ l : List Value, (∀ v ∈ l, ∃ n t, v = Value.int n t) → ∃ js, IntsAre l js
  | [], _ => ⟨[], .nil⟩
  | v :: l, h => by
    obtain ⟨n, t, rfl⟩ := h v (List.mem_cons_self ..)
    obtain ⟨js, hj⟩ := ints_of_all l fun v hv => h v (List.mem_cons_of_mem _ hv)
    exact ⟨n :: js, .cons n t hj⟩
theorem ints_mem : ∀ {vs : List Value} {is : List Int}, IntsAre vs is → ∀ v ∈ vs, ∃ n t, v = Value.int n t
  | _, _, .nil, v, h => absurd h List.not_mem_nil
  | _, _, .cons n t r, v, h => by
    rcases List.mem_cons.mp h with rfl | h
    · exact ⟨n, t, rfl⟩
    · exact ints_mem r v h
theorem sixth_ints {vs : List Value} {is : List Int} (h : IntsAre vs is) (k : Nat) : (∃ js, IntsAre (sixth vs k) js) ∧ (sixth vs k).length ≤ vs.length := by
  refine ⟨ints_of_all _ fun v hv => ?_, ?_⟩
  · unfold sixth slicePick at hv
    obtain ⟨j, _, hj⟩ := List.mem_filterMap.mp hv
    exact ints_mem h v (by have := Array.mem_of_getElem? hj; simpa using this)
  · have := slicePick_size_le vs.toArray (some (k : Int)) none (some 6)
    unfold sixth
    simpa using this
theorem outline_does {w : World} {sc : Addr} {vs : List Value} {is : List Int} {news : Led} (hvs : IntsAre vs is) (hlen : vs.length ≤ 63) :
  DoesB w sc vs 171 [.ref sc] 2 60 news fun r news' => ∃ T lh lw hv wv nt n1 n2, r = .ref T ∧ news' = (T, ({ cls := .type "tuple", data := .seq #[.ref lh, .ref lw] nt } : Obj)) :: (lw, listOf (List.toArray wv) n2) :: (lh, listOf (List.toArray hv) n1) :: news ∧ OutOk hv wv 6 := by
  unfold DoesB
  k_fill
  intro dp un gd cn cs a ccd cl outer A₀ base h₀ L m s mean mg mb Q E B F X' N T hk hsc hd hu hret
  refine wpAny_call ?_
  first | k_dflt k_enter | fail "enter"
  have hscg : Hold (Heap.IsList _ sc vs.toArray) := hsc.at fun o e => (‹Fr h₀ L _ m› : Fr h₀ L _ m).keep _ o e
  k_steps
  unfold Hold
  rename Fr _ _ _ _ => eF
  rename News _ _ _ _ => eN
  rename IsRange _ _ _ _ _ _ _ _ => rgX
  rename _ ∧ _ ∧ AllLt _ news => lW
  rename _ ∧ AllLt _ news => lH
  obtain ⟨bv, hbv, eN, hbl0⟩ : ∃ bv : List Value, (∀ j, j < 6 → ∃ (b : Int) (t : Tok), bv[j]? = some (Value.int b t)) ∧ News _ _ _ (_ :: _ :: (_, listOf bv.toArray 0) :: news) ∧ bv.length ≤ 1000 := ⟨_, fun j hj => base_at hj, eN, by simp⟩
  rename News _ _ _ (_ :: _ :: (_, listOf (List.toArray (_ :: _)) _) :: _) => eNo
  clear eNo
  with_unfolding_all refine' outl_for [Str.ofString "z"] (by rfl) rgX eF eN ?_ ?_
  · unfold Hold
    intro k t hv n1 wv n2 u h' tk' I oI h1 h7 off hP F' N'
    clear eF eN rgX
    have off1 := all_off1 off
    simp only [LCg.Off1] at off1
    obtain ⟨b, tb, hb⟩ := hbv (k - 1) (by omega)
    have hb' : bv[((k : Int) - 1).toNat]? = some (Value.int b tb) := by rw [show ((k : Int) - 1).toNat = k - 1 from by omega]; exact hb
    clear hb
    have hP' : Hold (OutOk hv wv (k - 1)) := hP
    clear hP
    have hbl : bv.length ≤ 1000 := hbl0
    k_steps
    unfold Hold
    unfold Hold at hscg
    rename Fr _ _ _ _ => eF
    rename News _ _ _ _ => eN
    have hsh := hscg.at fun o e => eF.keep _ o e
    refine sl_sixth eF eN hsh (by omega) (by omega) ?_ (by with_unfolding_all rfl) (by kmk_pure)
    intro D2 h2 F2 N2 l2
    clear eF eN
    k_lt l2
    obtain ⟨⟨js, hjs⟩, hjl⟩ := sixth_ints hvs ((k : Int) - 1).toNat
    k_steps
    unfold Hold
    refine LCg.CompSrc.ledger (by rfl) (by k_asm) (by k_asm) (List.mem_cons_self ..) (by rw [List.size_toArray]; exact big_ok (by omega)) ?_
    intro g1
    refine comp_ints (fun v => v.fmod 1000000) hjs ?_ ?_
    · intro y ty I2 oI2 C2 oC2 D3 m3 ys2 h3 tk3 E2 hy hC2 hxv2 F3 N3 off2 ne2
      k_steps
      exact LCg.CompEnd.intro (by assumption) (by assumption) _ (fun p hp => hp) off2 (.inr ⟨_, List.mem_cons_self .., rfl, _, rfl⟩) ⟨rfl, _, rfl⟩
    · intro ys2 hys2
      k_steps
      unfold Hold
      unfold Hold at hP'
      have hol := outOk_len hP'
      rename Fr _ _ _ _ => eF
      rename News _ _ _ _ => eN
      have eN2 := news_drop2 eN
      clear eN
      generalize b + (js.map fun v => v.fmod 1000000).sum = z at eF ⊢
      have z1 : 0 ≤ z.fmod (k : Int) := Int.fmod_nonneg_of_pos z (by omega)
      have z2 : z.fmod (k : Int) < (k : Int) := Int.fmod_lt_of_pos z (by omega)
      have z3 : 0 ≤ (z.fdiv 60).fmod 2 := Int.fmod_nonneg_of_pos _ (by decide)
      have z4 : (z.fdiv 60).fmod 2 < 2 := Int.fmod_lt_of_pos _ (by decide)
      refine append_K eF eN2 (updH eN2 off1.2.1 lW lH) ?_ (big_ok (by rw [List.size_toArray]; omega))
      intro h4 F4 N4
      clear eF eN2
      k_steps
      unfold Hold
      rename Fr _ _ _ _ => eF
      rename News _ _ _ _ => eN
      refine append_K eF eN (updW eN off1.1 lW) ?_ (big_ok (by rw [List.size_toArray]; omega))
      intro h5 F5 N5
      clear eF eN
      k_steps
      rename Fr _ _ _ _ => eF
      rename News _ _ _ _ => eN
      refine outl_end eF eN h1 hP' z1 z2 (by omega) (by omega) off ?_
      intro z q1 q3
      have q3' := q3
      simp only [List.contains_cons, List.contains_nil, Bool.or_false, beq_eq_false_iff_ne, ne_eq] at q3'
      simp only [q1, q3', q3, if_false, Bool.false_eq_true]
  · unfold Hold
    intro hv n1 wv n2 u h' tk' hP F' N'
    clear eF eN rgX
    k_steps
    rename News _ _ _ _ => eN
    exact hret _ _ _ _ (by assumption) (news_noob eN) ⟨_, _, _, hv, wv, _, n1, n2, rfl, rfl, hP⟩
end
section
theorem freshNagL : True := by (w_top off; trivial)
open PySem PySem.W PySem.Spec PySem.Calls PyProof.Rows PySem.Builtin PySem.Builtin.ObjectAttr
set_option maxRecDepth 100000
set_option maxHeartbeats 1000000
set_option linter.all false
section
variable {prog : Program} {w : World} {A : Around} {E : Value → Shared → Prop} {h : Heap} {g : Array GenState} {d : Drawn} {t : Nat} {os : OsState}
variable {nm q : Str} {C N x : Addr} {bs bm bmB : List Value} {sn : List Str} {sub : List Value} {ab : Bool} {col : Option Bool} {dd : Option Addr} {k0 k1 k2 k3 k5 : Option Value} {newId : String}
  {mN mA : Str → Option Value} {name : Str} {v : Value} {o : Obj} {dx : Addr} {hdct : Bool}
theorem nag_entry {tk : Tok} {Q : Fin → Shared → Prop} (hmro : mroOf (.type "Exception") = pure bm)
    (hC : h.get? C = some (excClassObj nm q C N bs bm true sn sub ab col dd k0 k1 k2 k3 k5 newId)) (hn : h.Ns N mN) (hna : mN name = none)
    (hB : typeLookup (.type "Exception") name = pure none) (hx : h.get? x = some o) (hc : o.cls = .ref C) (hnc : ∀ c, o.data ≠ .cls c) (hdx : o.dict = some dx) (hns : h.Ns dx mA) (hv : mA name = some v) (hq : Q (.done (.ret v)) ⟨h, g, d, t, os⟩) :
    wpAny (model prog w) A (Builtin.«object.__getattribute__» ⟨[.ref x, .str name tk], []⟩) Q E ⟨h, g, d, t, os⟩ := by
  unfold Builtin.«object.__getattribute__»
  repeat (first | (with_reducible refine wpAny_loadPart_at hx ?_; rw [hc]) | (with_reducible refine wpAny_typeLookup_exc hC hn hmro hB ?_; rw [hna]) | wp_step)
  split
  · rename_i c hcd
    exact absurd hcd (hnc c)
  unfold instanceDict
  repeat (first | (with_reducible refine wpAny_loadPart_at hx ?_; rw [hc]) | with_reducible refine wpAny_loadPart_at hC ?_ | wp_step)
  rw [hdx]
  repeat (first | (with_reducible refine wpAny_nsGet hns ?_; rw [hv]) | wp_step)
  exact hq
theorem nag_check {M : Model} {nameV : Value} {Q : Unit → Shared → Prop} (hb : bm.contains (.type "BaseException") = true) (hC : h.get? C = some (excClassObj nm q C N bs bm hdct sn sub ab col dd k0 k1 k2 k3 k5 newId))
    (hx : h.get? x = some o) (hc : o.cls = .ref C) (hq : Q () ⟨h, g, d, t, os⟩) : wpAny M A (checkBuiltinCall "BaseException.__getattribute__" ⟨[.ref x, nameV], []⟩) Q E ⟨h, g, d, t, os⟩ := by
  have hk : builtinKind "BaseException.__getattribute__" = some .slot := by decide +kernel
  have hsplit : splitId "BaseException.__getattribute__" = some ("BaseException", "__getattribute__") := by decide +kernel
  have hcB : (Value.ref C :: bm).contains (.type "BaseException") = true := by rw [List.contains_cons, hb, Bool.or_true]
  have ha := F.args_bexc_ga (.ref x) nameV
  simp only [checkBuiltinCall, hk, hsplit]
  refine wpAny_bind ?_
  unfold isInstance
  repeat (first | (with_reducible refine wpAny_loadPart_at hx ?_; rw [hc]) | (with_reducible refine wpAny_isSubtype_exc hC ?_; rw [hcB]) | wp_step)
  exact hq
theorem nag_attr {expr : Bool} {Q : Value → Shared → Prop} (hmro : mroOf (.type "Exception") = pure bm) (hb : bm.contains (.type "BaseException") = true)
    (hC : h.get? C = some (excClassObj nm q C N bs bm true sn sub ab col dd k0 k1 k2 k3 k5 newId)) (hn : h.Ns N mN) (hng : mN "__getattribute__" = none) (hnh : mN "__getattr__" = none) (hna : mN name = none)
    (hB : typeLookup (.type "Exception") name = pure none) (hx : h.get? x = some o) (hc : o.cls = .ref C) (hnc : ∀ c, o.data ≠ .cls c) (hdx : o.dict = some dx) (hns : h.Ns dx mA) (hv : mA name = some v) (hh : handedOut v = pure v) (hq : Q v ⟨h, g, d, t + 1, os⟩) :
    wpAny (model prog w) A (getAttr (.ref x) name expr) Q E ⟨h, g, d, t, os⟩ := by
  have FB := PySem.F.attrBase_Exception
  have f3 := FB.ga.bind (.ref x)
  have hx0 : (expr && onTheHeap (Value.builtin "BaseException.__getattribute__")) = false := by cases expr <;> rfl
  have hx2 : (Value.builtin "BaseException.__getattribute__" == Value.builtin "object.__getattribute__") = false := by decide +kernel
  have hx1 : (onTheHeap (Value.ref C) && Value.builtin "BaseException.__getattribute__" == Value.builtin "object.__getattribute__") = false := by rw [hx2]; rfl
  unfold getAttr
  repeat (any_goals (first | assumption | (with_reducible refine wpAny_loadPart_at hx ?_; rw [hc]) | (with_reducible refine wpAny_typeLookup_exc hC hn hmro FB.ga.lookup ?_; rw [hng]) | (with_reducible refine wpAny_typeLookup_exc hC hn hmro FB.noGetattr ?_; rw [hnh]) | wp_step))
  refine codeAny_call_builtin FB.ga.plain F.entry_bexc_ga (nag_check hb hC hx hc (nag_entry hmro hC hn hna hB hx hc hnc hdx hns hv ?_))
  repeat (any_goals (first | assumption | wp_step))
theorem nag_method {pl : Sem Bool} {f : Addr} {of : Obj} {y : Option Value} {Q : Value × List Value → Shared → Prop} (hmro : mroOf (.type "Exception") = pure bm)
    (hC : h.get? C = some (excClassObj nm q C N bs bm true sn sub ab col dd k0 k1 k2 k3 k5 newId)) (hn : h.Ns N mN) (hng : mN "__getattribute__" = none) (hnh : mN "__getattr__" = none) (hf : mN name = some (.ref f)) (hfo : h.get? f = some of) (hfc : of.cls = .type "function")
    (hB : typeLookup (.type "Exception") name = pure y) (hx : h.get? x = some o) (hc : o.cls = .ref C) (hdx : o.dict = some dx) (hns : h.Ns dx mA) (hv : mA name = none) (hq : Q (.ref f, [.ref x]) ⟨h, g, d, t, os⟩) :
    wpAny (model prog w) A (getMethod (.ref x) name pl) Q E ⟨h, g, d, t, os⟩ := by
  have FB := PySem.F.attrBase_Exception
  have hcan : (Manifest.canonical "BaseException.__getattribute__" != "object.__getattribute__") = false := by decide +kernel
  unfold getMethod specialOf
  repeat (first | (with_reducible refine wpAny_loadPart_at hx ?_; rw [hc]) | (with_reducible refine wpAny_typeLookup_exc hC hn hmro FB.ga.lookup ?_; rw [hng]) | (with_reducible refine wpAny_typeLookup_exc hC hn hmro FB.noGetattr ?_; rw [hnh]) | (with_reducible refine wpAny_typeLookup_exc hC hn hmro hB ?_; rw [hf]) | (with_reducible refine wpAny_typeOf (T := "function") ⟨_, hfo, hfc⟩ ?_) | simp only [hcan, Bool.false_eq_true, if_false] | wp_step)
  rw [hdx]
  repeat (first | (with_reducible refine wpAny_nsGet hns ?_; rw [hv]) | wp_step)
  exact hq
end
end
section
theorem freshNagG : True := by (w_top off; trivial)
open PySem PySem.W PySem.Spec PySem.Calls PyProof.Rows PyProof.V
set_option maxRecDepth 100000
set_option maxHeartbeats 4000000
set_option linter.all false
theorem names_ns {h₀ h : Heap} {L D : Addr} {oD : Obj} {news : Led} {mA : Str → Option Value} (N : News h₀ L h news) (hm : (D, oD) ∈ news) (hD : NamesAre oD mA) : h.Ns D mA := by
  obtain ⟨es, ep, hd, hk, _, hf⟩ := hD
  exact ⟨oD, es, ep, (N _ hm).1, hd, hk, hf⟩
theorem nag_read {w : World} {A : Around} {E : Value → Shared → Prop} {s : Shared} {h₀ : Heap} {L e D : Addr} {m mA : Str → Option Value} {news : Led} {oe oD : Obj} {name : Str} {v : Value} {ws : Array Value} {expr : Bool} {Q : Value → Shared → Prop}
    (F : Fr h₀ L s.heap m) (X : (hd.heap_39 w.params).In h₀) (N : News h₀ L s.heap news) (he : (e, oe) ∈ news) (hD : (D, oD) ∈ news) (hc : oe.cls = .ref 97) (hdt : oe.data = .fields ws) (hdn : oe.dict = some D) (hN : NamesAre oD mA)
    (hna : nsIn (hd.heap_39 w.params) 96 name = some none) (hB : typeLookup (.type "Exception") name = pure none) (hv : mA name = some v) (hh : handedOut v = pure v) (hq : Q v { s with toks := s.toks + 1 }) :
    wpAny (model (RowW.prog (OpenRow.toRowW (OpenLaw.row Challenge.rw_wa0022_01))) w) A (getAttr (.ref e) name expr) Q E s := by
  revert X; k_fill; intro X
  have X₁ := X.keeps F.keep
  have h1 := (N _ he).1
  have h2 := names_ns N hD hN
  obtain ⟨hp, g, d, tk, os⟩ := s
  have hC : hp.get? 97 = some _ := X₁ _ _ (by k_is)
  have hn := Heap.Ns.of_isNs (isNs_of_in X₁ (by kernel_rfl : nsOkIn (hd.heap_39 w.params) 96 = true))
  exact nag_attr PySem.F.excBase_Exception.mroIs (by decide +kernel) hC hn (ns_none_of X₁ hn (by k_is : nsIn _ 96 (Str.ofString "__getattribute__") = some none)) (ns_none_of X₁ hn (by k_is : nsIn _ 96 (Str.ofString "__getattr__") = some none)) (ns_none_of X₁ hn hna) hB h1 hc (fun c q => by rw [hdt] at q; cases q) hdn h2 hv hh hq
theorem nag_meth {w : World} {A : Around} {E : Value → Shared → Prop} {s : Shared} {h₀ : Heap} {L e D f : Addr} {m mA : Str → Option Value} {news : Led} {oe oD of : Obj} {name : Str} {ws : Array Value} {pl : Sem Bool} {Q : Value × List Value → Shared → Prop}
    (F : Fr h₀ L s.heap m) (X : (hd.heap_39 w.params).In h₀) (N : News h₀ L s.heap news) (he : (e, oe) ∈ news) (hD : (D, oD) ∈ news) (hc : oe.cls = .ref 97) (hdt : oe.data = .fields ws) (hdn : oe.dict = some D) (hN : NamesAre oD mA)
    (hna : nsIn (hd.heap_39 w.params) 96 name = some (some (.ref f))) (hf : (hd.heap_39 w.params).lookup f = some of) (hfc : of.cls = .type "function") (hB : typeLookup (.type "Exception") name = pure none) (hv : mA name = none) (hq : Q (.ref f, [.ref e]) s) :
    wpAny (model (RowW.prog (OpenRow.toRowW (OpenLaw.row Challenge.rw_wa0022_01))) w) A (getMethod (.ref e) name pl) Q E s := by
  revert X; k_fill; intro X
  have X₁ := X.keeps F.keep
  have h1 := (N _ he).1
  have h2 := names_ns N hD hN
  obtain ⟨hp, g, d, tk, os⟩ := s
  have hC : hp.get? 97 = some _ := X₁ _ _ (by k_is)
  have hn := Heap.Ns.of_isNs (isNs_of_in X₁ (by kernel_rfl : nsOkIn (hd.heap_39 w.params) 96 = true))
  exact nag_method PySem.F.excBase_Exception.mroIs hC hn (ns_none_of X₁ hn (by k_is : nsIn _ 96 (Str.ofString "__getattribute__") = some none)) (ns_none_of X₁ hn (by k_is : nsIn _ 96 (Str.ofString "__getattr__") = some none)) (ns_some_of X₁ hn hna) (X₁ _ _ hf) hfc hB h1 hc hdn h2 hv hq
theorem nn_lineno {k : Int} {p q : Str} {t₁ t₂ t₃ : Tok} : nagNames k p q t₁ t₂ t₃ (Str.ofString "lineno") = some (.int k t₁) := by unfold nagNames; rw [if_neg (by decide +kernel), if_neg (by decide +kernel), if_pos rfl]
theorem nn_msg {k : Int} {p q : Str} {t₁ t₂ t₃ : Tok} : nagNames k p q t₁ t₂ t₃ (Str.ofString "msg") = some (.str p t₂) := by unfold nagNames; rw [if_neg (by decide +kernel), if_pos rfl]
theorem nn_line {k : Int} {p q : Str} {t₁ t₂ t₃ : Tok} : nagNames k p q t₁ t₂ t₃ (Str.ofString "line") = some (.str q t₃) := by unfold nagNames; rw [if_pos rfl]
theorem nn_g1 {k : Int} {p q : Str} {t₁ t₂ t₃ : Tok} : nagNames k p q t₁ t₂ t₃ (Str.ofString "get_lineno") = none := by unfold nagNames; rw [if_neg (by decide +kernel), if_neg (by decide +kernel), if_neg (by decide +kernel)]
theorem nn_g2 {k : Int} {p q : Str} {t₁ t₂ t₃ : Tok} : nagNames k p q t₁ t₂ t₃ (Str.ofString "get_msg") = none := by unfold nagNames; rw [if_neg (by decide +kernel), if_neg (by decide +kernel), if_neg (by decide +kernel)]
theorem nn_g3 {k : Int} {p q : Str} {t₁ t₂ t₃ : Tok} : nagNames k p q t₁ t₂ t₃ (Str.ofString "get_line") = none := by unfold nagNames; rw [if_neg (by decide +kernel), if_neg (by decide +kernel), if_neg (by decide +kernel)]
theorem no_get_lineno : typeLookup (.type "Exception") (Str.ofString "get_lineno") = pure none := by rw [typeLookup_type, builtinLookup_eq_fast]; kernel_rfl
theorem no_get_msg : typeLookup (.type "Exception") (Str.ofString "get_msg") = pure none := by rw [typeLookup_type, builtinLookup_eq_fast]; kernel_rfl
theorem no_get_line : typeLookup (.type "Exception") (Str.ofString "get_line") = pure none := by rw [typeLookup_type, builtinLookup_eq_fast]; kernel_rfl
end
section
theorem freshSafe : True := by (w_top off; trivial)
open PySem PySem.W PySem.Spec PySem.Calls PyProof.Rows
set_option maxRecDepth 100000
set_option maxHeartbeats 4000000
set_option linter.all false
local macro_rules | `(tactic| walk_at "call ref") => `(tactic| (k_here; (with_reducible show wpAny _ _ (call (Value.ref 193) _) _ _ _); refine hold_up ?_))
local macro_rules | `(tactic| walk_at "noteFrame ref") => `(tactic| (k_here; refine hold_up ?_))
local macro_rules | `(tactic| walk_at "getAttr ref") => `(tactic| (k_here; refine hold_up ?_))
theorem safe_does {w : World} {l : Addr} {t : Tok} {d u : Nat} {news : Led} {Post : Value → Led → Prop} {XPost : Addr → Obj → Led → Prop} (P : DoesT w 193 [.ref l] d u news Post XPost) :
    DoesT w 46 [.ref l, .str (Str.ofString "page") t, .ref 193] (d + 1) (u + 12) news (fun r news' => Post r news' ∨ ∃ D oD news₂ t, XPost D oD news₂ ∧ news' = (D, oD) :: news₂ ∧ r = .str (Str.ofString "<page _law_play() failed>") t) (fun _ _ _ => False) := by
  unfold DoesT
  k_fill
  intro dp un gd cn cs a ccd cl outer A₀ base h₀ L m s mean mg mb Q E B F X' N T XB KD hk hdp hu hret hexc
  refine wpAny_call ?_
  k_dflt (walk_at "enterT")
  k_steps
  unfold Hold
  rename Fr _ _ _ _ => eF
  rename News _ _ _ _ => eN
  rename KtsDicts _ _ => eD
  rename Below _ _ _ _ => eB
  with_unfolding_all refine' doesT_use P eB eF ?x1 eN ?x2 XB eD ?x3 ?x4 ?x5 ?_ ?_
  case x1 => k_asm
  case x2 => k_asm
  case x3 => rfl
  case x4 => k_room
  case x5 => k_units
  · intro g2 r news2 h2 tk2 T2 F2 N2 B2 hp2
    clear eF eN
    refine ⟨g2, _, _, news2, T2, F2, N2, fun h0 T0 F0 N0 B0 => hret _ _ _ _ _ T0 F0 N0 B0 (.inl hp2)⟩
  · intro g2 G e D oD news2 h2 tk2 T2 F2 B2 R2 U2 hx
    clear eF eN
    refine bare_at R2 F2 B2 U2 XB.1 XB.2 (eD.turn T2) T2 ?_
    intro h3 g3 T3 F3 N3 B3 X3 P3 D3
    clear F2 B2 eD eB R2
    k_steps
    unfold Hold
    rename Fr _ _ _ _ => eF
    have hf : _ = some _ := (X3.keeps eF.keep) 193 _ (by k_is)
    refine fn_name hf rfl rfl rfl (by size_fits) fun tk9 u9 => ?_
    k_steps
    rename Fr _ _ _ _ => eF2
    exact ⟨g3, _, _, _, T3, by assumption, N3, fun h0 T0 F0 N0 B0 => hret _ _ _ _ _ T0 F0 N0 B0 (.inr ⟨D, oD, news2, _, hx, rfl, rfl⟩)⟩
end
section
theorem freshPlay : True := by (w_top off; trivial)
open PySem PySem.W PySem.Spec PySem.Calls PyProof.Rows PyProof.V
set_option maxRecDepth 100000
set_option maxHeartbeats 4000000
set_option linter.all false
local macro_rules | `(tactic| walk_at "call ref") => `(tactic| (k_here; (with_reducible show wpAny _ _ (call (Value.ref 46) _) _ _ _); refine hold_up ?_))
local macro_rules | `(tactic| walk_at "call ref") => `(tactic| (k_here; (with_reducible show wpAny _ _ (call (Value.ref 152) _) _ _ _); k_dflt (refine' does_use (less_does ?h1 ?h2) ?k1 ?k2 ?kX ?k4 ?k5 ?kK ?kd ?ku ?_; (case k1 => k_asm); (case k2 => k_asm); (case kX => k_asm); (case k4 => k_asm); (case k5 => k_asm); (case kK => first | exact rfl | assumption); (case h1 => with_reducible assumption); (case h2 => with_reducible assumption); (case kd => k_room); (case ku => k_units); k_whole); intro r9 news9 h9 tk9 F9 N9 P9; obtain ⟨e9, e8⟩ := P9; (rw [e8] at N9); clear e8; subst e9; (first | rw [decide_eq_true (by omega)] | rw [decide_eq_false (by omega)]); (try k_sweep); (try dsimp only); (try k_fold)))
local macro_rules | `(tactic| walk_at "call ref") => `(tactic| (k_here; (with_reducible show wpAny _ _ (call (Value.ref 162) _) _ _ _); k_dflt (refine' does_use (ws_does ?h1) ?k1 ?k2 ?kX ?k4 ?k5 ?kK ?kd ?ku ?_; (case k1 => k_asm); (case k2 => k_asm); (case kX => k_asm); (case k4 => k_asm); (case k5 => k_asm); (case kK => first | exact rfl | assumption); (case h1 => omega); (case kd => k_room); (case ku => k_units); k_whole); intro r9 news9 h9 tk9 F9 N9 P9; obtain ⟨tl9, e8, l8, p8⟩ := P9; (rw [e8] at N9); clear e8; (try k_sweep); (try dsimp only); (try k_fold)))
local macro_rules | `(tactic| walk_at "pyIter ref") => `(tactic| (k_here; refine hold_up ?_))
local macro_rules | `(tactic| walk_at "exec While") => `(tactic| (k_here; refine hold_up ?_))
local macro_rules | `(tactic| walk_at "exec For Name Call cons nil") => `(tactic| (k_here; refine hold_up ?_))
local macro_rules | `(tactic| walk_at "call ref") => `(tactic| (k_here; (with_reducible show wpAny _ _ (call (Value.ref 97) _) _ _ _); refine hold_up ?_))
local macro_rules | `(tactic| walk_at "subscriptTail") => `(tactic| (k_here; (with_reducible show wpAny _ _ (subscriptTail _ _ (Value.ref _) (Value.str _ _)) _ _ _); refine hold_up ?_))
local macro_rules | `(tactic| walk_at "setItem ref str") => `(tactic| (k_here; refine hold_up ?_))
local macro_rules | `(tactic| walk_at "compareOp NotIn str ref") => `(tactic| (k_here; refine hold_up ?_))
local macro_rules | `(tactic| walk_at "exec Raise some none") => `(tactic| (k_here; refine hold_up ?_))
theorem play_step {w : World} {n : Nat} (ih : ∀ m, m < n → PlayDoes w m) : PlayDoes w n := by
  intro ns t l d o nn b news g hlen h6 hsum hl U hlo hM hb
  unfold DoesT
  k_fill
  intro dp un gd cn cs a ccd cl outer A₀ base h₀ L m s mean mg mb Q E B F X' N T XB KD hk hdp hu hret hexc
  refine wpAny_call ?_
  k_dflt (walk_at "enterT")
  have HFG : Hold (Fr h₀ L _ m) := (‹Fr h₀ L _ m› : Fr h₀ L _ m)
  k_steps
  rename _ ∧ AllLt _ news => l9
  rename StrsAre _ _ => hs
  rename List.length _ = ns.length => hSl'
  refine LCg.CompSrc.ledger (by rfl) (by k_asm) (by k_asm) (by k_mem) (by rw [List.size_toArray]; exact big_ok (by omega)) ?_
  intro g1
  refine comp_rest (LeadsJ w.params ns _) ⟨[], rfl, rfl, fun _ _ _ h => absurd h List.not_mem_nil, fun j n h => absurd h (Nat.not_lt_zero j)⟩ ?_ ?_
  · rintro i v I oI C oC D m₂ ys nx h tk E' hi hv ⟨tl, rfl, hyl, hr, hJ⟩ hC hxv F N off ne
    obtain ⟨y, t, hy, rfl⟩ := strs_get hs (by simpa using hv)
    rw [List.getElem?_map] at hy
    obtain ⟨n0, hn0, rfl⟩ := Option.map_eq_some_iff.mp hy
    have hb0 : n0 ≤ 1000 := Nat.le_trans (le_sum_of_mem (List.mem_of_getElem? hn0)) hsum
    k_steps
    exact leads_end (by assumption) (by assumption) (by assumption) off (List.mem_cons_self ..) hyl hr hJ hn0 (by assumption)
  · rintro ys nx ⟨tl, rfl, hyl, hr, hJ⟩
    rw [List.size_toArray, hSl'] at hyl hJ
    unfold LCg.FinA
    intro DL hDL tkDL FDL NDL offDL
    have PL := playLd_of U offDL l9 (by assumption) hr hJ
    rw [← updF_self U] at NDL
    have NDL' := (show News _ _ _ ((fun o => (DL, LCg.lst ys) :: (tl ++ (_, _) :: (_, _) :: g o)) o) from NDL)
    clear NDL
    generalize (fun o => (DL, LCg.lst ys) :: (tl ++ (_, _) :: (_, _) :: g o)) = Rg at PL NDL'
    k_steps
    unfold Hold
    clear offDL hJ hr
    rename Fr _ _ _ _ => eF
    rename KtsDicts _ _ => eD
    rename Below _ _ _ _ => eB
    with_unfolding_all refine' For_invVF (hide_Fr (fs := List.filterMap (·.frame) (envX cn cs L a ccd cl :: outer)) KtsTurn.refl eF) ?k1 ?k2 ?_
    case k1 => exact rfl
    case k2 => exact rfl
    k_whole
    have hrows := PL.rows o
    k_steps
    unfold Hold
    clear hrows
    rename Fr _ _ _ _ => eF
    rename News _ _ _ _ => eN
    rename IsRange _ _ _ _ _ _ _ _ => rgX
    with_unfolding_all refine' rangeT_for (τ := Obj) Rg [Str.ofString "stop", Str.ofString "rest"] (fun i o => Memo w o (b + i * (1 + asks (n - 1))) ∧ ∀ j, j < i → worth (cutAt ns j) ≠ 0) o eD (by rfl) rgX (congrArg Int.ofNat hSl') (by omega) KtsTurn.refl eF eN ⟨by simpa using hM, fun j h => absurd h (Nat.not_lt_zero j)⟩ ?_ ?_
    · unfold Hold
      intro k tk1 o1 g1 u h' tk' I oI hk1 T1 off hP F' N'
      clear eF eN rgX
      obtain ⟨hMem, hP⟩ := hP
      have off1 := all_off1 off
      obtain ⟨nk, hnk⟩ : ∃ nk, ns[k]? = some nk := ⟨_, List.getElem?_eq_getElem hk1⟩
      obtain ⟨tkk, hxk⟩ := strs_at hs (by rw [List.getElem?_map, hnk]; rfl : (ns.map rowS)[k]? = some (rowS nk))
      have hnb : nk ≤ 1000 := Nat.le_trans (le_sum_of_mem (List.mem_of_getElem? hnk)) hsum
      have hg : ns.getD k 0 = nk := by rw [List.getD_eq_getElem?_getD, hnk]; rfl
      have hrows := PL.rows o1
      have hleads := PL.leads o1
      obtain ⟨vk, hvk, hLk⟩ := PL.lead o1 k nk hnk
      have B1 := below_turn eB T1
      have X1 := XB.1.keeps B1.stays
      have P1 := XB.2.keeps B1.stays
      have D1 := eD.turn T1
      have hdm : (d, o1) ∈ Rg o1 := updF_mem (PL.upd o1)
      have hdI : (@Ne Nat d I) := off _ hdm
      have N'' := news_dup N' hdm
      clear N'
      have hLk' : LeadIn w.params ((I, oI) :: (d, o1) :: Rg o1) vk nk := hLk.mono fun p hp => List.mem_cons_of_mem _ (List.mem_cons_of_mem _ hp)
      obtain ⟨xk, dk, rk, Nk, a0, a1, a2, a3, a4, a5, a6, a7, rfl, mk1, mk2⟩ := hLk
      k_steps
      unfold Hold
      rename Fr _ _ _ _ => eF
      rename News _ _ _ _ => eN
      refine' stop_while hk1 (by rfl) eF eN ?_ ?_
      · unfold Hold
        rintro ⟨st, tst⟩ h₂ tk₂ ⟨q1, q2, q3⟩ F₂ N₂
        clear eF eN F'
        dsimp only at q1 q2 q3 F₂ N₂
        by_cases hst : st < ns.length
        · obtain ⟨n2, hn2⟩ : ∃ nk, ns[st]? = some nk := ⟨_, List.getElem?_eq_getElem hst⟩
          obtain ⟨v2, hv2, hL2⟩ := PL.lead o1 st n2 hn2
          have hL2' : LeadIn w.params ((I, oI) :: (d, o1) :: Rg o1) v2 n2 := hL2.mono fun p hp => List.mem_cons_of_mem _ (List.mem_cons_of_mem _ hp)
          obtain ⟨x2, d2, r2, N2, c0, c1, c2, c3, c4, c5, c6, c7, rfl, mm1, mm2⟩ := hL2
          have hdr : ns.drop st = n2 :: ns.drop (st + 1) := by rw [List.drop_eq_getElem_cons hst]; rw [List.getElem?_eq_getElem hst] at hn2; rw [Option.some.inj hn2]
          by_cases hlt : nk < n2
          · have hq2 : (ns.drop st).takeWhile (fun n => decide (ns.getD k 0 < n)) = n2 :: (ns.drop (st + 1)).takeWhile (fun n => decide (ns.getD k 0 < n)) := by
              rw [hdr, List.takeWhile_cons, hg]
              simp [hlt]
            k_steps
            rename Fr _ _ _ _ => eF
            rw [hq2, List.length_cons] at q3
            refine' WStep.intro (st + 1, _) eF (by assumption) (fun p hp => hp) ?k1 ?k2 ⟨by dsimp only; omega, hst, by dsimp only; omega⟩ (by dsimp only; omega)
            case k1 => kst_all
            case k2 => exact (by (intro z h2 h3; (try simp only [List.forall_mem_cons, List.not_mem_nil, false_implies, implies_true, and_true, ne_eq] at h2); (try simp only [List.contains_cons, List.contains_nil, Bool.or_false, Bool.or_eq_false_iff, beq_eq_false_iff_ne, ne_eq] at h3); (simp only [h2, h3, kstB, if_false, List.contains_cons, List.contains_nil, Bool.or_false, Bool.false_eq_true, if_false]; done)))
          · have hq2 : (ns.drop st).takeWhile (fun n => decide (ns.getD k 0 < n)) = [] := by
              rw [hdr, List.takeWhile_cons, hg]
              simp [hlt]
            k_steps
            refine WEx.intro (st, tst) (by assumption) (by assumption) (fun p hp => hp) (by kst_all) (by (intro z h2 h3; (try simp only [List.forall_mem_cons, List.not_mem_nil, false_implies, implies_true, and_true, ne_eq] at h2); (try simp only [List.contains_cons, List.contains_nil, Bool.or_false, Bool.or_eq_false_iff, beq_eq_false_iff_ne, ne_eq] at h3); (simp only [h2, h3, kstB, if_false, List.contains_cons, List.contains_nil, Bool.or_false, Bool.false_eq_true, if_false]; done))) ⟨⟨q1, q2, q3⟩, hq2⟩
        · have hq2 : (ns.drop st).takeWhile (fun n => decide (ns.getD k 0 < n)) = [] := by
            rw [List.drop_eq_nil_of_le (by omega)]; rfl
          k_steps
          refine WEx.intro (st, tst) (by assumption) (by assumption) (fun p hp => hp) (by kst_all) (by (intro z h2 h3; (try simp only [List.forall_mem_cons, List.not_mem_nil, false_implies, implies_true, and_true, ne_eq] at h2); (try simp only [List.contains_cons, List.contains_nil, Bool.or_false, Bool.or_eq_false_iff, beq_eq_false_iff_ne, ne_eq] at h3); (simp only [h2, h3, kstB, if_false, List.contains_cons, List.contains_nil, Bool.or_false, Bool.false_eq_true, if_false]; done))) ⟨⟨q1, q2, q3⟩, hq2⟩
      · unfold Hold
        intro tst h₂ tk₂ F₂ N₂
        clear eF eN
        k_steps
        unfold Hold
        rename Fr _ _ _ _ => eF
        rename News _ _ _ _ => eN
        have ec : cut ns (Int.toNat (k:Int)) (Int.toNat (stopAt ns k : Int)) = cutAt ns k := rfl
        rw [ec] at eF ⊢
        have hcl := cutAt_len hk1
        have hcs := cutAt_sum ns k
        obtain ⟨kvs, hkd, hkl, hkv⟩ := id hMem
        have hal := asks_le (k := k) (n := n) (m := (cutAt ns k).length) (by omega) (by omega)
        by_cases hz : worth (cutAt ns k) = 0
        · have hw : wordS (cutAt ns k) = Str.ofString "lost" := by unfold wordS; rw [if_pos hz]
          cases hval : valueAt kvs (pageS (cutAt ns k)) with
          | none =>
            with_unfolding_all refine kdg_notin (knd := strKind _ _) (k := pageS (cutAt ns k)) eN (by simp) hkd hlo (strKind_is _ _ _ _) false (by rw [hval]; rfl) ?_
            dsimp only [Bool.not_false]
            k_steps
            unfold Hold
            rename Fr _ _ _ _ => eF
            rename News _ _ _ _ => eN
            have eN2 := news_six eN
            clear eN
            have hTd := ne_first (d := d) eN2 (by omega)
            have U2 := two_of eN2 (PL.upd o1) hTd (Ne.symm hdI)
            with_unfolding_all refine' doesT_use (safe_does (ih (cutAt ns k).length (by omega) (cutAt ns k) _ _ d o1 _ (b + k * (1 + asks (n - 1))) _ _ rfl (by omega) (by omega) (List.mem_cons_self ..) U2 hlo hMem ?hb)) B1 eF X1 eN2 P1 XB D1 ?hk ?hd ?hu ?ret ?exc
            case hb => omega
            case hk => rfl
            case hd => k_room
            case hu => k_units
            case exc => intro _ _ _ _ _ _ _ _ _ _ _ _ _ hx; exact hx.elim
            case ret =>
              intro g2 r news2 h2 tk2 T2 F2 N2 B2 hp2
              obtain ⟨o2, t2, e2, hM2, rfl⟩ : ∃ o2 t2, news2 = _ :: _ :: Rg o2 ∧ Memo w o2 (b + k * (1 + asks (n - 1)) + asks (cutAt ns k).length) ∧ r = .str (Str.ofString "lost") t2 := by
                rcases hp2 with ⟨_, o2, t2, rfl, hM2, rfl⟩ | ⟨D, oD, n2, t2, ⟨hne, _⟩, _⟩
                · exact ⟨o2, t2, rfl, hM2, rfl⟩
                · exact absurd hz hne
              rw [e2] at N2
              clear e2
              clear eF eN2
              obtain ⟨kvs2, hkd2, hkl2, hkv2⟩ := hM2
              have X2 := XB.1.keeps B2.stays
              have P2 := XB.2.keeps B2.stays
              have D2 := D1.turn T2
              have T12 := T1.trans T2
              k_steps
              unfold Hold
              rename Fr _ _ _ _ => eF
              rename News _ _ _ _ => eN3
              refine kda_set (knd := strKind _ _) (k := pageS (cutAt ns k)) eF eN3 (two_of eN3 (PL.upd o2) hTd (Ne.symm hdI)) hkd2 (strKind_is _ _ _ _) (big_ok (by omega)) ?_
              intro h4 o3 F4 N4 hd4
              clear eF eN3
              have eN4 := news_sub (R' := (I, oI) :: Rg o3) N4 (fun p hp => List.mem_cons_of_mem _ hp)
              clear N4
              have off3 : ∀ p ∈ Rg o3, p.1 ≠ I := fun p hp => let ⟨q, hq, e⟩ := updF_addr (PL.upd o1) hp; e ▸ off q hq
              have hkv3 := memo_stored hkv2 (ms := cutAt ns k) (t := t2) (by omega) (by omega)
              rw [hw] at hkv3
              have hkl3 := stored_length_le kvs2 (pageS (cutAt ns k)) (.str (Str.ofString "lost") t2)
              have hM3 : Memo w o3 (b + (k + 1) * (1 + asks (n - 1))) := ⟨_, hd4, by omega, hkv3⟩
              k_steps
              unfold Hold
              rename Fr _ _ _ _ => eF
              rename News _ _ _ _ => eN
              with_unfolding_all refine kda_item (knd := strKind _ _) (k := pageS (cutAt ns k)) eN (List.mem_cons_of_mem _ (updF_mem (PL.upd o3))) hd4 (strKind_is _ _ _ _) (valueAt_stored _ _ _) ?_
              have hrowsX := PL.rows o3
              k_steps
              unfold Hold
              rename Fr _ _ _ _ => eF
              obtain ⟨nm9, qn9, Nc9, bs9, bm9, hd9, sn9, sub9, ab9, col9, dd9, k09, k19, k29, k39, k59, nid9, hC9, hb9, _⟩ := kts_cls X2 (by kernel_rfl : ktsIn (hd.heap_39 w.params) 97 "BaseException" = true)
              refine raise_K hC9 hb9 (by rfl) ?_
              k_steps
              unfold Hold
              rename Fr _ _ _ _ => eF
              rename News _ _ _ _ => eN
              with_unfolding_all refine' does_use nag_does B2 eF X2 eN P2 ?kK ?kd ?ku ?_
              case kK => rfl
              case kd => k_room
              case ku => k_units
              intro r9 news9 h9 tk9 F9 N9 P9
              obtain ⟨e, D, oe, oD, tt, rfl, rfl, hfr, heD, hcl9, hdi9, hda9, hNm9⟩ := P9
              clear eF eN
              refine ⟨e, oe, _, rfl, F9.keep, (N9 (e, oe) (by simp)).1, hcl9, hda9, rfl, ?_⟩
              have N10 : News _ _ _ ((e, oe) :: (D, oD) :: g o3) := news_sub N9 fun p hp => by
                simp only [List.mem_cons] at hp ⊢
                rcases hp with h | h | h
                · simp [h]
                · simp [h]
                · simp [PL.out _ p h]
              refine leave_D B2 F9 N10 ?hne hda9 rfl rfl ?_
              case hne =>
                intro q hq
                rcases List.mem_cons.mp hq with rfl | hq
                · exact Ne.symm heD
                · exact (hfr q (List.mem_cons_of_mem _ (PL.out _ q hq))).1
              intro h10 R10 U10
              rw [hcl9, hdi9] at R10
              obtain ⟨gX, TX, FX, BX⟩ := turned_L B HFG (show KtsTurn (L :: outer.filterMap (·.frame)) _ _ from T12)
              exact hexc _ _ _ _ _ _ _ _ TX FX BX R10 U10 ⟨fun h0 => lose_move h0 hk1 hz, o3, rfl, hM3.mono (by omega), k, nk, _, _, _, hnk, hz, hP, hNm9⟩
          | some v =>
            obtain ⟨tv, rfl⟩ := memo_at hkv hval
            rw [hw] at hval
            with_unfolding_all refine kdg_notin (knd := strKind _ _) (k := pageS (cutAt ns k)) eN (by simp) hkd hlo (strKind_is _ _ _ _) true (by rw [hval]; rfl) ?_
            dsimp only [Bool.not_true]
            have eN2 := news_five eN
            clear eN
            have hM3 : Memo w o1 (b + (k + 1) * (1 + asks (n - 1))) := ⟨_, hkd, by omega, hkv⟩
            k_steps
            unfold Hold
            rename Fr _ _ _ _ => eF
            rename News _ _ _ _ => eN
            with_unfolding_all refine kda_item (knd := strKind _ _) (k := pageS (cutAt ns k)) eN (List.mem_cons_of_mem _ (updF_mem (PL.upd o1))) hkd (strKind_is _ _ _ _) hval ?_
            have hrowsX := PL.rows o1
            k_steps
            unfold Hold
            rename Fr _ _ _ _ => eF
            obtain ⟨nm9, qn9, Nc9, bs9, bm9, hd9, sn9, sub9, ab9, col9, dd9, k09, k19, k29, k39, k59, nid9, hC9, hb9, _⟩ := kts_cls X1 (by kernel_rfl : ktsIn (hd.heap_39 w.params) 97 "BaseException" = true)
            refine raise_K hC9 hb9 (by rfl) ?_
            k_steps
            unfold Hold
            rename Fr _ _ _ _ => eF
            rename News _ _ _ _ => eN
            with_unfolding_all refine' does_use nag_does B1 eF X1 eN P1 ?kK ?kd ?ku ?_
            case kK => rfl
            case kd => k_room
            case ku => k_units
            intro r9 news9 h9 tk9 F9 N9 P9
            obtain ⟨e, D, oe, oD, tt, rfl, rfl, hfr, heD, hcl9, hdi9, hda9, hNm9⟩ := P9
            clear eF eN
            refine ⟨e, oe, _, rfl, F9.keep, (N9 (e, oe) (by simp)).1, hcl9, hda9, rfl, ?_⟩
            have N10 : News _ _ _ ((e, oe) :: (D, oD) :: g o1) := news_sub N9 fun p hp => by
              simp only [List.mem_cons] at hp ⊢
              rcases hp with h | h | h
              · simp [h]
              · simp [h]
              · simp [PL.out _ p h]
            refine leave_D B1 F9 N10 ?hne hda9 rfl rfl ?_
            case hne =>
              intro q hq
              rcases List.mem_cons.mp hq with rfl | hq
              · exact Ne.symm heD
              · exact (hfr q (List.mem_cons_of_mem _ (PL.out _ q hq))).1
            intro h10 R10 U10
            rw [hcl9, hdi9] at R10
            obtain ⟨gX, TX, FX, BX⟩ := turned_L B HFG (show KtsTurn (L :: outer.filterMap (·.frame)) _ _ from T1)
            exact hexc _ _ _ _ _ _ _ _ TX FX BX R10 U10 ⟨fun h0 => lose_move h0 hk1 hz, o1, rfl, hM3.mono (by omega), k, nk, _, _, _, hnk, hz, hP, hNm9⟩
        · have hw : wordS (cutAt ns k) = Str.ofString "<page _law_play() failed>" := by unfold wordS; rw [if_neg hz]
          cases hval : valueAt kvs (pageS (cutAt ns k)) with
          | none =>
            with_unfolding_all refine kdg_notin (knd := strKind _ _) (k := pageS (cutAt ns k)) eN (by simp) hkd hlo (strKind_is _ _ _ _) false (by rw [hval]; rfl) ?_
            dsimp only [Bool.not_false]
            k_steps
            unfold Hold
            rename Fr _ _ _ _ => eF
            rename News _ _ _ _ => eN
            have eN2 := news_six eN
            clear eN
            have hTd := ne_first (d := d) eN2 (by omega)
            have U2 := two_of eN2 (PL.upd o1) hTd (Ne.symm hdI)
            with_unfolding_all refine' doesT_use (safe_does (ih (cutAt ns k).length (by omega) (cutAt ns k) _ _ d o1 _ (b + k * (1 + asks (n - 1))) _ _ rfl (by omega) (by omega) (List.mem_cons_self ..) U2 hlo hMem ?hb)) B1 eF X1 eN2 P1 XB D1 ?hk ?hd ?hu ?ret ?exc
            case hb => omega
            case hk => rfl
            case hd => k_room
            case hu => k_units
            case exc => intro _ _ _ _ _ _ _ _ _ _ _ _ _ hx; exact hx.elim
            case ret =>
              intro g2 r news2 h2 tk2 T2 F2 N2 B2 hp2
              obtain ⟨o2, t2, N2, hM2, rfl⟩ : ∃ o2 t2, News g2 _ h2 (_ :: _ :: Rg o2) ∧ Memo w o2 (b + k * (1 + asks (n - 1)) + asks (cutAt ns k).length) ∧ r = .str (Str.ofString "<page _law_play() failed>") t2 := by
                rcases hp2 with ⟨hne, _⟩ | ⟨D, oD, n2, t2, ⟨_, o2, rfl, hM2, _⟩, rfl, rfl⟩
                · exact absurd hne hz
                · exact ⟨o2, t2, news_sub N2 fun p hp => List.mem_cons_of_mem _ hp, hM2, rfl⟩
              clear eF eN2
              obtain ⟨kvs2, hkd2, hkl2, hkv2⟩ := hM2
              have X2 := XB.1.keeps B2.stays
              have P2 := XB.2.keeps B2.stays
              have D2 := D1.turn T2
              have T12 := T1.trans T2
              k_steps
              unfold Hold
              rename Fr _ _ _ _ => eF
              rename News _ _ _ _ => eN3
              refine kda_set (knd := strKind _ _) (k := pageS (cutAt ns k)) eF eN3 (two_of eN3 (PL.upd o2) hTd (Ne.symm hdI)) hkd2 (strKind_is _ _ _ _) (big_ok (by omega)) ?_
              intro h4 o3 F4 N4 hd4
              clear eF eN3
              have eN4 := news_sub (R' := (I, oI) :: Rg o3) N4 (fun p hp => List.mem_cons_of_mem _ hp)
              clear N4
              have off3 : ∀ p ∈ Rg o3, p.1 ≠ I := fun p hp => let ⟨q, hq, e⟩ := updF_addr (PL.upd o1) hp; e ▸ off q hq
              have hkv3 := memo_stored hkv2 (ms := cutAt ns k) (t := t2) (by omega) (by omega)
              rw [hw] at hkv3
              have hkl3 := stored_length_le kvs2 (pageS (cutAt ns k)) (.str (Str.ofString "<page _law_play() failed>") t2)
              have hM3 : Memo w o3 (b + (k + 1) * (1 + asks (n - 1))) := ⟨_, hd4, by omega, hkv3⟩
              k_steps
              unfold Hold
              rename Fr _ _ _ _ => eF
              rename News _ _ _ _ => eN
              with_unfolding_all refine kda_item (knd := strKind _ _) (k := pageS (cutAt ns k)) eN (List.mem_cons_of_mem _ (updF_mem (PL.upd o3))) hd4 (strKind_is _ _ _ _) (valueAt_stored _ _ _) ?_
              k_steps
              rename Fr _ _ _ _ => eF
              rename News _ _ _ _ => eN
              refine' LStepT.intro o3 T12 eF eN (fun p hp => hp) off3 ?k2 ⟨hM3, ?_⟩
              case k2 =>
                intro z h1 h3
                have h3' := h3
                simp only [List.contains_cons, List.contains_nil, Bool.or_false, Bool.or_eq_false_iff, beq_eq_false_iff_ne, ne_eq] at h3'
                simp only [h1, h3'.1, h3'.2, h3, if_false, Bool.false_eq_true]
              intro j hj
              rcases Nat.lt_succ_iff_lt_or_eq.mp hj with h | h
              · exact hP j h
              · subst h; exact hz
          | some v =>
            obtain ⟨tv, rfl⟩ := memo_at hkv hval
            rw [hw] at hval
            with_unfolding_all refine kdg_notin (knd := strKind _ _) (k := pageS (cutAt ns k)) eN (by simp) hkd hlo (strKind_is _ _ _ _) true (by rw [hval]; rfl) ?_
            dsimp only [Bool.not_true]
            have eN2 := news_five eN
            clear eN
            have hM3 : Memo w o1 (b + (k + 1) * (1 + asks (n - 1))) := ⟨_, hkd, by omega, hkv⟩
            k_steps
            unfold Hold
            rename Fr _ _ _ _ => eF
            rename News _ _ _ _ => eN
            with_unfolding_all refine kda_item (knd := strKind _ _) (k := pageS (cutAt ns k)) eN (List.mem_cons_of_mem _ (updF_mem (PL.upd o1))) hkd (strKind_is _ _ _ _) hval ?_
            k_steps
            rename Fr _ _ _ _ => eF
            rename News _ _ _ _ => eN
            refine' LStepT.intro o1 T1 eF eN (fun p hp => hp) off ?k2 ⟨hM3, ?_⟩
            case k2 =>
              intro z h1 h3
              have h3' := h3
              simp only [List.contains_cons, List.contains_nil, Bool.or_false, Bool.or_eq_false_iff, beq_eq_false_iff_ne, ne_eq] at h3'
              simp only [h1, h3'.1, h3'.2, h3, if_false, Bool.false_eq_true]
            intro j hj
            rcases Nat.lt_succ_iff_lt_or_eq.mp hj with h | h
            · exact hP j h
            · subst h; exact hz
    · unfold Hold
      intro o2 g2 u h2 tk2 T2 hPd F2 N2
      clear eF eN rgX
      obtain ⟨hM2, hP2⟩ := hPd
      have hw0 : worth ns = 0 := by
        refine Decidable.byContradiction fun q => ?_
        obtain ⟨j, hj, e⟩ := win_move q
        exact hP2 j hj e
      rw [hlen, asks_top] at hM2
      k_steps
      dsimp only
      k_unfold
      dsimp only
      exact ⟨g2, _, _, g o2, (show KtsTurn (L :: outer.filterMap (·.frame)) _ _ from T2), by assumption, news_sub N2 (PL.out o2), fun h0 T0 F0 N0 B0 => hret _ _ _ _ _ T0 F0 N0 B0 ⟨hw0, o2, _, rfl, hM2, rfl⟩⟩
theorem play_does {w : World} (n : Nat) : PlayDoes w n := by
  induction n using Nat.strongRecOn with
  | ind n ih => exact play_step ih
end
section
theorem freshOutc : True := by (w_top off; trivial)
open PySem PySem.W PySem.Spec PySem.Calls PyProof.Rows PyProof.V
set_option maxRecDepth 100000
set_option maxHeartbeats 4000000
set_option linter.all false
local macro_rules | `(tactic| k_room) => `(tactic| first | ktr_room | (simp only [Around.mark]; ktr_room) | exact Nat.lt_of_le_of_lt (Nat.add_le_add_left (show 1 ≤ 3 * _ + 5 by omega) _) (by assumption))
local macro_rules | `(tactic| walk_at "call ref") => `(tactic| (k_here; (with_reducible show wpAny _ _ (call (Value.ref 193) _) _ _ _); refine hold_up ?_))
local macro_rules | `(tactic| walk_at "getAttr ref") => `(tactic| (k_here; refine hold_up ?_))
local macro_rules | `(tactic| walk_at "getMethod ref") => `(tactic| (k_here; refine hold_up ?_))
theorem two_at {a : Addr × Obj} {d L : Addr} {o : Obj} {R : Obj → Led} {news : Led} {h₀ h : Heap} (_N : News h₀ L h (a :: news)) (U : UpdF d o news R) (ha : @Ne Nat a.1 d) : UpdF d o (a :: news) (fun o' => a :: R o') := .tail ha U
theorem news_third {h₀ h : Heap} {L : Addr} {a b : Addr × Obj} {R : Led} (N : News h₀ L h (a :: b :: R)) : News h₀ L h (a :: R) := news_sub N fun p hp => by
  simp only [List.mem_cons] at hp ⊢
  rcases hp with h | h <;> simp [h]
theorem news_fifth {h₀ h : Heap} {L : Addr} {a b c e : Addr × Obj} {R : Led} (N : News h₀ L h (a :: b :: c :: e :: R)) : News h₀ L h (a :: R) := news_sub N fun p hp => by
  simp only [List.mem_cons] at hp ⊢
  rcases hp with h | h <;> simp [h]
theorem outcome_does {w : World} {ns : List Nat} {t : Tok} {d : Addr} {o : Obj} {b : Nat} {news : Led} {g : Obj → Led} (hn : ns.length ≤ 6) (hsum : ns.sum ≤ 1000) (U : UpdF d o news g) (hlo : (d == sysModules) = false) (hM : Memo w o b) (hb : b + asks ns.length ≤ 10000) :
    DoesT w 200 [.str (pageS ns) t, .ref d] (3 * ns.length + 5) (64 * ns.length + 80) news (fun r news' => ∃ o' a n p q t₁ t₂ t₃, r = .ref a ∧ news' = (a, ({ cls := .type "tuple", data := .seq #[.int n t₁, .str p t₂, .str q t₃] } : Obj)) :: g o' ∧ Memo w o' (b + asks ns.length) ∧ DueIs ns n p q) (fun _ _ _ => False) := by
  unfold DoesT
  k_fill
  intro dp un gd cn cs a ccd cl outer A₀ base h₀ L m s mean mg mb Q E B F X' N T XB KD hk hdp hu hret hexc
  have hdm := updF_mem U
  refine wpAny_call ?_
  k_dflt (walk_at "enterT")
  k_steps
  unfold Hold
  rename Fr _ _ _ _ => eF
  rename News _ _ _ _ => eN
  rename KtsDicts _ _ => eD
  rename Below _ _ _ _ => eB
  rename ∀ p ∈ news, _ => hlt
  have hTd := ne_first (d := d) eN (Nat.ne_of_gt (hlt _ hdm))
  have U2 := two_at eN U hTd
  with_unfolding_all refine' doesT_use (play_does ns.length ns _ _ d o _ b _ _ rfl hn hsum (List.mem_cons_self ..) U2 hlo hM hb) eB eF ?x1 eN ?x2 XB eD ?x3 ?x4 ?x5 ?_ ?_
  case x1 => k_asm
  case x2 => k_asm
  case x3 => rfl
  case x4 => k_room
  case x5 => k_units
  · intro g2 r news2 h2 tk2 T2 F2 N2 B2 hp2
    obtain ⟨hw0, o2, t2, rfl, hM2, rfl⟩ := hp2
    clear eF eN
    have X2 := XB.1.keeps B2.stays
    have P2 := XB.2.keeps B2.stays
    have D2 := eD.turn T2
    k_steps
    rename News _ _ _ _ => eN
    show LeaveT A₀ base outer h₀ L m _ _ _ _
    refine ⟨g2, _, _, _, (show KtsTurn (L :: outer.filterMap (·.frame)) _ _ from T2), by assumption, news_third eN, fun h0 T0 F0 N0 B0 => hret _ _ _ _ _ T0 F0 N0 B0 ⟨o2, _, _, _, _, _, _, _, rfl, rfl, hM2, .inl ⟨hw0, rfl, rfl, rfl⟩⟩⟩
  · intro g2 G e D oD news2 h2 tk2 T2 F2 B2 R2 U22 hx
    obtain ⟨hw0, o2, rfl, hM2, hNag⟩ := hx
    clear eF eN
    refine caught_D R2 F2 B2 U22 XB.1 XB.2 (eD.turn T2) T2 (by k_is) (by kernel_rfl) ?_
    intro h3 g3 oe ws tk3 hc3 hd3 hw3 T3 F3 N3 B3 X3 P3 D3
    obtain ⟨k, nk, u1, u2, u3, hnk, hz, hP, hNm⟩ := hNag
    k_steps
    unfold Hold
    rename Fr _ _ _ _ => eF
    rename News _ _ _ _ => eN
    refine nag_meth eF X3 eN (List.mem_cons_self ..) (List.mem_cons_of_mem _ (List.mem_cons_self ..)) hc3 hw3 hd3 hNm (by k_is) (by k_is) rfl no_get_lineno nn_g1 ?_
    dsimp only
    k_steps
    unfold Hold
    rename Fr _ _ _ _ => eF
    rename News _ _ _ _ => eN
    refine nag_read eF (by k_asm) eN (List.mem_cons_self ..) (List.mem_cons_of_mem _ (List.mem_cons_self ..)) hc3 hw3 hd3 hNm (by k_is) no_lineno nn_lineno rfl ?_
    k_steps
    unfold Hold
    rename Fr _ _ _ _ => eF
    rename News _ _ _ _ => eN
    refine nag_meth eF X3 eN (List.mem_cons_self ..) (List.mem_cons_of_mem _ (List.mem_cons_self ..)) hc3 hw3 hd3 hNm (by k_is) (by k_is) rfl no_get_msg nn_g2 ?_
    dsimp only
    k_steps
    unfold Hold
    clear eF eN
    rename Fr _ _ _ _ => eF
    rename News _ _ _ _ => eN
    refine nag_read eF (by k_asm) eN (List.mem_cons_self ..) (List.mem_cons_of_mem _ (List.mem_cons_self ..)) hc3 hw3 hd3 hNm (by k_is) no_msg nn_msg rfl ?_
    k_steps
    unfold Hold
    rename Fr _ _ _ _ => eF
    rename News _ _ _ _ => eN
    refine nag_meth eF X3 eN (List.mem_cons_self ..) (List.mem_cons_of_mem _ (List.mem_cons_self ..)) hc3 hw3 hd3 hNm (by k_is) (by k_is) rfl no_get_line nn_g3 ?_
    dsimp only
    k_steps
    unfold Hold
    clear eF eN
    rename Fr _ _ _ _ => eF
    rename News _ _ _ _ => eN
    refine nag_read eF (by k_asm) eN (List.mem_cons_self ..) (List.mem_cons_of_mem _ (List.mem_cons_self ..)) hc3 hw3 hd3 hNm (by k_is) no_line nn_line rfl ?_
    k_steps
    rename Fr _ _ _ _ => eF9
    rename News _ _ _ _ => eN9
    refine ⟨g3, _, _, _, (show KtsTurn (L :: outer.filterMap (·.frame)) _ _ from T3), eF9, news_fifth eN9, fun h0 T0 F0 N0 B0 => hret _ _ _ _ _ T0 F0 N0 B0 ⟨o2, _, _, _, _, _, _, _, rfl, rfl, hM2, .inr ⟨hw0, k, nk, hnk, hz, hP, rfl, rfl, rfl⟩⟩⟩
end
section
theorem freshLawP : True := by (w_top off; trivial)
open PySem PySem.W PySem.Spec PySem.Calls PyProof.Rows PyProof.V
set_option maxRecDepth 100000
set_option maxHeartbeats 4000000
set_option linter.all false
theorem len_flat {α β : Type} {f : α → List β} : ∀ {l : List α} {a : α}, a ∈ l → (f a).length ≤ (l.flatMap f).length
  | b :: l, a, h => by
    rw [List.flatMap_cons, List.length_append]
    rcases List.mem_cons.mp h with rfl | h
    · omega
    · have := len_flat (f := f) h; omega
theorem paths_top {hs : List Nat} (hh : ∀ k, 1 ≤ k → k < 7 → hs.getD k 0 < k) : ∀ h, h < 7 → (pathsF hs 7 h).length ≤ (pathsF hs 7 0).length := by
  intro h
  induction h using Nat.strongRecOn with
  | _ h ih =>
    intro h7
    by_cases h0 : h = 0
    · rw [h0]; exact Nat.le_refl _
    · have hp := hh h (by omega) h7
      refine Nat.le_trans ?_ (ih _ hp (by omega))
      have hk : h ∈ kids hs (hs.getD h 0) := by
        unfold kids
        simp only [List.mem_filter, List.mem_range, Bool.and_eq_true, decide_eq_true_eq]
        exact ⟨h7, hp, trivial⟩
      rw [paths_step hs (hs.getD h 0)]
      refine Nat.le_trans ?_ (len_flat hk)
      rw [List.length_cons, List.length_map]
      omega
theorem outOk_at {hv wv : List Value} (h : OutOk hv wv 6) : ∃ hs ws : List Nat, hs.length = 7 ∧ ws.length = 7 ∧ (∀ i, ws.getD i 0 ≤ 2) ∧ (∀ i, 1 ≤ i → i < 7 → 1 ≤ ws.getD i 0) ∧ (∀ k, 1 ≤ k → k < 7 → hs.getD k 0 < k) ∧ sortOk hs = true ∧ (∀ h, h < 7 → (pathsF hs 7 h).length ≤ 6) ∧ NatsAre hv hs ∧ NatsAre wv ws := by
  obtain ⟨hs, ws, h1, h2, h3, h4, h5, h6, h7, h8⟩ := h
  have hform : ∃ a b c d e, hs = heads6 a b c d e ∧ a < 2 ∧ b < 3 ∧ c < 4 ∧ d < 5 ∧ e < 6 := by
    match hs, h1 with
    | [x0, x1, x2, x3, x4, x5, x6], _ =>
      have e1 := h7 1 (by omega) (by omega)
      have e2 := h7 2 (by omega) (by omega)
      have e3 := h7 3 (by omega) (by omega)
      have e4 := h7 4 (by omega) (by omega)
      have e5 := h7 5 (by omega) (by omega)
      have e6 := h7 6 (by omega) (by omega)
      simp only [List.getD_cons_succ, List.getD_cons_zero] at e1 e2 e3 e4 e5 e6 h5
      refine ⟨x2, x3, x4, x5, x6, ?_, e2, e3, e4, e5, e6⟩
      have : x1 = 0 := by omega
      rw [h5, this]; rfl
  obtain ⟨a, b, c, d, e, rfl, ha, hb, hc, hd, he⟩ := hform
  refine ⟨_, ws, rfl, h2, ?_, fun i k1 k2 => (h8 i k1 (by omega)).1, fun k k1 k2 => h7 k k1 (by omega), sorted_at ha hb hc hd he, ?_, h3, h4⟩
  · intro i
    by_cases hi : i = 0
    · subst hi; rw [h6]; omega
    by_cases h9 : i ≤ 6
    · exact (h8 i (by omega) h9).2
    · rw [List.getD_eq_getElem?_getD, List.getElem?_eq_none (by omega)]; decide
  · intro h hh
    refine Nat.le_trans (paths_top (fun k k1 k2 => h7 k k1 (by omega)) h hh) ?_
    exact sortOk_len (sorted_at ha hb hc hd he)
theorem DueIs.same {ns : List Nat} {n n' : Int} {p p' q q' : Str} (h : DueIs ns n p q) (h' : DueIs ns n' p' q') : n = n' ∧ p = p' ∧ q = q' := by
  rcases h with ⟨h0, rfl, rfl, rfl⟩ | ⟨h0, k, nk, hk, hz, hm, rfl, rfl, rfl⟩
  · rcases h' with ⟨g0, rfl, rfl, rfl⟩ | ⟨g0, _⟩
    · exact ⟨rfl, rfl, rfl⟩
    · exact absurd h0 g0
  · rcases h' with ⟨g0, _⟩ | ⟨g0, k', nk', hk', hz', hm', rfl, rfl, rfl⟩
    · exact absurd g0 h0
    · have : k = k' := by
        rcases Nat.lt_trichotomy k k' with h | h | h
        · exact absurd hz (hm' k h)
        · exact h
        · exact absurd hz' (hm k' h)
      subst this
      rw [hk] at hk'
      cases hk'
      exact ⟨rfl, rfl, rfl⟩
theorem page_len {hs ws : List Nat} (h : (pathsF hs 7 0).length ≤ 6) : (pageP hs ws 0).length ≤ 6 := by unfold pageP; rw [List.length_map]; exact h
theorem ne_kind {h₀ h : Heap} {L : Addr} {news : Led} (N : News h₀ L h news) {a c : Addr} {o w : Obj} (m1 : (a, o) ∈ news) (m2 : (c, w) ∈ news) (h : o.data ≠ w.data) : @Ne Nat a c := fun e => by
  have e : a = c := e
  subst e
  have h1 := N.get m1
  have h2 := N.get m2
  rw [h1] at h2
  cases h2
  exact h rfl
theorem updC {h₀ h : Heap} {L c dd R T lw lh : Addr} {od w : Obj} {a1 a2 a3 a4 : Array Value} {n1 n2 n3 n4 : Nat} {x : Option Value} (N : News h₀ L h [(dd, od), (R, listOf a1 n1), (T, ({ cls := .type "tuple", data := .seq a2 n2 } : Obj)), (lw, listOf a3 n3), (lh, listOf a4 n4), (c, w)]) (hw : w.data = .cell x) (hd : @LT.lt Nat _ c dd) :
    UpdF c w [(dd, od), (R, listOf a1 n1), (T, ({ cls := .type "tuple", data := .seq a2 n2 } : Obj)), (lw, listOf a3 n3), (lh, listOf a4 n4), (c, w)] (fun o' => [(dd, od), (R, listOf a1 n1), (T, ({ cls := .type "tuple", data := .seq a2 n2 } : Obj)), (lw, listOf a3 n3), (lh, listOf a4 n4), (c, o')]) := by
  have hc : (c, w) ∈ [(dd, od), (R, listOf a1 n1), (T, ({ cls := .type "tuple", data := .seq a2 n2 } : Obj)), (lw, listOf a3 n3), (lh, listOf a4 n4), (c, w)] := by simp
  have e1 : @Ne Nat R c := ne_kind N (a := R) (o := listOf a1 n1) (by simp) hc (by rw [hw]; intro h; cases h)
  have e2 : @Ne Nat T c := ne_kind N (a := T) (o := { cls := .type "tuple", data := .seq a2 n2 }) (by simp) hc (by rw [hw]; intro h; cases h)
  have e3 : @Ne Nat lw c := ne_kind N (a := lw) (o := listOf a3 n3) (by simp) hc (by rw [hw]; intro h; cases h)
  have e4 : @Ne Nat lh c := ne_kind N (a := lh) (o := listOf a4 n4) (by simp) hc (by rw [hw]; intro h; cases h)
  exact .tail (Nat.ne_of_gt hd) (.tail e1 (.tail e2 (.tail e3 (.tail e4 (.head fun p hp => nomatch hp)))))
theorem fr_turn0 {g g' h : Heap} {L : Addr} {m : Str → Option Value} (T : KtsTurn [] g g') (F : Fr g' L h m) : Fr g L h m :=
  ⟨F.ns, fun b o e => F.keep b o (T.other b o e (by intro h; cases h)), by have := F.above; rw [T.size] at this; exact this⟩
theorem news_turn0 {g g' h : Heap} {L : Addr} {news : Led} (T : KtsTurn [] g g') (N : News g' L h news) : News g L h news := fun p hp =>
  ⟨(N p hp).1, (N p hp).2.1, by
    cases e : g.get? p.1 with
    | none => rfl
    | some o =>
      have := T.other _ _ e (by intro h; cases h)
      rw [(N p hp).2.2] at this
      cases this⟩
theorem asks_six {n : Nat} (h : n ≤ 6) : asks n ≤ 10000 := Nat.le_trans (asks_mono h) (by decide)
theorem memo_nil {w : World} {o : Obj} (h : o.IsDictOf (strKind (RowW.prog (OpenRow.toRowW (OpenLaw.row Challenge.rw_wa0022_01))) w) []) : Memo w o 0 := ⟨[], h, Nat.le_refl _, fun p hp => nomatch hp⟩
theorem updF_top {d L : Addr} {o : Obj} {news : Led} {h₀ h : Heap} (_N : News h₀ L h ((d, o) :: news)) (hd : ∀ p ∈ news, @Ne Nat p.1 d) : UpdF d o ((d, o) :: news) (fun o' => (d, o') :: news) := .head hd
theorem five_ne {a b c e f : Addr × Obj} {d : Addr} (h : (@LT.lt Nat _ a.1 d) ∧ (@LT.lt Nat _ b.1 d) ∧ (@LT.lt Nat _ c.1 d) ∧ (@LT.lt Nat _ e.1 d) ∧ (@LT.lt Nat _ f.1 d)) : ∀ p ∈ [a, b, c, e, f], @Ne Nat p.1 d := by
  intro p hp
  simp only [List.mem_cons, List.not_mem_nil, or_false] at hp
  rcases hp with rfl | rfl | rfl | rfl | rfl
  · exact Nat.ne_of_lt h.1
  · exact Nat.ne_of_lt h.2.1
  · exact Nat.ne_of_lt h.2.2.1
  · exact Nat.ne_of_lt h.2.2.2.1
  · exact Nat.ne_of_lt h.2.2.2.2
theorem ne_tup3 {prog : Program} {w : World} {A : Around} {E : Value → Shared → Prop} {s : Shared} {Q : Value → Shared → Prop} {h₀ : Heap} {L : Addr} {news : Led} {a b : Addr} {n : Int} {p q : Str} {t1 t2 t3 u1 u2 u3 : Tok}
    (N : News h₀ L s.heap news) (h1 : (a, ({ cls := .type "tuple", data := .seq #[.int n t1, .str p t2, .str q t3] } : Obj)) ∈ news) (h2 : (b, ({ cls := .type "tuple", data := .seq #[.int n u1, .str p u2, .str q u3] } : Obj)) ∈ news) (hu : A.units < cLine) (h : Q (.bool false) s) :
    wpAny (model prog w) A (compareOp .NotEq (.ref a) (.ref b)) Q E s := by
  refine cmp_ofNotEq ?_
  have l1 : s.heap.IsTuple a #[.int n t1, .str p t2, .str q t3] := ⟨_, (N _ h1).1, rfl, _, rfl⟩
  have l2 : s.heap.IsTuple b #[.int n u1, .str p u2, .str q u3] := ⟨_, (N _ h2).1, rfl, _, rfl⟩
  refine SeqAt.RcNeAt.tuples (e := fun _ => true) l1 l2 hu (fun j k1 k2 => ?_) prog w _ _ h
  have hj : j = 0 ∨ j = 1 ∨ j = 2 := by
    have : j < 3 := k1
    omega
  rcases hj with rfl | rfl | rfl
  · have := SeqAt.EqAt.int_int (A := A.in1) (s := s) n t1 n u1
    rw [beq_self_eq_true] at this
    exact this
  · have := SeqAt.EqAt.str_str (A := A.in1) (s := s) p t2 p u2
    rw [beq_self_eq_true] at this
    exact this
  · have := SeqAt.EqAt.str_str (A := A.in1) (s := s) q t3 q u3
    rw [beq_self_eq_true] at this
    exact this
end
section
theorem freshCompD : True := by (w_top off; trivial)
open PySem PySem.W PySem.Spec PySem.Calls PyProof.Rows PyProof.V
set_option maxRecDepth 100000
set_option maxHeartbeats 4000000
set_option linter.all false
section
variable {prog : Program} {w : World} {A : Around} {E : Value → Shared → Prop} {s : Shared} {h₀ : Heap} {L : Addr} {m : Str → Option Value} {env : Env} {K : Type} [DecidableEq K] {knd : KeyKind prog w K}
open LCg LCt in
theorem restT_none {ct elt : Expr} {x : Str} {scope : Scope} {cl : List (Str × Addr)} {S : List (Addr × Obj) → Prop} {P : Nat → Value → Prop} {Fin : List Value → List (Addr × Obj) → Prop} {news : Led} (hS : S news) (fin : Fin [] news)
    (turn : Hold (∀ i v I oI C oC D m₂ h tk (E' : Value → Shared → Prop), P i v → NsObj oC m₂ → m₂ x = some v → Fr h₀ L h m → News h₀ L h ((I, oI) :: (C, oC) :: (D, lst []) :: news) → Off3 I C D news → ((@Ne Nat I C) ∧ (@Ne Nat I D) ∧ (@Ne Nat C D)) →
      wpAny (model prog w) A (isTrue ct (compEnvC scope cl C env) (eval ct (compEnvC scope cl C env))) (fun ok s' => ok = false ∧ ∃ h' tk', s' = { s with heap := h', toks := tk' } ∧ Fr h₀ L h' m ∧ News h₀ L h' ((I, oI) :: (C, oC) :: (D, lst []) :: news)) E' { s with heap := h, toks := tk })) :
    ∀ k i, CompRestT prog w A h₀ L m env ct elt x scope cl s S P Fin k i [] news
  | 0, i => CompRestT.zero fin
  | k + 1, i => CompRestT.succ fun v I oI C oC D m₂ h tk E' hP hC hx F N off ne => by
    refine wpAny_mono (turn i v I oI C oC D m₂ h tk E' hP hC hx F N off ne) (fun ok s' h' => ?_) fun _ _ e => e
    obtain ⟨rfl, h2, tk2, rfl, F2, N2⟩ := h'
    simp only [Bool.false_eq_true, if_false]
    exact ⟨h2, tk2, news, rfl, F2, N2, off, hS, restT_none hS fin turn k (i + 1)⟩
open LCg LCt in
theorem ListComp_DT {ct elt iter : Expr} {x : Str} {px : Pos} {scope : Scope} {cl : List (Str × Addr)} {pos : Pos} {Q : Value → Shared → Prop} (F₀ : Fr h₀ L s.heap m)
    (hclos : closureFor scope env = pure cl) (hcell : ∀ y ∈ scope.names, y.2 ≠ .cell) (hkind : scope.kind = .function)
    (hnames : ∀ y ∈ scope.names, y.2 = .local → scope.names.lookup y.1 = some .local) (hx : scope.names.lookup x = some .local)
    (h : wpAny (model prog w) A (eval iter env) (fun xv s₁ => ∃ (d : Addr) (o : Obj) (kvs : List (K × Value)) (news : Led), xv = .ref d ∧ A.handled = none ∧ Fr h₀ L s₁.heap m ∧ News h₀ L s₁.heap news ∧ (d, o) ∈ news ∧ o.IsDictOf knd kvs ∧ (d == sysModules) = false ∧ kvs.length ≤ sizeLine ∧
      ∀ g, CompRestT prog w A h₀ L m env ct elt x scope cl { s₁ with heap := g } (fun nw => (d, o) ∈ nw) (fun i v => ∃ k y, kvs[i]? = some (k, y) ∧ knd.is k v = true) (FinE h₀ L m { s₁ with heap := g } Q) kvs.length 0 [] news) E s)
    (hs : ∀ x, foldedSetIterable iter env x = pure x := by intro _; rfl) :
    wpAny (model prog w) A (eval (.ListComp elt [⟨.Name x px, iter, [ct], 0⟩] scope pos) env) Q E s := by
  rw [eval_ListComp]
  refine wpAny_comprehension_free (use := none) rfl hs hclos hkind hnames (wpAny_mono h (fun xv s₁ h₁ => ?_) fun _ _ e => e)
  obtain ⟨d, o, kvs, news, rfl, hh, F, N, hm, hd, lo, hsz, R⟩ := h₁
  obtain ⟨ep, ha⟩ := KdkAt.of hd
  have hlt : d < s₁.heap.objs.size := Heap.lt_size (N _ hm).1
  refine wpAny_pyIter_dict lo (ha.dictAt (N _ hm).1) ?_
  refine block_T (Walks.dictKeys (knd := knd) hh s₁.heap.objs.size d (Nat.ne_of_lt hlt) kvs ep) hsz (fun i h st => by obtain ⟨o, e, _⟩ := st.1; exact ⟨o, e⟩)
    (fun i h h' o' nw st e e' k N S => ⟨by obtain ⟨o2, q, r⟩ := st.1; rw [e] at q; cases q; exact ⟨_, e', r⟩, ha.dictAt (N _ S).1⟩)
    hcell hkind hx ⟨⟨_, Heap.get?_push_size _ rfl, rfl, rfl⟩, (ha.dictAt (N _ hm).1).push _⟩ (fun b hb => ?_)
    (F.push _) (fun p hp => ⟨Heap.get?_push_of_some _ (N p hp).1, (N p hp).2⟩) (Nat.ne_of_lt F.ns.lt) (next_is_new F) (fun p hp => Nat.ne_of_lt (Heap.lt_size (N p hp).1)) hm (R _) ?_
  · show b < (s₁.heap.push _).objs.size
    rw [Heap.size_push]
    rcases List.mem_cons.mp hb with rfl | hb
    · exact Nat.lt_succ_self _
    · rw [List.mem_singleton.mp hb]; exact Nat.lt_succ_of_lt hlt
  · intro D C h tk m' ys news' F' N' o1 hn hC₀ hD₀ hCL hDL hCD offC fin
    refine ⟨m', hn, fun h'' hs'' => fin D h'' tk (F'.change hs'' hCL hC₀) (fun p hp => ?_) o1⟩
    refine ⟨hs''.extBut _ _ ?_ (N' p hp).1, (N' p hp).2⟩
    rcases List.mem_cons.mp hp with rfl | hp
    · exact Ne.symm hCD
    · exact offC p hp
end
theorem memo_known {kvs : List (Str × Value)} (h : MemoKv kvs) {i : Nat} {k : Str} {y : Value} (hk : kvs[i]? = some (k, y)) : ∃ ms t, k = pageS ms ∧ valueAt kvs k = some (.str (wordS ms) t) ∧ ms.length ≤ 6 ∧ ms.sum ≤ 1000 := by
  have hm := List.mem_of_getElem? hk
  obtain ⟨ms, t, e1, e2, l1, l2⟩ := h _ hm
  have e1 : k = pageS ms := e1
  have : (valueAt kvs k).isSome := by
    unfold valueAt
    rw [Option.isSome_map]
    exact List.find?_isSome.mpr ⟨_, hm, by simp⟩
  obtain ⟨v, hv⟩ := Option.isSome_iff_exists.mp this
  subst e1
  obtain ⟨t2, rfl⟩ := memo_at h hv
  exact ⟨ms, t2, rfl, hv, l1, l2⟩
end
section
theorem freshLaw : True := by (w_top off; trivial)
open PySem PySem.W PySem.Spec PySem.Calls PyProof.Rows PyProof.V
set_option maxRecDepth 100000
set_option maxHeartbeats 4000000
set_option linter.all false
local macro_rules | `(tactic| walk_at "call ref") => `(tactic| (k_here; (first | with_reducible show wpAny _ _ (call (Value.ref 171) _) _ _ _ | with_reducible show wpAny _ _ (call (Value.ref 183) _) _ _ _ | with_reducible show wpAny _ _ (call (Value.ref 178) _) _ _ _ | with_reducible show wpAny _ _ (call (Value.ref 188) _) _ _ _ | with_reducible show wpAny _ _ (call (Value.ref 200) _) _ _ _ | with_reducible show wpAny _ _ (call (Value.ref 214) _) _ _ _ | with_reducible show wpAny _ _ (call (Value.ref 221) _) _ _ _); refine hold_up ?_))
local macro_rules | `(tactic| walk_at "compareOp NotEq") => `(tactic| (k_here; (with_reducible show wpAny _ _ (compareOp CmpOp.NotEq (Value.ref _) (Value.ref _)) _ _ _); refine' ne_tup3 ?N ?m1 ?m2 ?u ?_; (case N => k_asm); (case m1 => k_mem); (case m2 => k_mem); (case u => k_units); k_whole))
local macro_rules | `(tactic| walk_at "CompSrc") => `(tactic| (k_here; refine hold_up ?_))
local macro_rules | `(tactic| walk_at "pyIter ref") => `(tactic| (k_here; refine hold_up ?_))
local macro_rules | `(tactic| walk_at "eval ListComp") => `(tactic| (k_here; refine hold_up ?_))
local macro_rules | `(tactic| walk_at "subscriptTail") => `(tactic| (k_here; (with_reducible show wpAny _ _ (subscriptTail _ _ (Value.ref _) (Value.str _ _)) _ _ _); refine hold_up ?_))
theorem law_holds : PySem.Challenge.rw_wa0022_01.Holds := hd (by
  k_go0
  all_goals (try k_fold)
  k_steps
  unfold Hold
  rename Fr _ _ _ _ => eF
  rename News _ _ _ _ => eN
  rename Below _ _ _ _ => eB
  rename (hd.heap_39 _).In _ => KX
  rename Top _ _ _ _ _ _ => TP
  rename Heap.IsList _ _ _ => hL
  rename IntsAre _ _ => hI
  rename ¬ _ => hlen
  have hlen2 := hI.length
  with_unfolding_all refine' outline_does hI (by omega) _ _ _ _ _ _ _ _ _ _ _ _ _ _ _ _ _ _ _ _ eB eF KX eN TP ?x1 hL ?x2 ?x3 ?_
  case x1 => rfl
  case x2 => k_room
  case x3 => k_units
  intro r1 news1 h1 tk1 F1 N1 P1
  obtain ⟨T1, lh, lw, hv, wv, nt1, n1, n2, rfl, rfl, hO⟩ := P1
  obtain ⟨hs, ws, hhs, hws, hw, hw1, hh, hok, hl6, hA, hB⟩ := outOk_at hO
  clear eF eN hO
  k_steps
  unfold Hold
  rename Fr _ _ _ _ => eF
  rename News _ _ _ _ => eN
  with_unfolding_all refine' does_use (rows_does hhs hws hw hh hok (hl6 0 (by decide)) hA hB (List.mem_cons_of_mem _ (List.mem_cons_of_mem _ (List.mem_cons_self ..))) (List.mem_cons_of_mem _ (List.mem_cons_self ..))) eB eF KX eN TP ?x1 ?x2 ?x3 ?_
  case x1 => rfl
  case x2 => k_room
  case x3 => k_units
  intro r2 news2 h2 tk2 F2 N2 P2
  obtain ⟨R, rv, rn, rfl, hR, rfl, hrv⟩ := P2
  have hpl := page_len (ws := ws) (hl6 0 (by decide))
  have hps := pageP_sum hw (hl6 0 (by decide))
  clear eF eN
  k_steps
  unfold Hold
  rename Fr _ _ _ _ => eF
  rename News _ _ _ _ => eN
  with_unfolding_all refine' does_use (page_does hhs hws hw hw1 hl6 hA hB 7 0 _ n1 n2 _ (by decide) (by decide) (List.mem_cons_of_mem _ (List.mem_cons_of_mem _ (List.mem_cons_of_mem _ (List.mem_cons_self ..)))) (List.mem_cons_of_mem _ (List.mem_cons_of_mem _ (List.mem_cons_self ..)))) eB eF KX eN TP ?y1 ?y2 ?y3 ?_
  case y1 => rfl
  case y2 => k_room
  case y3 => k_units
  intro r3 news3 h3 tk3 F3 N3 P3
  obtain ⟨⟨t3, rfl⟩, rfl⟩ := P3
  clear eF eN
  k_steps
  unfold Hold
  rename Fr _ _ _ _ => eF
  rename News _ _ _ _ => eN
  with_unfolding_all refine' does_use (text_does (Nat.le_trans hpl (by decide)) (Nat.le_trans hps (by decide)) hrv (List.mem_cons_self ..)) eB eF KX eN TP ?z1 ?z2 ?z3 ?_
  case z1 => rfl
  case z2 => k_room
  case z3 => k_units
  intro r4 news4 h4 tk4 F4 N4 P4
  obtain ⟨⟨t4, rfl⟩, rfl⟩ := P4
  clear eF eN
  k_steps
  rename News _ _ _ _ => eN
  rename Fr _ _ _ _ => eF
  rename Obj.data _ = Data.cell _ => hcell
  rename _ ∧ _ => hlt
  with_unfolding_all refine' storeX_C eF eN rfl (updC eN hcell hlt.2.2.2.2) hcell ?_ rfl rfl
  intro h5 o5 F5 N5 d5
  clear eN eF
  try dsimp only at N5
  k_steps
  unfold Hold
  rename Fr _ _ _ _ => eF
  rename News _ _ _ _ => eN
  rename Obj.IsDictOf (strKind _ _) _ _ => hDic
  rename (_ == sysModules) = false => hlo
  have U200 := updF_top eN (five_ne hlt)
  with_unfolding_all refine' doesT_use (outcome_does (b := 0) hpl (Nat.le_trans hps (by decide)) U200 hlo (memo_nil hDic) (by rw [Nat.zero_add]; exact asks_six hpl)) eB eF KX eN TP ⟨KX, TP⟩ ktsDicts_nil ?a1 ?a2 ?a3 ?_ ?_
  case a1 => rfl
  case a2 => k_room
  case a3 => k_units
  rotate_left
  · intro g6 G e D oD news6 h6 tk6 T6 F6 B6 R6 U6 hx
    exact hx.elim
  intro g6 r6 news6 h6 tk6 T6 F6 N6 B6 P6
  obtain ⟨o6, A6, nn6, p6, q6, u1, u2, u3, rfl, rfl, hM6, hD6⟩ := P6
  replace F6 := fr_turn0 T6 F6
  replace N6 := news_turn0 T6 N6
  clear eN eF U200 B6 T6
  k_steps
  unfold Hold
  with_unfolding_all refine' does_use (due_does (ns := pageP hs ws 0) win_move (Nat.le_trans hpl (by decide)) (Nat.le_trans hps (by decide)) hrv (List.mem_cons_of_mem _ (List.mem_cons_of_mem _ (List.mem_cons_self ..)))) eB F6 KX N6 TP ?b1 ?b2 ?b3 ?_
  case b1 => rfl
  case b2 => k_room
  case b3 => k_units
  intro r7 news7 h7 tk7 F7 N7 P7
  obtain ⟨A7, nn7, p7, q7, v1, v2, v3, rfl, hlt7, rfl, hD7⟩ := P7
  obtain ⟨rfl, rfl, rfl⟩ := hD6.same hD7
  clear N6 F6
  k_steps
  unfold Hold
  rename Fr _ _ _ _ => eF
  rename News _ _ _ _ => eN
  obtain ⟨kvs, hdict, hkl, hkv⟩ := hM6
  have hkl2 : kvs.length ≤ 10000 := Nat.le_trans hkl (by rw [Nat.zero_add]; exact asks_six hpl)
  with_unfolding_all refine' ListComp_DT (knd := strKind _ _) eF ?c1 ?c2 ?c3 ?c4 ?c5 ?_
  case c1 => with_unfolding_all rfl
  case c2 => decide
  case c3 => rfl
  case c4 => decide
  case c5 => rfl
  with_unfolding_all refine' nameX_C eN ?n1 (List.mem_cons_of_mem _ (List.mem_cons_of_mem _ (List.mem_cons_of_mem _ (List.mem_cons_of_mem _ (List.mem_cons_of_mem _ (List.mem_cons_of_mem _ (List.mem_cons_of_mem _ (List.mem_cons_self ..)))))))) d5 ?_ ?n2 ?n3
  case n1 => exact rfl
  case n2 => exact rfl
  case n3 => exact rfl
  refine ⟨_, _, kvs, _, rfl, rfl, eF, eN, List.mem_cons_of_mem _ (List.mem_cons_of_mem _ (List.mem_cons_self ..)), hdict, hlo, Nat.le_trans hkl2 (by decide), fun g => ?_⟩
  clear eF eN
  refine restT_none ?hS ?_ ?_ _ _
  case hS => exact List.mem_cons_of_mem _ (List.mem_cons_of_mem _ (List.mem_cons_self ..))
  · intro D9 h9 tk9 F9 N9 off9
    k_steps
  · unfold Hold
    intro i9 v9 I9 oI9 C9 oC9 D9 m9 h9 tk9 E9 hP9 hC9 hx9 F9 N9 off9 ne9
    obtain ⟨k9, y9, hk9, hs9⟩ := hP9
    obtain ⟨t9, rfl⟩ := PySem.Value.isStrOf_shape hs9
    obtain ⟨ms, u9, rfl, hva, hml, hms⟩ := memo_known hkv hk9
    k_steps
    unfold Hold
    rename Fr _ _ _ _ => eF
    rename News _ _ _ _ => eN
    with_unfolding_all refine' kda_item eN (List.mem_cons_of_mem _ (List.mem_cons_of_mem _ (List.mem_cons_of_mem _ (List.mem_cons_of_mem _ (List.mem_cons_of_mem _ (List.mem_cons_self ..)))))) hdict hs9 hva ?_ ?e1 ?e2
    case e1 => with_unfolding_all rfl
    case e2 => intro _; with_unfolding_all rfl
    k_steps
    unfold Hold
    with_unfolding_all refine' does_use (word_does (Nat.le_trans hml (by decide)) (Nat.le_trans hms (by decide))) eB eF KX eN TP ?f1 ?f2 ?f3 ?_
    case f1 => rfl
    case f2 => k_room
    case f3 => k_units
    intro r10 news10 h10 tk10 F10 N10 P10
    obtain ⟨⟨t10, rfl⟩, rfl⟩ := P10
    clear eF eN
    refine ne_str ?_
    rw [bne_self_eq_false]
    with_unfolding_all exact wpAny_of_eq (a := false) rfl ⟨rfl, _, _, rfl, F10, N10⟩)
end
end
end Mine
theorem PySem.Challenge.cw_wa0022_01_holds : PySem.Challenge.rw_wa0022_01.Holds := by
  exact Mine.law_holds
