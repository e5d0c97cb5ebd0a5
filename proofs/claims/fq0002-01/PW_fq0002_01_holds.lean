import PyProof.Rows.All
import Wide.All
import OpenK.AllK
import Wide.FinOn
import PySem.Sre
import PySem.Str
import PySem.Challenge.RW_fq0002_01
set_option Elab.async false
section
open PySem PySem.W PyProof.Rows
namespace Mine
set_option maxRecDepth 100000 in
set_option maxHeartbeats 8000000 in
open_top hd for PySem.Challenge.rw_fq0002_01
end Mine
end
section
open PySem PySem.W PySem.Calls PyProof.Rows PyProof.V PySem.Spec
set_option maxRecDepth 100000
namespace Mine
section
variable {prog : Program} {w : World} {A : Around} {E : Value → Shared → Prop} {s : Shared} {env : Env} {h₀ : Heap} {target : Expr} {body : List Stmt} {Q : Flow → Shared → Prop} {K : Frag} {ax : Addr} {vs : List Value}
theorem lstk_local {I L : Addr} (hI : L < I) (hL : ax < L) : L ∉ [I, ax] := by
  simp only [List.mem_cons, List.not_mem_nil, or_false, not_or]
  exact ⟨Nat.ne_of_lt hI, (Nat.ne_of_lt hL).symm⟩
/-- a loop over a list that the module's part holds, written out: the list itself is never stored to -/
theorem iter_lstK {lo : Obj} {n : Nat} {m₀ : Str → Option Value} {news : List (Addr × Obj)}
    (hh : A.handled = none) (F : Fr h₀ env.locals s.heap m₀) (N : News h₀ env.locals s.heap news) (X₀ : K.In h₀) (hk : K.lookup ax = some lo) (hc : lo.cls = .type "list") (hd : lo.data = .seq vs.toArray n) (_hz : vs.length ≤ 24)
    (rest₀ : ∀ I : Addr, (∀ p ∈ news, p.1 < I) → ItemsRest prog w A E h₀ env target body Q s [(I, "list_iterator")] [] (vs.map .val) m₀ news) :
    wpAny (model prog w) A (pyIter (.ref ax)) (fun it s₂ => TurnsAt prog w A h₀ env target body Q E it s₂) E s := by
  have old := X₀ ax lo hk
  have now := F.keep ax lo old
  have lst : s.heap.IsList ax vs.toArray := ⟨lo, now, hc, n, hd⟩
  have size := Heap.lt_size now
  have upto : ∀ p ∈ news, p.1 < s.heap.objs.size := fun p hp => Heap.lt_size (N p hp).1
  apply wpAny_pyIter_list lst
  apply ktg_core (tk0 := s.toks) (keep := []) (ws := [(s.heap.objs.size, "list_iterator")]) (xs := vs.map .val) (news := news)
    (KTurns.ofWalks (Walks.list hh s.heap.objs.size ax (Nat.ne_of_lt size) vs.toArray) fun _ _ _ _ _ st q => letGo_listiter st.1 q)
  case hn => rw [List.length_map, List.size_toArray]
  case hP =>
    intro i v _ hv
    refine ⟨Itm.val v, ?_, rfl⟩
    have hv' : vs[i]? = some v := by simpa using (show vs.toArray[i]? = some v from hv)
    rw [List.getElem?_map, hv']
    rfl
  case hobj =>
    rintro i h ⟨⟨o, e, c, r⟩, q⟩
    refine ⟨[(s.heap.objs.size, o)], ⟨⟨rfl, c⟩, True.intro⟩, ?_⟩
    intro p hp
    cases List.mem_singleton.mp hp
    exact e
  case hws =>
    intro b hb
    cases List.mem_singleton.mp hb
    exact ⟨.head _, next_is_new F⟩
  case hwr => exact fun b hb => hb
  case hfp =>
    intro b hb
    cases hb with
    | head => exact .inl (.head _)
    | tail _ hb => exact .inr (.inr ⟨lo, by cases List.mem_singleton.mp hb; exact old⟩)
  case hL => exact lstk_local F.ns.lt (Nat.lt_of_lt_of_le (Heap.lt_size old) F.above)
  case hnw =>
    intro p hp hI
    exact Nat.ne_of_lt (upto p hp) (List.mem_singleton.mp hI)
  case hst => exact ⟨⟨_, Heap.get?_push_size _ rfl, rfl, rfl⟩, ⟨lo, Heap.get?_push_of_some _ now, hc, n, hd⟩⟩
  case F => exact F.push _
  case N => exact fun p hp => ⟨Heap.get?_push_of_some _ (N p hp).1, (N p hp).2⟩
  case hk => trivial
  case rest => exact rest₀ _ upto
theorem unpackLK {L : Addr} {m : Str → Option Value} {news : List (Addr × Obj)} {elts : List Expr} {k : Nat} {pos : Pos} {t : Addr} {lo : Obj} {items : Array Value} {n : Nat} {Q : Unit → Shared → Prop} (F : Fr h₀ L s.heap m) (N : News h₀ L s.heap news) (X₀ : K.In h₀) (hk : K.lookup t = some lo) (hc : lo.cls = .type "list") (hd : lo.data = .seq items n)
    (hh : A.handled = none) (hn : (assignEach elts env).length = items.size) (hstar : (assignEach elts env).findIdx? (·.1) = none)
    (h : ∀ h', Fr h₀ L h' m → News h₀ L h' news → wpAny (model prog w) A (assignInOrder ((assignEach elts env).map (·.2)) items.toList) Q E { s with heap := h' }) :
    wpAny (model prog w) A (assign (.Tuple elts k pos) env (.ref t)) Q E s :=
  kun_list F N ⟨lo, F.keep _ _ (X₀ _ _ hk), hc, n, hd⟩ hh hn hstar h
end
theorem unrEndW_var {h₀ h' : Heap} {L I : Addr} {it : Obj} {news : List (Addr × Obj)} {m' : Str → Option Value} {rest : (Str → Option Value) → List (Addr × Obj) → Prop} {s₁ : Shared} {tk : Nat}
    (F : Fr h₀ L h' m') (N : News h₀ L h' ((I, it) :: news)) (l1 : ∀ p ∈ news, p.1 < I) (r : rest m' news) : UnrEndW h₀ L s₁ [(I, it)] rest { s₁ with heap := h', toks := tk } :=
  ⟨h', tk, m', news, rfl, F, N, fun p hp q hq => by rw [List.mem_singleton.mp hq]; exact Nat.ne_of_lt (l1 p hp), r⟩
theorem news_tl {h₀ h' : Heap} {L : Addr} {q : Addr × Obj} {news : List (Addr × Obj)} (N : News h₀ L h' (q :: news)) : News h₀ L h' news := fun p hp => N p (.tail _ hp)
end Mine
end
section
open PySem hiding Frame run
open PySem.Sre
namespace Mine

structure Cx where
  code : Array Nat
  text : Array Nat
  lim : Nat
  start : Nat
  ls : Nat

abbrev Cx.m (C : Cx) (pc pos h : Nat) (om : Bool) (mk : Array (Option Nat)) (lm li : Int) (fs : List Frame) (wt : Nat) (ans : Option Bool) (sn : Seen) : M :=
  { code := C.code, text := C.text, lim := C.lim, start := C.start, lastStart := C.ls, wholeText := false, mustAdvance := false, pc, pos, handed := h, outermost := om, marks := mk, lastmark := lm, lastindex := li,
    loops := #[], inner := none, frames := fs, weight := wt, answer := ans, seen := sn, outcome := none }

theorem runFor_add (a b : Nat) (m : M) : M.runFor (a + b) m = M.runFor b (M.runFor a m) := by
  induction a generalizing m with
  | zero => simp [M.runFor]
  | succ a ih =>
    rw [Nat.succ_add]
    by_cases h : m.outcome.isSome = true
    · have e : ∀ n, M.runFor n m = m := fun n => by cases n with
        | zero => rfl
        | succ n => rw [M.runFor, if_pos h]
      rw [e, e, e]
    · rw [M.runFor, M.runFor, if_neg h, if_neg h]; exact ih _

/-- from here the machine answers b within k steps, the frames as they were -/
def Ev (C : Cx) (k : Nat) (pc pos : Nat) (om : Bool) (mk : Array (Option Nat)) (lm li : Int) (wt : Nat) (b : Bool) (R : Nat → Array (Option Nat) → Int → Int → Prop) : Prop :=
  ∀ fs h sn, ∃ n pc' pos' om' h' mk' lm' li' sn', n ≤ k ∧ M.runFor n (C.m pc pos h om mk lm li fs wt none sn) = C.m pc' pos' h' om' mk' lm' li' fs wt (some b) sn' ∧ R h' mk' lm' li'

theorem Ev.le {C k k' pc pos om mk lm li wt b R} (h : Ev C k pc pos om mk lm li wt b R) (hk : k ≤ k') : Ev C k' pc pos om mk lm li wt b R := by
  intro fs hh sn
  obtain ⟨n, a1, a2, a3, a4, a5, a6, a7, a8, hn, e, r⟩ := h fs hh sn
  exact ⟨n, a1, a2, a3, a4, a5, a6, a7, a8, Nat.le_trans hn hk, e, r⟩
theorem Ev.mono {C k pc pos om mk lm li wt b R R'} (h : Ev C k pc pos om mk lm li wt b R) (hR : ∀ a b c d, R a b c d → R' a b c d) : Ev C k pc pos om mk lm li wt b R' := by
  intro fs hh sn
  obtain ⟨n, a1, a2, a3, a4, a5, a6, a7, a8, hn, e, r⟩ := h fs hh sn
  exact ⟨n, a1, a2, a3, a4, a5, a6, a7, a8, hn, e, hR _ _ _ _ r⟩

theorem runFor_one {m : M} (h : m.outcome = none) : M.runFor 1 m = m.step := by
  simp [M.runFor, h]
theorem runFor_succ {m : M} {n : Nat} (h : m.outcome = none) : M.runFor (n + 1) m = M.runFor n m.step := by
  rw [M.runFor]; simp [h]

/-- one step onto another place -/
theorem Ev.go {C k pc pos om mk lm li wt b R pc' pos' mk' lm' li'}
    (hs : ∀ fs h sn, ∃ sn', (C.m pc pos h om mk lm li fs wt none sn).step = C.m pc' pos' h om mk' lm' li' fs wt none sn')
    (h : Ev C k pc' pos' om mk' lm' li' wt b R) : Ev C (k + 1) pc pos om mk lm li wt b R := by
  intro fs hh sn
  obtain ⟨sn', e⟩ := hs fs hh sn
  obtain ⟨n, a1, a2, a3, a4, a5, a6, a7, a8, hn, e', r⟩ := h fs hh sn'
  exact ⟨n + 1, a1, a2, a3, a4, a5, a6, a7, a8, by omega, by rw [runFor_succ rfl, e, e'], r⟩
/-- one step to an answer -/
theorem Ev.say {C pc pos om mk lm li wt b} {R : Nat → Array (Option Nat) → Int → Int → Prop}
    (hs : ∀ fs h sn, ∃ sn' h', (C.m pc pos h om mk lm li fs wt none sn).step = C.m pc pos h' om mk lm li fs wt (some b) sn' ∧ R h' mk lm li) : Ev C 1 pc pos om mk lm li wt b R := by
  intro fs hh sn
  obtain ⟨sn', h', e, r⟩ := hs fs hh sn
  exact ⟨1, _, _, _, _, _, _, _, _, Nat.le_refl _, by rw [runFor_one rfl, e], r⟩
/-- one step that pushes a frame, then what the frame does with the answer -/
theorem Ev.push {C k₁ k₂ pc pos om mk lm li wt b b₁ R R₁} {f : Frame} {pc₁ pos₁ om₁}
    (hs : ∀ fs h sn, ∃ sn', (C.m pc pos h om mk lm li fs wt none sn).step = C.m pc₁ pos₁ pos₁ om₁ mk lm li (f :: fs) (wt + 1) none sn')
    (h₁ : Ev C k₁ pc₁ pos₁ om₁ mk lm li (wt + 1) b₁ R₁)
    (h₂ : ∀ h' mk' lm' li', R₁ h' mk' lm' li' → ∀ fs pc' pos' om' sn, ∃ n pc'' pos'' om'' h'' mk'' lm'' li'' sn'', n ≤ k₂ ∧
      M.runFor n (C.m pc' pos' h' om' mk' lm' li' (f :: fs) (wt + 1) (some b₁) sn) = C.m pc'' pos'' h'' om'' mk'' lm'' li'' fs wt (some b) sn'' ∧ R h'' mk'' lm'' li'') :
    Ev C (1 + k₁ + k₂) pc pos om mk lm li wt b R := by
  intro fs hh sn
  obtain ⟨sn', e⟩ := hs fs hh sn
  obtain ⟨n, a1, a2, a3, a4, a5, a6, a7, a8, hn, e', r⟩ := h₁ (f :: fs) pos₁ sn'
  obtain ⟨n', c1, c2, c3, c4, c5, c6, c7, c8, hn', e'', r'⟩ := h₂ a4 a5 a6 a7 r fs a1 a2 a3 a8
  refine ⟨1 + n + n', c1, c2, c3, c4, c5, c6, c7, c8, by omega, ?_, r'⟩
  rw [runFor_add, runFor_add, runFor_one rfl, e, e', e'']

section
variable {C : Cx} {k pc pos : Nat} {om : Bool} {mk : Array (Option Nat)} {lm li : Int} {wt : Nat} {b : Bool} {R : Nat → Array (Option Nat) → Int → Int → Prop}

theorem ev_lit (hc : C.code.getD pc 0 = 16) (hz : pc < C.code.size) (hp : pos < C.lim) (ht : C.text.getD pos 0 = C.code.getD (pc + 1) 0)
    (h : Ev C k (pc + 2) (pos + 1) om mk lm li wt b R) : Ev C (k + 1) pc pos om mk lm li wt b R := by
  refine Ev.go (fun fs h sn => ?_) h
  have e1 : ops[C.code.getD pc 0]? = some .LITERAL := by rw [hc]; rfl
  have e2 : itemWidth C.code pc = 2 := by unfold itemWidth; rw [e1]
  apply Exists.intro
  unfold M.step
  simp only [Option.isSome_none, Bool.false_eq_true, if_false, hz, if_true]
  unfold M.exec
  simp only [M.word, Nat.add_zero, e1, accepts, ht, beq_self_eq_true]
  rw [if_neg (by omega), e2]
theorem ev_lit_no (hc : C.code.getD pc 0 = 16) (hz : pc < C.code.size) (ht : C.lim ≤ pos ∨ C.text.getD pos 0 ≠ C.code.getD (pc + 1) 0) (hR : ∀ h, R h mk lm li) : Ev C 1 pc pos om mk lm li wt false R := by
  refine Ev.say fun fs h sn => ?_
  have e1 : ops[C.code.getD pc 0]? = some .LITERAL := by rw [hc]; rfl
  apply Exists.intro; refine ⟨h, ?_, hR h⟩
  unfold M.step
  simp only [Option.isSome_none, Bool.false_eq_true, if_false, hz, if_true]
  unfold M.exec
  simp only [M.word, Nat.add_zero, e1, accepts]
  by_cases hp : C.lim ≤ pos
  · rw [if_pos (by omega)]; rfl
  · have hn : (C.text.getD pos 0 == C.code.getD (pc + 1) 0) = false := by
      rcases ht with ht | ht
      · exact absurd ht hp
      · simpa using ht
    rw [if_neg (by omega), hn]; rfl

/-- an op that looks at one sign -/
theorem ev_chr {op : Op} {d : Nat} (ho : ops[C.code.getD pc 0]? = some op) (hop : op = .LITERAL ∨ op = .IN ∨ op = .LITERAL_UNI_IGNORE) (hz : pc < C.code.size) (hp : pos < C.lim)
    (hd : itemWidth C.code pc = d) (ha : ∀ sn, ∃ sn', accepts C.code pc (C.text.getD pos 0) sn = .ok (true, sn'))
    (h : Ev C k (pc + d) (pos + 1) om mk lm li wt b R) : Ev C (k + 1) pc pos om mk lm li wt b R := by
  refine Ev.go (fun fs h sn => ?_) h
  obtain ⟨sn', ha⟩ := ha (sn.add (C.code.getD pc 0))
  refine ⟨sn', ?_⟩
  unfold M.step
  simp only [Option.isSome_none, Bool.false_eq_true, if_false, hz, if_true]
  unfold M.exec
  simp only [M.word, Nat.add_zero, ho]
  rcases hop with rfl | rfl | rfl <;> (simp only; rw [if_neg (by omega), ha]; simp only [hd])
theorem ev_chr_no {op : Op} (ho : ops[C.code.getD pc 0]? = some op) (hop : op = .LITERAL ∨ op = .IN ∨ op = .LITERAL_UNI_IGNORE) (hz : pc < C.code.size)
    (ha : C.lim ≤ pos ∨ ∀ sn, ∃ sn', accepts C.code pc (C.text.getD pos 0) sn = .ok (false, sn')) (hR : ∀ h, R h mk lm li) : Ev C 1 pc pos om mk lm li wt false R := by
  refine Ev.say fun fs h sn => ?_
  by_cases hp : C.lim ≤ pos
  · apply Exists.intro; refine ⟨h, ?_, hR h⟩
    unfold M.step
    simp only [Option.isSome_none, Bool.false_eq_true, if_false, hz, if_true]
    unfold M.exec
    simp only [M.word, Nat.add_zero, ho]
    rcases hop with rfl | rfl | rfl <;> (simp only; rw [if_pos (by omega)]; rfl)
  · obtain ⟨sn', ha⟩ := (ha.resolve_left hp) (sn.add (C.code.getD pc 0))
    refine ⟨sn', h, ?_, hR h⟩
    unfold M.step
    simp only [Option.isSome_none, Bool.false_eq_true, if_false, hz, if_true]
    unfold M.exec
    simp only [M.word, Nat.add_zero, ho]
    rcases hop with rfl | rfl | rfl <;> (simp only; rw [if_neg (by omega), ha]; rfl)

theorem ev_jump (hc : C.code.getD pc 0 = 15) (hz : pc < C.code.size) (h : Ev C k (pc + 1 + C.code.getD (pc + 1) 0) pos om mk lm li wt b R) : Ev C (k + 1) pc pos om mk lm li wt b R := by
  refine Ev.go (fun fs h sn => ?_) h
  have e1 : ops[C.code.getD pc 0]? = some .JUMP := by rw [hc]; rfl
  apply Exists.intro
  unfold M.step
  simp only [Option.isSome_none, Bool.false_eq_true, if_false, hz, if_true]
  unfold M.exec
  simp only [M.word, Nat.add_zero, e1]
  rfl

theorem ev_mark {i : Nat} (hc : C.code.getD pc 0 = 17) (hi : C.code.getD (pc + 1) 0 = i) (hz : pc < C.code.size) (hl : (i : Int) ≤ lm + 1)
    (h : Ev C k (pc + 2) pos om (mk.setIfInBounds i (some pos)) (max lm i) (if i % 2 == 1 then (i / 2 + 1 : Nat) else li) wt b R) : Ev C (k + 1) pc pos om mk lm li wt b R := by
  refine Ev.go (fun fs h sn => ?_) h
  have e1 : ops[C.code.getD pc 0]? = some .MARK := by rw [hc]; rfl
  apply Exists.intro
  unfold M.step
  simp only [Option.isSome_none, Bool.false_eq_true, if_false, hz, if_true]
  unfold M.exec
  simp only [M.word, Nat.add_zero, e1, hi]
  unfold M.mark
  simp only
  rw [if_pos hl]

theorem ev_success (hc : C.code.getD pc 0 = 1) (hz : pc < C.code.size) (hR : R pos mk lm li) : Ev C 1 pc pos om mk lm li wt true R := by
  refine Ev.say fun fs h sn => ?_
  have e1 : ops[C.code.getD pc 0]? = some .SUCCESS := by rw [hc]; rfl
  apply Exists.intro; refine ⟨pos, ?_, hR⟩
  unfold M.step
  simp only [Option.isSome_none, Bool.false_eq_true, if_false, hz, if_true]
  unfold M.exec
  simp only [M.word, Nat.add_zero, e1, Bool.false_and, Bool.or_false, Bool.and_false, Bool.false_eq_true, if_false]
  rfl

/-- a state on which the alternatives from alt on are tried -/
def EvAlt (C : Cx) (k alt pos : Nat) (om : Bool) (mk : Array (Option Nat)) (lm li : Int) (wt : Nat) (b : Bool) (R : Nat → Array (Option Nat) → Int → Int → Prop) : Prop :=
  ∀ fs h sn pc, ∃ n pc' pos' om' h' mk' lm' li' sn', n ≤ k ∧ M.runFor n ((C.m pc pos h om mk lm li fs wt none sn).alternative alt { lastmark := lm, lastindex := li, whole := false, marks := #[] }) = C.m pc' pos' h' om' mk' lm' li' fs wt (some b) sn' ∧ R h' mk' lm' li'
theorem alt_end {alt : Nat} (hc : C.code.getD alt 0 = 0) (hR : ∀ h, R h mk lm li) : EvAlt C 0 alt pos om mk lm li wt false R := by
  intro fs h sn pc
  refine ⟨0, pc, pos, om, h, mk, lm, li, sn, Nat.le_refl _, ?_, hR h⟩
  unfold M.alternative
  simp only [hc, beq_self_eq_true, if_true]
  rfl
theorem alternative_is {alt : Nat} (hc : C.code.getD alt 0 ≠ 0) (hw : wt + 1 ≤ 16777216) {fs h sn} : (C.m pc pos h om mk lm li fs wt none sn).alternative alt { lastmark := lm, lastindex := li, whole := false, marks := #[] } =
    C.m (alt + 1) pos pos om mk lm li ({ wait := .nextBranch, pc := alt, pos := pos, outermost := om, kept := { lastmark := lm, lastindex := li, whole := false, marks := #[] } } :: fs) (wt + 1) none sn := by
  unfold M.alternative
  have : (C.code.getD alt 0 == 0) = false := by simpa using hc
  simp only [this, Bool.false_eq_true, if_false]
  unfold M.attempt M.frame
  simp only [List.size_toArray, List.length_nil, Nat.add_zero]
  rw [if_neg (by omega)]
theorem alt_hit {alt : Nat} (hc : C.code.getD alt 0 ≠ 0) (hw : wt + 1 ≤ 16777216) (h : Ev C k (alt + 1) pos om mk lm li (wt + 1) true R) : EvAlt C (k + 1) alt pos om mk lm li wt true R := by
  intro fs hh sn pc
  rw [alternative_is hc hw]
  obtain ⟨n, a1, a2, a3, a4, a5, a6, a7, a8, hn, e, r⟩ := h ({ wait := .nextBranch, pc := alt, pos := pos, outermost := om, kept := { lastmark := lm, lastindex := li, whole := false, marks := #[] } } :: fs) pos sn
  refine ⟨n + 1, alt, pos, om, a4, a5, a6, a7, a8, by omega, ?_, r⟩
  rw [runFor_add, e, runFor_one rfl]
  rfl
theorem alt_miss {alt k₂ : Nat} {R₁ : Nat → Array (Option Nat) → Int → Int → Prop} (hc : C.code.getD alt 0 ≠ 0) (hw : wt + 1 ≤ 16777216) (h : Ev C k (alt + 1) pos om mk lm li (wt + 1) false R₁)
    (h₂ : ∀ h' mk' lm' li', R₁ h' mk' lm' li' → EvAlt C k₂ (alt + C.code.getD alt 0) pos om mk' lm li wt b R) : EvAlt C (k + 1 + k₂) alt pos om mk lm li wt b R := by
  intro fs hh sn pc
  rw [alternative_is hc hw]
  obtain ⟨n, a1, a2, a3, a4, a5, a6, a7, a8, hn, e, r⟩ := h ({ wait := .nextBranch, pc := alt, pos := pos, outermost := om, kept := { lastmark := lm, lastindex := li, whole := false, marks := #[] } } :: fs) pos sn
  obtain ⟨n', c1, c2, c3, c4, c5, c6, c7, c8, hn', e', r'⟩ := h₂ _ _ _ _ r fs a4 a8 alt
  refine ⟨n + 1 + n', c1, c2, c3, c4, c5, c6, c7, c8, by omega, ?_, r'⟩
  rw [runFor_add, runFor_add, e, runFor_one rfl]
  exact e'
theorem ev_branch (hc : C.code.getD pc 0 = 7) (hz : pc < C.code.size) (h : EvAlt C k (pc + 1) pos om mk lm li wt b R) : Ev C (k + 1) pc pos om mk lm li wt b R := by
  intro fs hh sn
  have e1 : ops[C.code.getD pc 0]? = some .BRANCH := by rw [hc]; rfl
  obtain ⟨n, a1, a2, a3, a4, a5, a6, a7, a8, hn, e, r⟩ := h fs hh (sn.add (C.code.getD pc 0)) pc
  refine ⟨n + 1, a1, a2, a3, a4, a5, a6, a7, a8, by omega, ?_, r⟩
  rw [runFor_succ rfl, ← e]
  congr 1
  unfold M.step
  simp only [Option.isSome_none, Bool.false_eq_true, if_false, hz, if_true]
  unfold M.exec
  simp only [M.word, Nat.add_zero, e1]
  rfl

theorem ev_not_ok {k₂ : Nat} {R₁ : Nat → Array (Option Nat) → Int → Int → Prop} (hc : C.code.getD pc 0 = 5) (h0 : C.code.getD (pc + 2) 0 = 0) (hz : pc < C.code.size) (hw : wt + 1 ≤ 16777216)
    (h : Ev C k (pc + 3) pos false mk lm li (wt + 1) false R₁) (h₂ : ∀ h' mk' lm' li', R₁ h' mk' lm' li' → Ev C k₂ (pc + 1 + C.code.getD (pc + 1) 0) pos om mk' lm li wt b R) : Ev C (k + k₂ + 2) pc pos om mk lm li wt b R := by
  intro fs hh sn
  have e1 : ops[C.code.getD pc 0]? = some .ASSERT_NOT := by rw [hc]; rfl
  obtain ⟨n, a1, a2, a3, a4, a5, a6, a7, a8, hn, e, r⟩ := h ({ wait := .lookNot, pc := pc, pos := pos, outermost := om, kept := { lastmark := lm, lastindex := li, whole := false, marks := #[] } } :: fs) pos (sn.add (C.code.getD pc 0))
  obtain ⟨n', c1, c2, c3, c4, c5, c6, c7, c8, hn', e', r'⟩ := h₂ _ _ _ _ r fs a4 a8
  refine ⟨n + 1 + n' + 1, c1, c2, c3, c4, c5, c6, c7, c8, by omega, ?_, r'⟩
  rw [runFor_succ rfl, runFor_add, runFor_add]
  have e2 : (C.m pc pos hh om mk lm li fs wt none sn).step = C.m (pc + 3) pos pos false mk lm li ({ wait := .lookNot, pc := pc, pos := pos, outermost := om, kept := { lastmark := lm, lastindex := li, whole := false, marks := #[] } } :: fs) (wt + 1) none (sn.add (C.code.getD pc 0)) := by
    unfold M.step
    simp only [Option.isSome_none, Bool.false_eq_true, if_false, hz, if_true]
    unfold M.exec
    simp only [M.word, Nat.add_zero, e1, h0, Nat.not_lt_zero, if_false, Nat.sub_zero, if_true, Bool.true_and]
    unfold M.attempt M.frame M.keep
    simp only [Option.isSome_none, Bool.false_eq_true, if_false, List.size_toArray, List.length_nil, Nat.add_zero]
    rw [if_neg (by omega)]
  rw [e2, e, runFor_one rfl]
  exact e'
theorem ev_not_bad {R₁ : Nat → Array (Option Nat) → Int → Int → Prop} (hc : C.code.getD pc 0 = 5) (h0 : C.code.getD (pc + 2) 0 = 0) (hz : pc < C.code.size) (hw : wt + 1 ≤ 16777216)
    (h : Ev C k (pc + 3) pos false mk lm li (wt + 1) true R₁) (hR : ∀ h' mk' lm' li', R₁ h' mk' lm' li' → R h' mk' lm' li') : Ev C (k + 2) pc pos om mk lm li wt false R := by
  intro fs hh sn
  have e1 : ops[C.code.getD pc 0]? = some .ASSERT_NOT := by rw [hc]; rfl
  obtain ⟨n, a1, a2, a3, a4, a5, a6, a7, a8, hn, e, r⟩ := h ({ wait := .lookNot, pc := pc, pos := pos, outermost := om, kept := { lastmark := lm, lastindex := li, whole := false, marks := #[] } } :: fs) pos (sn.add (C.code.getD pc 0))
  refine ⟨n + 1 + 1, pc, pos, om, a4, a5, a6, a7, a8, by omega, ?_, hR _ _ _ _ r⟩
  rw [runFor_succ rfl, runFor_add]
  have e2 : (C.m pc pos hh om mk lm li fs wt none sn).step = C.m (pc + 3) pos pos false mk lm li ({ wait := .lookNot, pc := pc, pos := pos, outermost := om, kept := { lastmark := lm, lastindex := li, whole := false, marks := #[] } } :: fs) (wt + 1) none (sn.add (C.code.getD pc 0)) := by
    unfold M.step
    simp only [Option.isSome_none, Bool.false_eq_true, if_false, hz, if_true]
    unfold M.exec
    simp only [M.word, Nat.add_zero, e1, h0, Nat.not_lt_zero, if_false, Nat.sub_zero, if_true, Bool.true_and]
    unfold M.attempt M.frame M.keep
    simp only [Option.isSome_none, Bool.false_eq_true, if_false, List.size_toArray, List.length_nil, Nat.add_zero]
    rw [if_neg (by omega)]
  rw [e2, e, runFor_one rfl]
  rfl

/-- the frame of a greedy run that gives back -/
abbrev gb (pc pos : Nat) (om : Bool) (lm li : Int) (n : Nat) : Frame := { wait := .giveBack, pc := pc, pos := pos + n, outermost := om, count := n, kept := { lastmark := lm, lastindex := li, whole := false, marks := #[] } }
theorem rep_step {r : Nat} {fs h sn} (hc : C.code.getD pc 0 = 24) (h1 : C.code.getD (pc + 2) 0 = 1) (hz : pc < C.code.size) (hw : wt + 1 ≤ 16777216) (hp : pos < C.lim) (hr : 1 ≤ r)
    (hrun : ∀ sn, ∃ sn', run C.code C.text (pc + 4) (min (C.code.getD (pc + 3) 0) (C.lim - pos)) pos 0 sn = .ok (r, sn')) :
    ∃ sn', (C.m pc pos h om mk lm li fs wt none sn).step = C.m (pc + 1 + C.code.getD (pc + 1) 0) (pos + r) (pos + r) om mk lm li (gb pc pos om lm li r :: fs) (wt + 1) none sn' := by
  have e1 : ops[C.code.getD pc 0]? = some .REPEAT_ONE := by rw [hc]; rfl
  obtain ⟨sn', hrun⟩ := hrun ((sn.add (C.code.getD pc 0)).add (C.code.getD (pc + 4) 0))
  refine ⟨sn', ?_⟩
  have er : ((C.lim : Int) - (pos : Int)).toNat = C.lim - pos := by omega
  unfold M.step
  simp only [Option.isSome_none, Bool.false_eq_true, if_false, hz, if_true]
  unfold M.exec
  simp only [M.word, Nat.add_zero, e1, h1, er]
  rw [if_neg (by omega)]
  simp only [Bool.false_eq_true, if_false, hrun]
  rw [if_neg (by omega)]
  unfold M.afterRun M.attempt M.frame M.keep
  simp only [M.word, Option.isSome_none, Bool.false_eq_true, if_false, List.size_toArray, List.length_nil, Nat.add_zero]
  rw [if_neg (by omega)]
theorem ev_rep_no (hc : C.code.getD pc 0 = 24) (h1 : C.code.getD (pc + 2) 0 = 1) (hz : pc < C.code.size)
    (hrun : C.lim ≤ pos ∨ ∀ sn, ∃ sn', run C.code C.text (pc + 4) (min (C.code.getD (pc + 3) 0) (C.lim - pos)) pos 0 sn = .ok (0, sn')) (hR : ∀ h, R h mk lm li) :
    Ev C 1 pc pos om mk lm li wt false R := by
  refine Ev.say fun fs h sn => ?_
  have e1 : ops[C.code.getD pc 0]? = some .REPEAT_ONE := by rw [hc]; rfl
  have er : ((C.lim : Int) - (pos : Int)).toNat = C.lim - pos := by omega
  by_cases hp : C.lim ≤ pos
  · apply Exists.intro; refine ⟨h, ?_, hR h⟩
    unfold M.step
    simp only [Option.isSome_none, Bool.false_eq_true, if_false, hz, if_true]
    unfold M.exec
    simp only [M.word, Nat.add_zero, e1, h1]
    rw [if_pos (by omega)]
    rfl
  · obtain ⟨sn', hrun⟩ := (hrun.resolve_left hp) ((sn.add (C.code.getD pc 0)).add (C.code.getD (pc + 4) 0))
    refine ⟨sn', h, ?_, hR h⟩
    unfold M.step
    simp only [Option.isSome_none, Bool.false_eq_true, if_false, hz, if_true]
    unfold M.exec
    simp only [M.word, Nat.add_zero, e1, h1, er]
    rw [if_neg (by omega)]
    simp only [Bool.false_eq_true, if_false, hrun]
    rw [if_pos (by omega)]
    rfl
theorem ev_rep_hit {r : Nat} (hc : C.code.getD pc 0 = 24) (h1 : C.code.getD (pc + 2) 0 = 1) (hz : pc < C.code.size) (hw : wt + 1 ≤ 16777216) (hp : pos < C.lim) (hr : 1 ≤ r)
    (hrun : ∀ sn, ∃ sn', run C.code C.text (pc + 4) (min (C.code.getD (pc + 3) 0) (C.lim - pos)) pos 0 sn = .ok (r, sn'))
    (h : Ev C k (pc + 1 + C.code.getD (pc + 1) 0) (pos + r) om mk lm li (wt + 1) true R) : Ev C (k + 2) pc pos om mk lm li wt true R := by
  intro fs hh sn
  obtain ⟨sn₁, e1⟩ := rep_step (C := C) (om := om) (mk := mk) (lm := lm) (li := li) (fs := fs) (h := hh) (sn := sn) hc h1 hz hw hp hr hrun
  obtain ⟨n, a1, a2, a3, a4, a5, a6, a7, a8, hn, e, q⟩ := h (gb pc pos om lm li r :: fs) (pos + r) sn₁
  refine ⟨n + 1 + 1, pc, pos + r, om, a4, a5, a6, a7, a8, by omega, ?_, q⟩
  rw [runFor_succ rfl, e1, runFor_add, e, runFor_one rfl]
  rfl
theorem ev_rep_fail {r kc : Nat} {I : Array (Option Nat) → Prop} (hc : C.code.getD pc 0 = 24) (h1 : C.code.getD (pc + 2) 0 = 1) (hz : pc < C.code.size) (hw : wt + 1 ≤ 16777216) (hp : pos < C.lim) (hr : 1 ≤ r)
    (hrun : ∀ sn, ∃ sn', run C.code C.text (pc + 4) (min (C.code.getD (pc + 3) 0) (C.lim - pos)) pos 0 sn = .ok (r, sn')) (hI : I mk)
    (h : ∀ j mk, 1 ≤ j → j ≤ r → I mk → Ev C kc (pc + 1 + C.code.getD (pc + 1) 0) (pos + j) om mk lm li (wt + 1) false fun _ mk' _ _ => I mk') : Ev C (1 + r * (kc + 1)) pc pos om mk lm li wt false fun _ mk' _ _ => I mk' := by
  have key : ∀ j mk fs sn, 1 ≤ j → j ≤ r → I mk → ∃ n pc' pos' om' h' mk' lm' li' sn', n ≤ j * (kc + 1) ∧
      M.runFor n (C.m (pc + 1 + C.code.getD (pc + 1) 0) (pos + j) (pos + j) om mk lm li (gb pc pos om lm li j :: fs) (wt + 1) none sn) = C.m pc' pos' h' om' mk' lm' li' fs wt (some false) sn' ∧ I mk' := by
    intro j
    induction j with
    | zero => intro _ _ _ h _ _; omega
    | succ j ih =>
      intro mk fs sn _ hj hm
      obtain ⟨n, a1, a2, a3, a4, a5, a6, a7, a8, hn, e, q⟩ := h (j + 1) mk (by omega) hj hm (gb pc pos om lm li (j + 1) :: fs) (pos + (j + 1)) sn
      have hmul : (j + 1) * (kc + 1) = j * (kc + 1) + (kc + 1) := Nat.succ_mul _ _
      by_cases hj0 : j = 0
      · subst hj0
        refine ⟨n + 1, pc, pos + 1, om, a4, a5, lm, li, a8, by omega, ?_, q⟩
        rw [runFor_add, e, runFor_one rfl]
        unfold M.step M.resume
        simp only [Option.isSome_none, Bool.false_eq_true, if_false, M.word, h1]
        rfl
      · obtain ⟨n', c1, c2, c3, c4, c5, c6, c7, c8, hn', e', q'⟩ := ih a5 fs a8 (by omega) (by omega) q
        refine ⟨n + 1 + n', c1, c2, c3, c4, c5, c6, c7, c8, by omega, ?_, q'⟩
        rw [runFor_add, runFor_add, e, runFor_one rfl, ← e']
        congr 1
        have ei : ((j + 1 : Nat) : Int) - 1 = (j : Int) := by omega
        unfold M.step M.resume
        simp only [Option.isSome_none, Bool.false_eq_true, if_false, M.word, h1, ei]
        rw [if_neg (by omega)]
        unfold M.putBack M.afterRun M.attempt M.frame
        simp only [M.word, Bool.false_eq_true, if_false, List.size_toArray, List.length_nil, Nat.add_zero, Nat.add_sub_cancel]
        rw [if_neg (by omega)]
        rfl
  intro fs hh sn
  obtain ⟨sn₁, e1⟩ := rep_step (C := C) (om := om) (mk := mk) (lm := lm) (li := li) (fs := fs) (h := hh) (sn := sn) hc h1 hz hw hp hr hrun
  obtain ⟨n, a1, a2, a3, a4, a5, a6, a7, a8, hn, e, q⟩ := key r mk fs sn₁ hr (Nat.le_refl _) hI
  refine ⟨n + 1, a1, a2, a3, a4, a5, a6, a7, a8, by omega, ?_, q⟩
  rw [runFor_succ rfl, e1, e]

/-- what a greedy run finds -/
theorem run_is {code text : Array Nat} {i : Nat} : ∀ (r n p f : Nat) (_ : ∀ j, j < r → ∀ sn, ∃ sn', accepts code i (text.getD (p + j) 0) sn = .ok (true, sn')) (_ : r ≤ n)
    (_ : r < n → ∀ sn, ∃ sn', accepts code i (text.getD (p + r) 0) sn = .ok (false, sn')) (sn : Seen), ∃ sn', run code text i n p f sn = .ok (f + r, sn')
  | 0, 0, p, f, _, _, _, sn => ⟨sn, rfl⟩
  | 0, n + 1, p, f, _, _, h, sn => by
    obtain ⟨sn', e⟩ := h (by omega) sn
    refine ⟨sn', ?_⟩
    unfold run
    rw [Nat.add_zero] at e
    rw [e]; rfl
  | r + 1, 0, _, _, _, h, _, _ => absurd h (by omega)
  | r + 1, n + 1, p, f, h, hr, hn, sn => by
    obtain ⟨sn₁, e⟩ := h 0 (by omega) sn
    rw [Nat.add_zero] at e
    obtain ⟨sn₂, e₂⟩ := run_is r n (p + 1) (f + 1) (fun j hj sn => by have := h (j + 1) (by omega) sn; rw [show p + 1 + j = p + (j + 1) by omega]; exact this) (by omega)
      (fun hl sn => by have := hn (by omega) sn; rw [show p + 1 + r = p + (r + 1) by omega]; exact this) sn₁
    refine ⟨sn₂, ?_⟩
    unfold run
    rw [e]
    show run code text i n (p + 1) (f + 1) sn₁ = _
    rw [e₂, show f + 1 + r = f + (r + 1) by omega]
end
end Mine
end
section
open PySem hiding Frame run
open PySem.Sre
namespace Mine

def Cx.at (C : Cx) (s : Nat) : Cx := { C with start := s }
abbrev nsf (body s : Nat) (first : Bool) : Frame := { wait := .nextStart, pc := body, pos := s, outermost := first }

def Found (m : M) (s e a b : Nat) : Prop :=
  m.outcome = some .matched ∧ m.start = s ∧ m.handed = e ∧ m.lastmark = 1 ∧ m.lastindex = 1 ∧ m.marks.size = 2 ∧ m.marks.getD 0 none = some a ∧ m.marks.getD 1 none = some b
def Gone (m : M) : Prop := m.outcome = some .failed

abbrev I2 (mk : Array (Option Nat)) : Prop := mk.size = 2
abbrev RHit (e a b : Nat) : Nat → Array (Option Nat) → Int → Int → Prop := fun h mk lm li => h = e ∧ lm = 1 ∧ li = 1 ∧ mk.size = 2 ∧ mk.getD 0 none = some a ∧ mk.getD 1 none = some b
abbrev RMiss : Nat → Array (Option Nat) → Int → Int → Prop := fun _ mk _ _ => mk.size = 2
def Miss (C : Cx) (K body s : Nat) : Prop := ∀ om mk, I2 mk → Ev (C.at s) K body s om mk (-1) (-1) 1 false RMiss
def Hit (C : Cx) (K body s e a b : Nat) : Prop := ∀ om mk, I2 mk → Ev (C.at s) K body s om mk (-1) (-1) 1 true (RHit e a b)

/-- here the search tries -/
def Tries (C : Cx) (body s : Nat) : Prop := ∀ st pos h om mk lm li sn first, ∃ sn', ((C.at st).m body pos h om mk lm li [] 0 none sn).attemptFrom s first = (C.at s).m body s s first mk (-1) (-1) [nsf body s first] 1 none sn'
/-- here the search goes on to the next place -/
def Skips (C : Cx) (body s : Nat) : Prop := ∀ st pos h om mk lm li sn first, ∃ sn', ((C.at st).m body pos h om mk lm li [] 0 none sn).attemptFrom s first = ((C.at st).m body pos h om mk lm li [] 0 none sn').attemptFrom (s + 1) first
/-- here the search gives up -/
def Stops (C : Cx) (body s : Nat) : Prop := ∀ st pos h om mk lm li sn first, ∃ sn', ((C.at st).m body pos h om mk lm li [] 0 none sn).attemptFrom s first = (C.at st).m body pos h om mk lm li [] 0 (some false) sn'

theorem search_hit {C : Cx} {K body e a b : Nat} : ∀ (d s st : Nat) (pos h : Nat) (om : Bool) (mk : Array (Option Nat)) (lm li : Int) (sn : Seen) (first : Bool), I2 mk → s + d ≤ C.ls →
    (∀ j, j < d → Skips C body (s + j) ∨ (Tries C body (s + j) ∧ Miss C K body (s + j))) → Tries C body (s + d) → Hit C K body (s + d) e a b →
    ∃ n, n ≤ (d + 1) * (K + 2) ∧ Found (M.runFor n (((C.at st).m body pos h om mk lm li [] 0 none sn).attemptFrom s first)) (s + d) e a b
  | 0, s, st, pos, h, om, mk, lm, li, sn, first, hm, hl, _, ht, hh => by
    rw [Nat.add_zero] at *
    obtain ⟨sn', e1⟩ := ht st pos h om mk lm li sn first
    rw [e1]
    obtain ⟨n, a1, a2, a3, a4, a5, a6, a7, a8, hn, e2, q1, q2, q3, q4, q5, q6⟩ := hh first mk hm [nsf body s first] s sn'
    refine ⟨n + 2, by omega, ?_⟩
    have e3 : M.step ((C.at s).m a1 a2 a4 a3 a5 a6 a7 [nsf body s first] 1 (some true) a8) = (C.at s).m body s a4 first a5 a6 a7 [] 0 (some true) a8 := rfl
    rw [runFor_add, e2, runFor_succ rfl, e3, runFor_one rfl]
    subst q1 q2 q3
    exact ⟨rfl, rfl, rfl, rfl, rfl, q4, q5, q6⟩
  | d + 1, s, st, pos, h, om, mk, lm, li, sn, first, hm, hl, hj, ht, hh => by
    have hmul : (d + 1 + 1) * (K + 2) = (d + 1) * (K + 2) + (K + 2) := Nat.succ_mul _ _
    have hs : s + (d + 1) = (s + 1) + d := by omega
    have hj' : ∀ j, j < d → Skips C body (s + 1 + j) ∨ (Tries C body (s + 1 + j) ∧ Miss C K body (s + 1 + j)) := fun j hjd => by
      have := hj (j + 1) (by omega)
      rwa [show s + (j + 1) = s + 1 + j by omega] at this
    rw [hs] at ht hh ⊢
    rcases hj 0 (by omega) with hk | ⟨ht0, hm0⟩
    · rw [Nat.add_zero] at hk
      obtain ⟨sn', e1⟩ := hk st pos h om mk lm li sn first
      rw [e1]
      obtain ⟨n, hn, q⟩ := search_hit d (s + 1) st pos h om mk lm li sn' first hm (by omega) hj' ht hh
      exact ⟨n, by omega, q⟩
    · rw [Nat.add_zero] at ht0 hm0
      obtain ⟨sn', e1⟩ := ht0 st pos h om mk lm li sn first
      rw [e1]
      obtain ⟨n, a1, a2, a3, a4, a5, a6, a7, a8, hn, e2, q⟩ := hm0 first mk hm [nsf body s first] s sn'
      have e3 : M.step ((C.at s).m a1 a2 a4 a3 a5 a6 a7 [nsf body s first] 1 (some false) a8) = ((C.at s).m body s a4 first a5 a6 a7 [] 0 none a8).attemptFrom (s + 1) false := by
        unfold M.step M.resume
        simp only [Option.isSome_none, Bool.false_eq_true, if_false]
        rw [if_pos (show s < (C.at s).ls from (by show s < C.ls; omega))]
        rfl
      obtain ⟨n', hn', q'⟩ := search_hit d (s + 1) s s a4 first a5 a6 a7 a8 false q (by omega) hj' ht hh
      refine ⟨n + 1 + n', by omega, ?_⟩
      rw [runFor_add, runFor_add, e2, runFor_one rfl, e3]
      exact q'

theorem fail_again {C : Cx} {body s : Nat} {first : Bool} {a1 a2 a4 : Nat} {a3 : Bool} {a5 : Array (Option Nat)} {a6 a7 : Int} {a8 : Seen} (h : s < C.ls) :
    M.step ((C.at s).m a1 a2 a4 a3 a5 a6 a7 [nsf body s first] 1 (some false) a8) = ((C.at s).m body s a4 first a5 a6 a7 [] 0 none a8).attemptFrom (s + 1) false := by
  unfold M.step M.resume
  simp only [Option.isSome_none, Bool.false_eq_true, if_false]
  rw [if_pos (show s < (C.at s).ls from h)]
  rfl
theorem fail_end {C : Cx} {body s : Nat} {first : Bool} {a1 a2 a4 : Nat} {a3 : Bool} {a5 : Array (Option Nat)} {a6 a7 : Int} {a8 : Seen} (h : ¬ s < C.ls) :
    M.step ((C.at s).m a1 a2 a4 a3 a5 a6 a7 [nsf body s first] 1 (some false) a8) = (C.at s).m body s a4 first a5 a6 a7 [] 0 (some false) a8 := by
  unfold M.step M.resume
  simp only [Option.isSome_none, Bool.false_eq_true, if_false]
  rw [if_neg (show ¬ s < (C.at s).ls from h)]
  rfl
theorem stop_gone {C : Cx} {K body s st pos h : Nat} {om : Bool} {mk : Array (Option Nat)} {lm li : Int} {sn : Seen} {first : Bool} (hs : Stops C body s) : ∃ n, n ≤ K + 2 ∧ Gone (M.runFor n (((C.at st).m body pos h om mk lm li [] 0 none sn).attemptFrom s first)) := by
  obtain ⟨sn', e1⟩ := hs st pos h om mk lm li sn first
  rw [e1]
  exact ⟨1, by omega, rfl⟩
theorem search_none {C : Cx} {K body : Nat} (d : Nat) : ∀ (s st : Nat) (pos h : Nat) (om : Bool) (mk : Array (Option Nat)) (lm li : Int) (sn : Seen) (first : Bool), I2 mk → s + d = C.ls →
    (∀ j, j ≤ d → (Skips C body (s + j) ∧ j < d) ∨ (Tries C body (s + j) ∧ Miss C K body (s + j)) ∨ Stops C body (s + j)) →
    ∃ n, n ≤ (d + 1) * (K + 2) ∧ Gone (M.runFor n (((C.at st).m body pos h om mk lm li [] 0 none sn).attemptFrom s first)) := by
  induction d with
  | zero =>
    intro s st pos h om mk lm li sn first hm hl hj
    rcases hj 0 (by omega) with ⟨hk, hd⟩ | ⟨ht0, hm0⟩ | hs0
    · omega
    · rw [Nat.add_zero] at ht0 hm0
      obtain ⟨sn', e1⟩ := ht0 st pos h om mk lm li sn first
      rw [e1]
      obtain ⟨n, a1, a2, a3, a4, a5, a6, a7, a8, hn, e2, q⟩ := hm0 first mk hm [nsf body s first] s sn'
      refine ⟨n + 2, by omega, ?_⟩
      rw [runFor_add, e2, runFor_succ rfl, fail_end (by omega), runFor_one rfl]
      exact rfl
    · rw [Nat.add_zero] at hs0
      obtain ⟨n, hn, q⟩ := stop_gone (K := K) (st := st) (pos := pos) (h := h) (om := om) (mk := mk) (lm := lm) (li := li) (sn := sn) (first := first) hs0
      exact ⟨n, by omega, q⟩
  | succ d ih =>
    intro s st pos h om mk lm li sn first hm hl hj
    have hmul : (d + 1 + 1) * (K + 2) = (d + 1) * (K + 2) + (K + 2) := Nat.succ_mul _ _
    have hj' : ∀ j, j ≤ d → (Skips C body (s + 1 + j) ∧ j < d) ∨ (Tries C body (s + 1 + j) ∧ Miss C K body (s + 1 + j)) ∨ Stops C body (s + 1 + j) := fun j hjd => by
      have := hj (j + 1) (by omega)
      rw [show s + (j + 1) = s + 1 + j by omega] at this
      rcases this with ⟨a, b⟩ | c | e
      · exact .inl ⟨a, by omega⟩
      · exact .inr (.inl c)
      · exact .inr (.inr e)
    rcases hj 0 (by omega) with ⟨hk, hd⟩ | ⟨ht0, hm0⟩ | hs0
    · rw [Nat.add_zero] at hk
      obtain ⟨sn', e1⟩ := hk st pos h om mk lm li sn first
      rw [e1]
      obtain ⟨n, hn, q⟩ := ih (s + 1) st pos h om mk lm li sn' first hm (by omega) hj'
      exact ⟨n, by omega, q⟩
    · rw [Nat.add_zero] at ht0 hm0
      obtain ⟨sn', e1⟩ := ht0 st pos h om mk lm li sn first
      rw [e1]
      obtain ⟨n, a1, a2, a3, a4, a5, a6, a7, a8, hn, e2, q⟩ := hm0 first mk hm [nsf body s first] s sn'
      obtain ⟨n', hn', q'⟩ := ih (s + 1) s s a4 first a5 a6 a7 a8 false q (by omega) hj'
      refine ⟨n + 1 + n', by omega, ?_⟩
      rw [runFor_add, runFor_add, e2, runFor_one rfl, fail_again (by omega)]
      exact q'
    · rw [Nat.add_zero] at hs0
      obtain ⟨n, hn, q⟩ := stop_gone (K := K) (st := st) (pos := pos) (h := h) (om := om) (mk := mk) (lm := lm) (li := li) (sn := sn) (first := first) hs0
      exact ⟨n, by omega, q⟩

/-- the ways of the search by the header -/
theorem tries_plain {C : Cx} {body s : Nat} (h : (ops[C.code.getD 0 0]? = some .INFO ∧ C.code.getD 2 0 ≠ 4)) : Tries C body s := by
  intro st pos hh om mk lm li sn first
  refine ⟨sn, ?_⟩
  unfold M.attemptFrom M.hasFirstSet
  have e : ((C.code.getD 2 0 == 4) : Bool) = false := by simpa using h.2
  simp only [Cx.at, h.1, e, Bool.and_false, Bool.not_false, if_true]
  rfl
theorem tries_set {C : Cx} {body s : Nat} (h : ops[C.code.getD 0 0]? = some .INFO) (h4 : C.code.getD 2 0 = 4) (hs : s < C.lim) (hi : ∀ sn, ∃ sn', inSet C.code (C.text.getD s 0) C.code.size 5 true sn = .ok (true, sn')) : Tries C body s := by
  intro st pos hh om mk lm li sn first
  obtain ⟨sn', e⟩ := hi sn
  refine ⟨sn', ?_⟩
  unfold M.attemptFrom M.hasFirstSet
  obtain ⟨f, hf⟩ : ∃ f, C.lim + 1 - s = f + 1 := ⟨C.lim - s, by omega⟩
  simp only [Cx.at, h, h4, beq_self_eq_true, Bool.and_true, Bool.not_true, Bool.false_eq_true, if_false, hf]
  unfold M.admitted
  rw [if_neg (by show ¬ s ≥ C.lim; omega), e]
  rfl
theorem skips_set {C : Cx} {body s : Nat} (h : ops[C.code.getD 0 0]? = some .INFO) (h4 : C.code.getD 2 0 = 4) (hs : s < C.lim) (hi : ∀ sn, ∃ sn', inSet C.code (C.text.getD s 0) C.code.size 5 true sn = .ok (false, sn'))
    (hall : ∀ p sn, p < C.lim → ∃ b sn', inSet C.code (C.text.getD p 0) C.code.size 5 true sn = .ok (b, sn')) : Skips C body s := by
  intro st pos hh om mk lm li sn first
  obtain ⟨sn', e⟩ := hi sn
  refine ⟨sn', ?_⟩
  unfold M.attemptFrom M.hasFirstSet
  have hf : C.lim + 1 - s = (C.lim + 1 - (s + 1)) + 1 := by omega
  simp only [Cx.at, h, h4, beq_self_eq_true, Bool.and_true, Bool.not_true, Bool.false_eq_true, if_false]
  rw [hf]
  conv => lhs; unfold M.admitted
  rw [if_neg (by show ¬ s ≥ C.lim; omega), e]
  have key : ∀ (m m' : M) (f s : Nat) (sn : Seen), m.code = m'.code → m.text = m'.text → m.lim = m'.lim → M.admitted m f s sn = M.admitted m' f s sn := by
    intro m m' f
    induction f with
    | zero => intros; rfl
    | succ f ih =>
      intro s sn h1 h2 h3
      unfold M.admitted
      rw [h1, h2, h3]
      split
      · rfl
      · split
        · rfl
        · exact ih _ _ h1 h2 h3
        · rfl
  have hk := key ((C.at st).m body pos hh om mk lm li [] 0 none sn) ((C.at st).m body pos hh om mk lm li [] 0 none sn') (C.lim + 1 - (s + 1)) (s + 1) sn' rfl rfl rfl
  have ok : ∀ (f s : Nat) (sn : Seen), ∃ r, M.admitted ((C.at st).m body pos hh om mk lm li [] 0 none sn') f s sn = .ok r := by
    intro f
    induction f with
    | zero => intro s sn; exact ⟨_, rfl⟩
    | succ f ih =>
      intro s sn
      unfold M.admitted
      show ∃ r, (if s ≥ C.lim then Except.ok (none, sn) else match inSet C.code (C.text.getD s 0) C.code.size 5 true sn with | .ok (true, seen) => Except.ok (some s, seen) | .ok (false, seen) => M.admitted ((C.at st).m body pos hh om mk lm li [] 0 none sn') f (s + 1) seen | .error why => Except.error why) = Except.ok r
      by_cases hs : s ≥ C.lim
      · rw [if_pos hs]; exact ⟨_, rfl⟩
      · rw [if_neg hs]
        obtain ⟨b, sn₂, e⟩ := hall s sn (by omega)
        rw [e]
        cases b with
        | true => exact ⟨_, rfl⟩
        | false => exact ih _ _
  obtain ⟨⟨ro, rs⟩, er⟩ := ok (C.lim + 1 - (s + 1)) (s + 1) sn'
  rw [er] at hk
  simp only [Cx.at] at hk er
  simp only
  rw [hk, er]
  cases ro <;> rfl
theorem stops_set {C : Cx} {body : Nat} (h : ops[C.code.getD 0 0]? = some .INFO) (h4 : C.code.getD 2 0 = 4) : Stops C body C.lim := by
  intro st pos hh om mk lm li sn first
  refine ⟨sn, ?_⟩
  unfold M.attemptFrom M.hasFirstSet
  have hf : C.lim + 1 - C.lim = 0 + 1 := by omega
  simp only [Cx.at, h, h4, beq_self_eq_true, Bool.and_true, Bool.not_true, Bool.false_eq_true, if_false, hf]
  unfold M.admitted
  rw [if_pos (by show C.lim ≥ C.lim; omega)]
  rfl
end Mine
end
section
open PySem hiding Frame run
open PySem.Sre
namespace Mine

/-- the signs that may stand in a text -/
def sig : List Nat := [32, 34, 35, 38, 39, 48, 49, 50, 51, 52, 53, 54, 55, 56, 57, 59, 60, 62, 97, 98, 99, 100, 101, 102, 103, 104, 105, 106, 107, 108, 109, 110, 111, 112, 113, 114, 115, 116, 117, 118, 119, 120, 121, 122, 233, 8402, 8834]
def isWd (c : Nat) : Bool := (48 ≤ c && c ≤ 57) || (65 ≤ c && c ≤ 90) || (97 ≤ c && c ≤ 122) || c == 95 || c == 233
def isDg (c : Nat) : Bool := 48 ≤ c && c ≤ 57
def isHx (c : Nat) : Bool := (48 ≤ c && c ≤ 57) || (97 ≤ c && c ≤ 102) || (65 ≤ c && c ≤ 70)
def endOk (p : Nat → Bool) (u : List Nat) : Nat :=
  if 0 < (u.takeWhile p).length ∧ (u.drop (u.takeWhile p).length).head? = some 59 then (u.takeWhile p).length else 0
def refLen (u : List Nat) : Nat :=
  if u.take 2 = [35, 120] then (if endOk isHx (u.drop 2) = 0 then 0 else 2 + endOk isHx (u.drop 2))
  else if u.take 1 = [35] then (if endOk isDg (u.drop 1) = 0 then 0 else 1 + endOk isDg (u.drop 1))
  else endOk isWd u

theorem takeWhile_facts (p : Nat → Bool) : ∀ (u : List Nat), (∀ j, j < (u.takeWhile p).length → p (u.getD j 0) = true) ∧ (u.takeWhile p).length ≤ u.length ∧ ((u.takeWhile p).length < u.length → p (u.getD (u.takeWhile p).length 0) = false)
  | [] => ⟨fun _ h => absurd h (Nat.not_lt_zero _), Nat.le_refl _, fun h => absurd h (Nat.lt_irrefl _)⟩
  | c :: u => by
    have ⟨h1, h2, h3⟩ := takeWhile_facts p u
    by_cases hc : p c = true
    · rw [List.takeWhile_cons, if_pos hc]
      refine ⟨fun j hj => ?_, by simp only [List.length_cons]; omega, fun h => ?_⟩
      · cases j with
        | zero => simpa using hc
        | succ j => simpa using h1 j (by simpa using hj)
      · simpa using h3 (by simpa using h)
    · rw [List.takeWhile_cons, if_neg hc]
      exact ⟨fun _ h => absurd h (Nat.not_lt_zero _), Nat.zero_le _, fun _ => by simpa using hc⟩
theorem getD_drop (T : List Nat) (s j : Nat) : (T.drop s).getD j 0 = T.getD (s + j) 0 := by
  simp [List.getD_eq_getElem?_getD, List.getElem?_drop]
theorem head_drop (T : List Nat) (s c : Nat) : (T.drop s).head? = some c ↔ s < T.length ∧ T.getD s 0 = c := by
  rw [List.head?_drop, List.getD_eq_getElem?_getD]
  by_cases h : s < T.length
  · simp [h]
  · simp [h]
theorem toArray_getD (T : List Nat) (q : Nat) : T.toArray.getD q 0 = T.getD q 0 := by
  simp [Array.getD_eq_getD_getElem?, List.getD_eq_getElem?_getD]

section
variable {C : Cx} {T : List Nat} {I : Array (Option Nat) → Prop} {R : Nat → Array (Option Nat) → Int → Int → Prop}
/-- a greedy run of a class and what stands behind it -/
theorem block_run {pc pos : Nat} {p : Nat → Bool} (hT : C.text = T.toArray) (hl : C.lim = T.length) (hmax : C.code.getD (pc + 3) 0 = 4294967295) (hb : T.length ≤ 16777216) (hlt : pos < T.length)
    (hcl : ∀ q, q < T.length → ∀ sn, ∃ sn', accepts C.code (pc + 4) (T.getD q 0) sn = .ok (p (T.getD q 0), sn')) :
    ∀ sn, ∃ sn', run C.code C.text (pc + 4) (min (C.code.getD (pc + 3) 0) (C.lim - pos)) pos 0 sn = .ok (((T.drop pos).takeWhile p).length, sn') := by
  intro sn
  have ⟨h1, h2, h3⟩ := takeWhile_facts p (T.drop pos)
  rw [List.length_drop] at h2 h3
  have hm : min (C.code.getD (pc + 3) 0) (C.lim - pos) = T.length - pos := by rw [hmax, hl]; omega
  rw [hm]
  have := run_is (code := C.code) (text := C.text) (i := pc + 4) ((T.drop pos).takeWhile p).length (T.length - pos) pos 0 (fun j hj sn => by
    have q := hcl (pos + j) (by omega) sn
    have e := h1 j hj
    rw [getD_drop] at e
    rw [hT, toArray_getD, ← e]
    exact q) h2 (fun hlt' sn => by
    have q := hcl (pos + ((T.drop pos).takeWhile p).length) (by omega) sn
    have e := h3 hlt'
    rw [getD_drop] at e
    rw [hT, toArray_getD, ← e]
    exact q) sn
  rwa [Nat.zero_add] at this
theorem block_hit {k pc pos : Nat} {om : Bool} {mk : Array (Option Nat)} {lm li : Int} {wt : Nat} {p : Nat → Bool} (hT : C.text = T.toArray) (hl : C.lim = T.length) (hb : T.length ≤ 16777216)
    (hc : C.code.getD pc 0 = 24) (h1 : C.code.getD (pc + 2) 0 = 1) (hmax : C.code.getD (pc + 3) 0 = 4294967295) (hz : pc < C.code.size) (hw : wt + 1 ≤ 16777216)
    (hcl : ∀ q, q < T.length → ∀ sn, ∃ sn', accepts C.code (pc + 4) (T.getD q 0) sn = .ok (p (T.getD q 0), sn'))
    (he : endOk p (T.drop pos) ≠ 0)
    (h : T.getD (pos + endOk p (T.drop pos)) 0 = 59 → pos + endOk p (T.drop pos) < T.length → Ev C k (pc + 1 + C.code.getD (pc + 1) 0) (pos + endOk p (T.drop pos)) om mk lm li (wt + 1) true R) :
    Ev C (k + 2) pc pos om mk lm li wt true R := by
  unfold endOk at he h
  split at he
  · rename_i hh
    rw [if_pos hh] at h
    have h2 := hh.2
    rw [List.drop_drop, head_drop] at h2
    exact ev_rep_hit hc h1 hz hw (by rw [hl]; omega) hh.1 (block_run hT hl hmax hb (by omega) hcl) (h h2.2 h2.1)
  · exact absurd rfl he
theorem block_miss {k pc pos : Nat} {om : Bool} {mk : Array (Option Nat)} {lm li : Int} {wt : Nat} {p : Nat → Bool} (hT : C.text = T.toArray) (hl : C.lim = T.length) (hb : T.length ≤ 16777216)
    (hc : C.code.getD pc 0 = 24) (h1 : C.code.getD (pc + 2) 0 = 1) (hmax : C.code.getD (pc + 3) 0 = 4294967295) (hz : pc < C.code.size) (hw : wt + 1 ≤ 16777216)
    (hcl : ∀ q, q < T.length → ∀ sn, ∃ sn', accepts C.code (pc + 4) (T.getD q 0) sn = .ok (p (T.getD q 0), sn')) (h59 : p 59 = false)
    (he : endOk p (T.drop pos) = 0) (hI : I mk)
    (h : ∀ q mk, I mk → (T.length ≤ q ∨ T.getD q 0 ≠ 59) → Ev C k (pc + 1 + C.code.getD (pc + 1) 0) q om mk lm li (wt + 1) false fun _ mk' _ _ => I mk') :
    Ev C (1 + T.length * (k + 1)) pc pos om mk lm li wt false fun _ mk' _ _ => I mk' := by
  by_cases hlt : T.length ≤ pos
  · exact (ev_rep_no hc h1 hz (.inl (by rw [hl]; exact hlt)) fun _ => hI).le (by omega)
  · have ⟨g1, g2, g3⟩ := takeWhile_facts p (T.drop pos)
    rw [List.length_drop] at g2 g3
    by_cases hr : ((T.drop pos).takeWhile p).length = 0
    · refine (ev_rep_no hc h1 hz (.inr ?_) fun _ => hI).le (by omega)
      have := block_run (pos := pos) hT hl hmax hb (by omega) hcl
      rwa [hr] at this
    · have hmul : ((T.drop pos).takeWhile p).length * (k + 1) ≤ T.length * (k + 1) := Nat.mul_le_mul_right _ (by omega)
      refine (ev_rep_fail (kc := k) hc h1 hz hw (by rw [hl]; omega) (by omega) (block_run hT hl hmax hb (by omega) hcl) hI fun j mk hj1 hj2 hm => h _ mk hm ?_).le (by omega)
      by_cases hj : j < ((T.drop pos).takeWhile p).length
      · refine .inr fun e => ?_
        have := g1 j hj
        rw [getD_drop, e, h59] at this
        cases this
      · have ej : j = ((T.drop pos).takeWhile p).length := by omega
        subst ej
        unfold endOk at he
        split at he
        · omega
        · rename_i hh
          by_cases hq : T.length ≤ pos + ((T.drop pos).takeWhile p).length
          · exact .inl hq
          · refine .inr fun e => hh ⟨by omega, ?_⟩
            rw [List.drop_drop, head_drop]
            exact ⟨by omega, e⟩
end
end Mine
end
section
open PySem hiding Frame run
open PySem.Sre
set_option maxRecDepth 100000
namespace Mine

def cdAny : Array Nat := #[14, 8, 1, 3, 4294967295, 1, 1, 38, 0, 16, 38, 17, 0, 7, 15, 16, 35, 24, 9, 1, 4294967295, 13, 4, 8, 10, 0, 1, 15, 36, 21, 16, 35, 40, 120, 24, 13, 1, 4294967295, 39, 8, 22, 48, 57, 22, 97, 102, 0, 1, 15, 15, 13, 24, 9, 1, 4294967295, 13, 4, 8, 14, 0, 1, 15, 2, 0, 17, 1, 16, 59, 1]
def cdBare : Array Nat := #[14, 4, 0, 1, 1, 17, 0, 7, 10, 13, 6, 16, 60, 16, 62, 0, 15, 71, 69, 16, 38, 5, 63, 0, 7, 17, 16, 35, 24, 9, 1, 4294967295, 13, 4, 8, 10, 0, 1, 16, 59, 15, 43, 26, 16, 35, 16, 120, 24, 16, 1, 4294967295, 13, 11, 9, 0, 67043328, 126, 126, 0, 0, 0, 0, 0, 1, 16, 59, 15, 17, 15, 24, 9, 1, 4294967295, 13, 4, 8, 14, 0, 1, 16, 59, 15, 2, 0, 1, 15, 2, 0, 17, 1, 1]
def cdAmp : Array Nat := #[14, 14, 4, 1, 1, 9, 0, 1342177344, 0, 0, 0, 0, 0, 0, 0, 17, 0, 13, 11, 9, 0, 1342177344, 0, 0, 0, 0, 0, 0, 0, 17, 1, 1]
def cdChr : Array Nat := #[14, 95, 4, 1, 2, 10, 3, 16843008, 16843009, 16843009, 16843009, 16843009, 16843009, 16843009, 16843009, 16908545, 16843009, 16843009, 16843009, 16843009, 16843009, 16843009, 16843009, 16843009, 16843009, 16843009, 16843009, 16843009, 16843009, 16843009, 16843009, 16843009, 16843009, 16843009, 16843009, 16843009, 16843009, 16843009, 16843009, 16843009, 16843009, 16843009, 16843009, 16843009, 16843009, 16843009, 16843009, 16843009, 16843009, 16843009, 16843009, 16843009, 16843009, 16843009, 16843009, 16843009, 16843009, 16843009, 16843009, 16843009, 16843009, 16843009, 16843009, 16843009, 16843009, 16843009, 16843009, 16843009, 16843009, 16843009, 16843009, 0, 1342177280, 0, 0, 0, 0, 0, 512, 0, 0, 0, 0, 0, 0, 0, 0, 0, 0, 0, 0, 4, 0, 0, 0, 0, 17, 0, 7, 5, 16, 233, 15, 56, 11, 16, 8834, 5, 5, 0, 16, 8402, 1, 15, 45, 7, 16, 8834, 16, 8402, 15, 38, 11, 16, 60, 5, 5, 0, 16, 8402, 1, 15, 27, 7, 16, 60, 16, 8402, 15, 20, 11, 16, 62, 5, 5, 0, 16, 8402, 1, 15, 9, 7, 16, 62, 16, 8402, 15, 2, 0, 17, 1, 1]
def cdChA : Array Nat := #[14, 95, 4, 1, 2, 10, 3, 16843008, 16843009, 16843009, 16843009, 16843009, 16843009, 16843009, 16843009, 16908545, 16843009, 16843009, 16843009, 16843009, 16843009, 16843009, 16843009, 16843009, 16843009, 16843009, 16843009, 16843009, 16843009, 16843009, 16843009, 16843009, 16843009, 16843009, 16843009, 16843009, 16843009, 16843009, 16843009, 16843009, 16843009, 16843009, 16843009, 16843009, 16843009, 16843009, 16843009, 16843009, 16843009, 16843009, 16843009, 16843009, 16843009, 16843009, 16843009, 16843009, 16843009, 16843009, 16843009, 16843009, 16843009, 16843009, 16843009, 16843009, 16843009, 16843009, 16843009, 16843009, 16843009, 16843009, 16843009, 0, 1342177344, 0, 0, 0, 0, 0, 512, 0, 0, 0, 0, 0, 0, 0, 0, 0, 0, 0, 0, 4, 0, 0, 0, 0, 17, 0, 7, 5, 16, 38, 15, 61, 5, 16, 233, 15, 56, 11, 16, 8834, 5, 5, 0, 16, 8402, 1, 15, 45, 7, 16, 8834, 16, 8402, 15, 38, 11, 16, 60, 5, 5, 0, 16, 8402, 1, 15, 27, 7, 16, 60, 16, 8402, 15, 20, 11, 16, 62, 5, 5, 0, 16, 8402, 1, 15, 9, 7, 16, 62, 16, 8402, 15, 2, 0, 17, 1, 1]

theorem sig_dec : ∀ c ∈ sig, Unicode.isDecimal c = isDg c := by decide +kernel
theorem sig_word : ∀ c ∈ sig, isWordUni c = isWd c := by decide +kernel
theorem sig_low : ∀ c ∈ sig, lowerUni c = c := by decide +kernel

theorem cl_any_dig {c : Nat} (hc : c ∈ sig) (sn : Seen) : ∃ sn', accepts cdAny 21 c sn = .ok (isDg c, sn') := by
  have h : accepts cdAny 21 c sn = (do if ← category 10 c then pure (true, (sn.add 8).add 65) else inSet cdAny c 68 25 true ((sn.add 8).add 65)) := rfl
  have h2 : category 10 c = .ok (isDg c) := by
    rw [← sig_dec c hc]
    show (Except.ok (Unicode.isDecimal c)).map (fun b => b != false) = _
    cases Unicode.isDecimal c <;> rfl
  rw [h, h2]
  cases isDg c
  · exact ⟨_, rfl⟩
  · exact ⟨_, rfl⟩

theorem cat_dec {c : Nat} (hc : c ∈ sig) : category 10 c = .ok (isDg c) := by
  rw [← sig_dec c hc]
  show (Except.ok (Unicode.isDecimal c)).map (fun b => b != false) = _
  cases Unicode.isDecimal c <;> rfl
theorem cat_word {c : Nat} (hc : c ∈ sig) : category 14 c = .ok (isWd c) := by
  rw [← sig_word c hc]
  show (Except.ok (isWordUni c)).map (fun b => b != false) = _
  cases isWordUni c <;> rfl
theorem cl_any_word {c : Nat} (hc : c ∈ sig) (sn : Seen) : ∃ sn', accepts cdAny 55 c sn = .ok (isWd c, sn') := by
  have h : accepts cdAny 55 c sn = (do if ← category 14 c then pure (true, (sn.add 8).add 69) else inSet cdAny c 68 59 true ((sn.add 8).add 69)) := rfl
  rw [h, cat_word hc]
  cases isWd c
  · exact ⟨_, rfl⟩
  · exact ⟨_, rfl⟩
theorem sig_hx : ∀ c ∈ sig, isHx c = ((48 ≤ c && c ≤ 57) || (97 ≤ c && c ≤ 102)) := by decide +kernel
theorem cl_any_hex {c : Nat} (hc : c ∈ sig) (sn : Seen) : ∃ sn', accepts cdAny 38 c sn = .ok (isHx c, sn') := by
  have h : accepts cdAny 38 c sn = (if 48 ≤ lowerUni c && lowerUni c ≤ 57 then .ok (true, sn.add 22) else if 97 ≤ lowerUni c && lowerUni c ≤ 102 then .ok (true, (sn.add 22).add 22) else .ok (false, ((sn.add 22).add 22).add 0)) := rfl
  rw [h, sig_low c hc, sig_hx c hc]
  by_cases h1 : (48 ≤ c && c ≤ 57) = true
  · rw [if_pos h1, h1]; exact ⟨_, rfl⟩
  · rw [if_neg h1]
    have h1' : (48 ≤ c && c ≤ 57 : Bool) = false := by simpa using h1
    rw [h1']
    by_cases h2 : (97 ≤ c && c ≤ 102) = true
    · rw [if_pos h2, h2]; exact ⟨_, rfl⟩
    · rw [if_neg h2]
      have h2' : (97 ≤ c && c ≤ 102 : Bool) = false := by simpa using h2
      rw [h2']; exact ⟨_, rfl⟩
theorem cl_any_x {c : Nat} (hc : c ∈ sig) (sn : Seen) : ∃ sn', accepts cdAny 32 c sn = .ok (c == 120, sn') := by
  have h : accepts cdAny 32 c sn = .ok (lowerUni c == 120, sn) := rfl
  rw [h, sig_low c hc]; exact ⟨_, rfl⟩

theorem cl_bare_dig {c : Nat} (hc : c ∈ sig) (sn : Seen) : ∃ sn', accepts cdBare 32 c sn = .ok (isDg c, sn') := by
  have h : accepts cdBare 32 c sn = (do if ← category 10 c then pure (true, (sn.add 8).add 65) else inSet cdBare c 90 36 true ((sn.add 8).add 65)) := rfl
  rw [h, cat_dec hc]
  cases isDg c
  · exact ⟨_, rfl⟩
  · exact ⟨_, rfl⟩
theorem cl_bare_word {c : Nat} (hc : c ∈ sig) (sn : Seen) : ∃ sn', accepts cdBare 73 c sn = .ok (isWd c, sn') := by
  have h : accepts cdBare 73 c sn = (do if ← category 14 c then pure (true, (sn.add 8).add 69) else inSet cdBare c 90 77 true ((sn.add 8).add 69)) := rfl
  rw [h, cat_word hc]
  cases isWd c
  · exact ⟨_, rfl⟩
  · exact ⟨_, rfl⟩
theorem sig_cs : ∀ c ∈ sig, (decide (c < 256) && (cdBare.getD (53 + (1 + c / 32)) 0).testBit (c % 32)) = isHx c := by decide +kernel
theorem cl_bare_hex {c : Nat} (hc : c ∈ sig) (sn : Seen) : ∃ sn', accepts cdBare 51 c sn = .ok (isHx c, sn') := by
  have h : accepts cdBare 51 c sn = (if (decide (c < 256) && (cdBare.getD (53 + (1 + c / 32)) 0).testBit (c % 32)) then .ok (true, sn.add 9) else .ok (false, (sn.add 9).add 0)) := rfl
  rw [h, sig_cs c hc]
  cases isHx c
  · exact ⟨_, rfl⟩
  · exact ⟨_, rfl⟩
theorem cl_bare_br {c : Nat} (sn : Seen) : ∃ sn', accepts cdBare 9 c sn = .ok (c == 60 || c == 62, sn') := by
  have h : accepts cdBare 9 c sn = (if c == 60 then .ok (true, sn.add 16) else if c == 62 then .ok (true, (sn.add 16).add 16) else .ok (false, ((sn.add 16).add 16).add 0)) := rfl
  rw [h]
  by_cases h1 : (c == 60) = true
  · rw [if_pos h1, h1]; exact ⟨_, rfl⟩
  · rw [if_neg h1]
    have h1' : (c == 60) = false := by simpa using h1
    rw [h1']
    by_cases h2 : (c == 62) = true
    · rw [if_pos h2, h2]; exact ⟨_, rfl⟩
    · rw [if_neg h2]
      have h2' : (c == 62) = false := by simpa using h2
      rw [h2']; exact ⟨_, rfl⟩
def inAmp (c : Nat) : Bool := c == 38 || c == 60 || c == 62
def inChr (c : Nat) : Bool := c == 60 || c == 62 || c == 233 || c == 8834
def inChA (c : Nat) : Bool := c == 38 || c == 60 || c == 62 || c == 233 || c == 8834
theorem sig_amp : ∀ c ∈ sig, (decide (c < 256) && (cdAmp.getD (19 + (1 + c / 32)) 0).testBit (c % 32)) = inAmp c := by decide +kernel
theorem sig_amp5 : ∀ c ∈ sig, (decide (c < 256) && (cdAmp.getD (5 + (1 + c / 32)) 0).testBit (c % 32)) = inAmp c := by decide +kernel
theorem cl_amp {c : Nat} (hc : c ∈ sig) (sn : Seen) : ∃ sn', accepts cdAmp 17 c sn = .ok (inAmp c, sn') := by
  have h : accepts cdAmp 17 c sn = (if (decide (c < 256) && (cdAmp.getD (19 + (1 + c / 32)) 0).testBit (c % 32)) then .ok (true, sn.add 9) else .ok (false, (sn.add 9).add 0)) := rfl
  rw [h, sig_amp c hc]
  cases inAmp c
  · exact ⟨_, rfl⟩
  · exact ⟨_, rfl⟩
theorem st_amp {c : Nat} (hc : c ∈ sig) (sn : Seen) : ∃ sn', inSet cdAmp c cdAmp.size 5 true sn = .ok (inAmp c, sn') := by
  have h : inSet cdAmp c cdAmp.size 5 true sn = (if (decide (c < 256) && (cdAmp.getD (5 + (1 + c / 32)) 0).testBit (c % 32)) then .ok (true, sn.add 9) else .ok (false, (sn.add 9).add 0)) := rfl
  rw [h, sig_amp5 c hc]
  cases inAmp c
  · exact ⟨_, rfl⟩
  · exact ⟨_, rfl⟩
theorem sig_chr : ∀ c ∈ sig, (decide (c < 0x10000) && (cdChr.getD (5 + (66 + (((cdChr.getD (5 + (2 + c / 256 / 4)) 0 >>> (8 * (c / 256 % 4))) % 256) * 256 + c % 256) / 32)) 0).testBit (c % 32)) = inChr c := by decide +kernel
theorem sig_chA : ∀ c ∈ sig, (decide (c < 0x10000) && (cdChA.getD (5 + (66 + (((cdChA.getD (5 + (2 + c / 256 / 4)) 0 >>> (8 * (c / 256 % 4))) % 256) * 256 + c % 256) / 32)) 0).testBit (c % 32)) = inChA c := by decide +kernel
theorem st_chr {c : Nat} (hc : c ∈ sig) (sn : Seen) : ∃ sn', inSet cdChr c cdChr.size 5 true sn = .ok (inChr c, sn') := by
  have h : inSet cdChr c cdChr.size 5 true sn = (if (decide (c < 0x10000) && (cdChr.getD (5 + (66 + (((cdChr.getD (5 + (2 + c / 256 / 4)) 0 >>> (8 * (c / 256 % 4))) % 256) * 256 + c % 256) / 32)) 0).testBit (c % 32)) then .ok (true, sn.add 10) else .ok (false, (sn.add 10).add 0)) := rfl
  rw [h, sig_chr c hc]
  cases inChr c
  · exact ⟨_, rfl⟩
  · exact ⟨_, rfl⟩
theorem st_chA {c : Nat} (hc : c ∈ sig) (sn : Seen) : ∃ sn', inSet cdChA c cdChA.size 5 true sn = .ok (inChA c, sn') := by
  have h : inSet cdChA c cdChA.size 5 true sn = (if (decide (c < 0x10000) && (cdChA.getD (5 + (66 + (((cdChA.getD (5 + (2 + c / 256 / 4)) 0 >>> (8 * (c / 256 % 4))) % 256) * 256 + c % 256) / 32)) 0).testBit (c % 32)) then .ok (true, sn.add 10) else .ok (false, (sn.add 10).add 0)) := rfl
  rw [h, sig_chA c hc]
  cases inChA c
  · exact ⟨_, rfl⟩
  · exact ⟨_, rfl⟩
end Mine
end
section
open PySem hiding Frame run
open PySem.Sre
set_option maxRecDepth 100000
namespace Mine
theorem ne_of {a : Nat} (h : Nat.beq a 0 = false) : a ≠ 0 := fun e => by rw [e] at h; cases h
theorem lt_of {a b : Nat} (h : Nat.blt a b = true) : a < b := Nat.le_of_ble_eq_true h

theorem ev_mark0 {C : Cx} {k pc pos : Nat} {om : Bool} {mk : Array (Option Nat)} {wt : Nat} {b : Bool} {R : Nat → Array (Option Nat) → Int → Int → Prop}
    (hc : C.code.getD pc 0 = 17) (hi : C.code.getD (pc + 1) 0 = 0) (hz : pc < C.code.size) (h : Ev C k (pc + 2) pos om (mk.setIfInBounds 0 (some pos)) 0 (-1) wt b R) : Ev C (k + 1) pc pos om mk (-1) (-1) wt b R :=
  ev_mark hc hi hz (by decide) h
theorem ev_mark1 {C : Cx} {k pc pos : Nat} {om : Bool} {mk : Array (Option Nat)} {wt : Nat} {b : Bool} {R : Nat → Array (Option Nat) → Int → Int → Prop}
    (hc : C.code.getD pc 0 = 17) (hi : C.code.getD (pc + 1) 0 = 1) (hz : pc < C.code.size) (h : Ev C k (pc + 2) pos om (mk.setIfInBounds 1 (some pos)) 1 1 wt b R) : Ev C (k + 1) pc pos om mk 0 (-1) wt b R :=
  ev_mark hc hi hz (by decide) h
/-- the marks once the group is opened at a -/
def IA (a : Nat) (mk : Array (Option Nat)) : Prop := mk.size = 2 ∧ mk.getD 0 none = some a
theorem ia_open {a : Nat} {mk : Array (Option Nat)} (h : I2 mk) : IA a (mk.setIfInBounds 0 (some a)) := by
  obtain ⟨⟨l⟩⟩ : Nonempty { l : List (Option Nat) // mk = l.toArray } := ⟨⟨mk.toList, by simp⟩⟩
  rename_i hl; subst hl
  match l, h with
  | [x, y], _ => exact ⟨rfl, rfl⟩
theorem ia_shut {a b : Nat} {mk : Array (Option Nat)} (h : IA a mk) : IA a (mk.setIfInBounds 1 (some b)) ∧ (mk.setIfInBounds 1 (some b)).getD 1 none = some b := by
  obtain ⟨⟨l⟩⟩ : Nonempty { l : List (Option Nat) // mk = l.toArray } := ⟨⟨mk.toList, by simp⟩⟩
  rename_i hl; subst hl
  match l, h with
  | [x, y], h => exact ⟨⟨rfl, h.2⟩, rfl⟩

section
variable {T : List Nat} {st ls : Nat} {om : Bool} {wt : Nat} {mk : Array (Option Nat)} {a : Nat}
abbrev cxA (T : List Nat) (st ls : Nat) : Cx := ⟨cdAny, T.toArray, T.length, st, ls⟩
theorem any_tail_no {q : Nat} (hI : IA a mk) (hq : T.length ≤ q ∨ T.getD q 0 ≠ 59) : Ev (cxA T st ls) 2 64 q om mk 0 (-1) wt false fun _ mk' _ _ => IA a mk' :=
  ev_mark1 rfl rfl (lt_of rfl) (ev_lit_no rfl (lt_of rfl) (hq.imp id fun h => by rw [toArray_getD]; exact h) fun _ => (ia_shut hI).1)
theorem any_tail_yes {q : Nat} (hI : IA a mk) (hl : q < T.length) (hq : T.getD q 0 = 59) : Ev (cxA T st ls) 3 64 q om mk 0 (-1) wt true (RHit (q + 1) a q) :=
  ev_mark1 rfl rfl (lt_of rfl) (ev_lit rfl (lt_of rfl) hl (by rw [toArray_getD]; exact hq) (ev_success rfl (lt_of rfl) ⟨rfl, rfl, rfl, (ia_shut hI).1.1, (ia_shut hI).1.2, (ia_shut hI).2⟩))
theorem mem_getD {T : List Nat} {q : Nat} (hS : ∀ c ∈ T, c ∈ sig) (h : q < T.length) : T.getD q 0 ∈ sig := by
  rw [List.getD_eq_getElem?_getD, List.getElem?_eq_getElem h]
  exact hS _ (List.getElem_mem h)

/-- the three alternatives of a reference: a missed one -/
theorem any_dig_no {pos : Nat} (hS : ∀ c ∈ T, c ∈ sig) (hb : T.length ≤ 16777216) (hw : wt + 1 ≤ 16777216) (hI : IA a mk) (h : T.length ≤ pos ∨ T.getD pos 0 ≠ 35 ∨ endOk isDg (T.drop (pos + 1)) = 0) :
    Ev (cxA T st ls) (5 * T.length + 5) 15 pos om mk 0 (-1) wt false fun _ mk' _ _ => IA a mk' := by
  by_cases hh : T.length ≤ pos ∨ T.getD pos 0 ≠ 35
  · exact (ev_lit_no rfl (lt_of rfl) (hh.imp id fun h => by rw [toArray_getD]; exact h) fun _ => hI).le (by omega)
  · refine (ev_lit rfl (lt_of rfl) (show pos < T.length by omega) (by rw [toArray_getD]; exact Classical.not_not.mp (fun e => hh (.inr e))) (block_miss (k := 3) (T := T) (p := isDg) (I := IA a) rfl rfl hb rfl rfl rfl (lt_of rfl) hw
      (fun q hq sn => cl_any_dig (mem_getD hS hq) sn) rfl ?_ hI fun q mk hm hq => ?_)).le (by omega)
    · rcases h with h | h | h
      · exact absurd (.inl h) hh
      · exact absurd (.inr h) hh
      · exact h
    · exact ev_jump rfl (lt_of rfl) (any_tail_no hm hq)
theorem any_hex_no {pos : Nat} (hS : ∀ c ∈ T, c ∈ sig) (hb : T.length ≤ 16777216) (hw : wt + 1 ≤ 16777216) (hI : IA a mk) (h : T.length ≤ pos ∨ T.getD pos 0 ≠ 35 ∨ T.length ≤ pos + 1 ∨ T.getD (pos + 1) 0 ≠ 120 ∨ endOk isHx (T.drop (pos + 2)) = 0) :
    Ev (cxA T st ls) (5 * T.length + 5) 30 pos om mk 0 (-1) wt false fun _ mk' _ _ => IA a mk' := by
  by_cases hh : T.length ≤ pos ∨ T.getD pos 0 ≠ 35
  · exact (ev_lit_no rfl (lt_of rfl) (hh.imp id fun h => by rw [toArray_getD]; exact h) fun _ => hI).le (by omega)
  · have hl : pos < T.length := by omega
    by_cases h2 : T.length ≤ pos + 1 ∨ T.getD (pos + 1) 0 ≠ 120
    · refine (ev_lit rfl (lt_of rfl) hl (by rw [toArray_getD]; exact Classical.not_not.mp (fun e => hh (.inr e))) (ev_chr_no (op := .LITERAL_UNI_IGNORE) rfl (by simp) (lt_of rfl) ?_ fun _ => hI)).le (by omega)
      by_cases h3 : T.length ≤ pos + 1
      · exact .inl h3
      · refine .inr fun sn => ?_
        have := cl_any_x (mem_getD hS (show pos + 1 < T.length by omega)) sn
        have e : (T.getD (pos + 1) 0 == 120) = false := by simpa using h2.resolve_left h3
        rw [e] at this
        rw [toArray_getD]; exact this
    · refine (ev_lit rfl (lt_of rfl) hl (by rw [toArray_getD]; exact Classical.not_not.mp (fun e => hh (.inr e))) (ev_chr (d := 2) (op := .LITERAL_UNI_IGNORE) rfl (by simp) (lt_of rfl) (show pos + 1 < T.length by omega) rfl ?_
        (block_miss (k := 3) (T := T) (p := isHx) (I := IA a) rfl rfl hb rfl rfl rfl (lt_of rfl) hw (fun q hq sn => cl_any_hex (mem_getD hS hq) sn) rfl ?_ hI fun q mk hm hq => ?_))).le (by omega)
      · intro sn
        have := cl_any_x (mem_getD hS (show pos + 1 < T.length by omega)) sn
        have e : (T.getD (pos + 1) 0 == 120) = true := by simpa using Classical.not_not.mp (fun e => h2 (.inr e))
        rw [e] at this
        rw [toArray_getD]; exact this
      · rcases h with h | h | h | h | h
        · exact absurd (.inl h) hh
        · exact absurd (.inr h) hh
        · exact absurd (.inl h) h2
        · exact absurd (.inr h) h2
        · exact h
      · exact ev_jump rfl (lt_of rfl) (any_tail_no hm hq)
theorem any_word_no {pos : Nat} (hS : ∀ c ∈ T, c ∈ sig) (hb : T.length ≤ 16777216) (hw : wt + 1 ≤ 16777216) (hI : IA a mk) (h : endOk isWd (T.drop pos) = 0) :
    Ev (cxA T st ls) (5 * T.length + 5) 51 pos om mk 0 (-1) wt false fun _ mk' _ _ => IA a mk' :=
  (block_miss (k := 3) (T := T) (p := isWd) (I := IA a) rfl rfl hb rfl rfl rfl (lt_of rfl) hw (fun q hq sn => cl_any_word (mem_getD hS hq) sn) rfl h hI fun q mk hm hq => ev_jump rfl (lt_of rfl) (any_tail_no hm hq)).le (by omega)

theorem endOk_nil (p : Nat → Bool) : endOk p [] = 0 := rfl
theorem endOk_no {p : Nat → Bool} {c : Nat} {r : List Nat} (h : p c = false) : endOk p (c :: r) = 0 := by
  unfold endOk
  simp [h]
theorem ref_cases (u : List Nat) :
    (refLen u = 0 ∧ (u = [] ∨ u.getD 0 0 ≠ 35 ∨ endOk isDg (u.drop 1) = 0) ∧ (u = [] ∨ u.getD 0 0 ≠ 35 ∨ u.length ≤ 1 ∨ u.getD 1 0 ≠ 120 ∨ endOk isHx (u.drop 2) = 0) ∧ endOk isWd u = 0) ∨
    (u.getD 0 0 = 35 ∧ 1 ≤ u.length ∧ endOk isDg (u.drop 1) ≠ 0 ∧ refLen u = 1 + endOk isDg (u.drop 1)) ∨
    ((u = [] ∨ u.getD 0 0 ≠ 35 ∨ endOk isDg (u.drop 1) = 0) ∧ u.getD 0 0 = 35 ∧ 2 ≤ u.length ∧ u.getD 1 0 = 120 ∧ endOk isHx (u.drop 2) ≠ 0 ∧ refLen u = 2 + endOk isHx (u.drop 2)) ∨
    (u.getD 0 0 ≠ 35 ∧ endOk isWd u ≠ 0 ∧ refLen u = endOk isWd u) := by
  match u with
  | [] => exact .inl ⟨rfl, .inl rfl, .inl rfl, rfl⟩
  | [c] =>
    by_cases hc : c = 35
    · subst hc; exact .inl ⟨rfl, .inr (.inr rfl), .inr (.inr (.inl (Nat.le_refl _))), rfl⟩
    · have e : refLen [c] = endOk isWd [c] := by simp [refLen, hc]
      by_cases h0 : endOk isWd [c] = 0
      · exact .inl ⟨e.trans h0, .inr (.inl hc), .inr (.inl hc), h0⟩
      · exact .inr (.inr (.inr ⟨hc, h0, e⟩))
  | c :: d :: r =>
    by_cases hc : c = 35
    · subst hc
      have hw : endOk isWd (35 :: d :: r) = 0 := endOk_no rfl
      by_cases hd : d = 120
      · subst hd
        have hg : endOk isDg (120 :: r) = 0 := endOk_no rfl
        have e : refLen (35 :: 120 :: r) = if endOk isHx r = 0 then 0 else 2 + endOk isHx r := by simp [refLen]
        by_cases h0 : endOk isHx r = 0
        · rw [if_pos h0] at e
          exact .inl ⟨e, .inr (.inr hg), .inr (.inr (.inr (.inr h0))), hw⟩
        · rw [if_neg h0] at e
          exact .inr (.inr (.inl ⟨.inr (.inr hg), rfl, by simp, rfl, h0, e⟩))
      · have e : refLen (35 :: d :: r) = if endOk isDg (d :: r) = 0 then 0 else 1 + endOk isDg (d :: r) := by simp [refLen, hd]
        by_cases h0 : endOk isDg (d :: r) = 0
        · rw [if_pos h0] at e
          exact .inl ⟨e, .inr (.inr h0), .inr (.inr (.inr (.inl hd))), hw⟩
        · rw [if_neg h0] at e
          exact .inr (.inl ⟨rfl, by simp, h0, e⟩)
    · have e : refLen (c :: d :: r) = endOk isWd (c :: d :: r) := by simp [refLen, hc]
      by_cases h0 : endOk isWd (c :: d :: r) = 0
      · exact .inl ⟨e.trans h0, .inr (.inl hc), .inr (.inl hc), h0⟩
      · exact .inr (.inr (.inr ⟨hc, h0, e⟩))
theorem drop_getD0 (T : List Nat) (p : Nat) : (T.drop p).getD 0 0 = T.getD p 0 := getD_drop T p 0
theorem drop_nil {T : List Nat} {p : Nat} : T.drop p = [] ↔ T.length ≤ p := List.drop_eq_nil_iff

theorem any_miss {s : Nat} (hS : ∀ c ∈ T, c ∈ sig) (hb : T.length ≤ 16777215) (h : T.length ≤ s ∨ T.getD s 0 ≠ 38 ∨ refLen (T.drop (s + 1)) = 0) : Miss (cxA T st ls) (20 * T.length + 40) 9 s := by
  intro om mk hm
  by_cases hh : T.length ≤ s ∨ T.getD s 0 ≠ 38
  · exact (ev_lit_no rfl (lt_of rfl) (hh.imp id fun h => by rw [toArray_getD]; exact h) fun _ => hm).le (by omega)
  · have hl : s < T.length := by omega
    have h0 : refLen (T.drop (s + 1)) = 0 := by
      rcases h with h | h | h
      · exact absurd (.inl h) hh
      · exact absurd (.inr h) hh
      · exact h
    have hI : IA (s + 1) (mk.setIfInBounds 0 (some (s + 1))) := ia_open hm
    have key := ref_cases (T.drop (s + 1))
    rw [drop_getD0, getD_drop, drop_nil, List.drop_drop, List.drop_drop, List.length_drop] at key
    rcases key with ⟨_, k1, k2, k3⟩ | ⟨_, _, k, e⟩ | ⟨_, _, _, _, k, e⟩ | ⟨_, k, e⟩
    · refine (ev_lit rfl (lt_of rfl) hl (by rw [toArray_getD]; exact Classical.not_not.mp (fun e => hh (.inr e)))
        (ev_mark0 rfl rfl (lt_of rfl) (ev_branch rfl (lt_of rfl)
        (alt_miss (R₁ := fun _ mk' _ _ => IA (s + 1) mk') (k := 5 * T.length + 5) (ne_of rfl) (by decide) (any_dig_no hS (by omega) (by decide) hI k1) fun _ mk₁ _ _ h₁ =>
        (alt_miss (R₁ := fun _ mk' _ _ => IA (s + 1) mk') (k := 5 * T.length + 5) (alt := 29) (ne_of rfl) (by decide) (any_hex_no hS (by omega) (by decide) h₁ ?_) fun _ mk₂ _ _ h₂ =>
        (alt_miss (R₁ := fun _ mk' _ _ => IA (s + 1) mk') (k := 5 * T.length + 5) (alt := 50) (ne_of rfl) (by decide) (any_word_no hS (by omega) (by decide) h₂ k3) fun _ mk₃ _ _ h₃ =>
        alt_end (alt := 63) rfl fun _ => h₃.1)))))).le (by omega)
      rcases k2 with k2 | k2 | k2 | k2 | k2
      · exact .inl k2
      · exact .inr (.inl k2)
      · exact .inr (.inr (.inl (by omega)))
      · exact .inr (.inr (.inr (.inl k2)))
      · exact .inr (.inr (.inr (.inr k2)))
    · omega
    · omega
    · omega
theorem any_hit {s : Nat} (hS : ∀ c ∈ T, c ∈ sig) (hb : T.length ≤ 16777215) (hl : s < T.length) (h38 : T.getD s 0 = 38) (h0 : refLen (T.drop (s + 1)) ≠ 0) :
    Hit (cxA T st ls) (20 * T.length + 40) 9 s (s + 1 + refLen (T.drop (s + 1)) + 1) (s + 1) (s + 1 + refLen (T.drop (s + 1))) := by
  intro om mk hm
  have hI : IA (s + 1) (mk.setIfInBounds 0 (some (s + 1))) := ia_open hm
  have key := ref_cases (T.drop (s + 1))
  rw [drop_getD0, getD_drop, drop_nil, List.drop_drop, List.drop_drop, List.length_drop] at key
  rcases key with ⟨e, _⟩ | ⟨c0, l0, k, e⟩ | ⟨k1, c0, l0, c1, k, e⟩ | ⟨c0, k, e⟩
  · exact absurd e h0
  · refine (ev_lit rfl (lt_of rfl) hl (by rw [toArray_getD]; exact h38)
      (ev_mark0 rfl rfl (lt_of rfl) (ev_branch rfl (lt_of rfl)
      (alt_hit (ne_of rfl) (by decide) (ev_lit rfl (lt_of rfl) (show s + 1 < T.length by omega) (by rw [toArray_getD]; exact c0)
      (block_hit (T := T) (p := isDg) rfl rfl (by omega) rfl rfl rfl (lt_of rfl) (by decide) (fun q hq sn => cl_any_dig (mem_getD hS hq) sn) k fun q1 q2 => ev_jump rfl (lt_of rfl) ((any_tail_yes hI q2 q1).mono ?_))))))).le (by omega)
    rw [e]
    rintro h' mk' lm' li' ⟨r1, r2⟩
    exact ⟨by omega, r2.1, r2.2.1, r2.2.2.1, r2.2.2.2.1, r2.2.2.2.2.trans (congrArg some (by omega))⟩
  · refine (ev_lit rfl (lt_of rfl) hl (by rw [toArray_getD]; exact h38)
      (ev_mark0 rfl rfl (lt_of rfl) (ev_branch rfl (lt_of rfl)
      (alt_miss (R₁ := fun _ mk' _ _ => IA (s + 1) mk') (k := 5 * T.length + 5) (ne_of rfl) (by decide) (any_dig_no hS (by omega) (by decide) hI k1) fun _ mk₁ _ _ h₁ =>
      alt_hit (alt := 29) (ne_of rfl) (by decide) (ev_lit rfl (lt_of rfl) (show s + 1 < T.length by omega) (by rw [toArray_getD]; exact c0)
      (ev_chr (d := 2) (op := .LITERAL_UNI_IGNORE) rfl (by simp) (lt_of rfl) (show s + 1 + 1 < T.length by omega) rfl ?_
      (block_hit (T := T) (p := isHx) rfl rfl (by omega) rfl rfl rfl (lt_of rfl) (by decide) (fun q hq sn => cl_any_hex (mem_getD hS hq) sn) k fun q1 q2 => ev_jump rfl (lt_of rfl) ((any_tail_yes h₁ q2 q1).mono ?_)))))))).le (by omega)
    · intro sn
      have := cl_any_x (mem_getD hS (show s + 1 + 1 < T.length by omega)) sn
      rw [c1] at this
      rw [toArray_getD, c1]; exact this
    · rw [e, show s + 1 + 2 = s + 1 + 1 + 1 from rfl]
      rintro h' mk' lm' li' ⟨r1, r2⟩
      exact ⟨by omega, r2.1, r2.2.1, r2.2.2.1, r2.2.2.2.1, r2.2.2.2.2.trans (congrArg some (by omega))⟩
  · refine (ev_lit rfl (lt_of rfl) hl (by rw [toArray_getD]; exact h38)
      (ev_mark0 rfl rfl (lt_of rfl) (ev_branch rfl (lt_of rfl)
      (alt_miss (R₁ := fun _ mk' _ _ => IA (s + 1) mk') (k := 5 * T.length + 5) (ne_of rfl) (by decide) (any_dig_no hS (by omega) (by decide) hI (.inr (.inl c0))) fun _ mk₁ _ _ h₁ =>
      alt_miss (R₁ := fun _ mk' _ _ => IA (s + 1) mk') (k := 5 * T.length + 5) (alt := 29) (ne_of rfl) (by decide) (any_hex_no hS (by omega) (by decide) h₁ (.inr (.inl c0))) fun _ mk₂ _ _ h₂ =>
      alt_hit (alt := 50) (ne_of rfl) (by decide)
      (block_hit (T := T) (p := isWd) rfl rfl (by omega) rfl rfl rfl (lt_of rfl) (by decide) (fun q hq sn => cl_any_word (mem_getD hS hq) sn) k fun q1 q2 => ev_jump rfl (lt_of rfl) ((any_tail_yes h₂ q2 q1).mono ?_)))))).le (by omega)
    rw [e]
    rintro h' mk' lm' li' ⟨r1, r2⟩
    exact ⟨by omega, r2.1, r2.2.1, r2.2.2.1, r2.2.2.2.1, r2.2.2.2.2.trans (congrArg some (by omega))⟩
end
end Mine
end
section
open PySem hiding Frame run
open PySem.Sre
set_option maxRecDepth 100000
namespace Mine
section
variable {T : List Nat} {st ls : Nat} {om : Bool} {wt : Nat} {mk : Array (Option Nat)} {a : Nat}
abbrev cxB (T : List Nat) (st ls : Nat) : Cx := ⟨cdBare, T.toArray, T.length, st, ls⟩
abbrev RA (a : Nat) : Nat → Array (Option Nat) → Int → Int → Prop := fun _ mk' _ _ => IA a mk'
theorem semi_no {C : Cx} {q pc : Nat} (hT : C.text = T.toArray) (hl : C.lim = T.length) (hc : C.code.getD pc 0 = 16) (h9 : C.code.getD (pc + 1) 0 = 59) (hz : pc < C.code.size) (hI : IA a mk) (hq : T.length ≤ q ∨ T.getD q 0 ≠ 59) : Ev C 1 pc q om mk 0 (-1) wt false (RA a) :=
  ev_lit_no hc hz (hq.imp (by rw [hl]; exact id) fun h => by rw [hT, toArray_getD, h9]; exact h) fun _ => hI
theorem bare_dig_no {pos : Nat} (hS : ∀ c ∈ T, c ∈ sig) (hb : T.length ≤ 16777216) (hw : wt + 1 ≤ 16777216) (hI : IA a mk) (h : T.length ≤ pos ∨ T.getD pos 0 ≠ 35 ∨ endOk isDg (T.drop (pos + 1)) = 0) :
    Ev (cxB T st ls) (5 * T.length + 5) 26 pos om mk 0 (-1) wt false (RA a) := by
  by_cases hh : T.length ≤ pos ∨ T.getD pos 0 ≠ 35
  · exact (ev_lit_no rfl (lt_of rfl) (hh.imp id fun h => by rw [toArray_getD]; exact h) fun _ => hI).le (by omega)
  · refine (ev_lit rfl (lt_of rfl) (show pos < T.length by omega) (by rw [toArray_getD]; exact Classical.not_not.mp (fun e => hh (.inr e))) (block_miss (k := 1) (T := T) (p := isDg) (I := IA a) rfl rfl hb rfl rfl rfl (lt_of rfl) hw
      (fun q hq sn => cl_bare_dig (mem_getD hS hq) sn) rfl ?_ hI fun q mk hm hq => semi_no rfl rfl rfl rfl (lt_of rfl) hm hq)).le (by omega)
    rcases h with h | h | h
    · exact absurd (.inl h) hh
    · exact absurd (.inr h) hh
    · exact h
theorem bare_hex_no {pos : Nat} (hS : ∀ c ∈ T, c ∈ sig) (hb : T.length ≤ 16777216) (hw : wt + 1 ≤ 16777216) (hI : IA a mk) (h : T.length ≤ pos ∨ T.getD pos 0 ≠ 35 ∨ T.length ≤ pos + 1 ∨ T.getD (pos + 1) 0 ≠ 120 ∨ endOk isHx (T.drop (pos + 2)) = 0) :
    Ev (cxB T st ls) (5 * T.length + 5) 43 pos om mk 0 (-1) wt false (RA a) := by
  by_cases hh : T.length ≤ pos ∨ T.getD pos 0 ≠ 35
  · exact (ev_lit_no rfl (lt_of rfl) (hh.imp id fun h => by rw [toArray_getD]; exact h) fun _ => hI).le (by omega)
  · have hl : pos < T.length := by omega
    by_cases h2 : T.length ≤ pos + 1 ∨ T.getD (pos + 1) 0 ≠ 120
    · exact (ev_lit rfl (lt_of rfl) hl (by rw [toArray_getD]; exact Classical.not_not.mp (fun e => hh (.inr e))) (ev_lit_no rfl (lt_of rfl) (h2.imp id fun h => by rw [toArray_getD]; exact h) fun _ => hI)).le (by omega)
    · refine (ev_lit rfl (lt_of rfl) hl (by rw [toArray_getD]; exact Classical.not_not.mp (fun e => hh (.inr e))) (ev_lit rfl (lt_of rfl) (show pos + 1 < T.length by omega) (by rw [toArray_getD]; exact Classical.not_not.mp (fun e => h2 (.inr e)))
        (block_miss (k := 1) (T := T) (p := isHx) (I := IA a) rfl rfl hb rfl rfl rfl (lt_of rfl) hw (fun q hq sn => cl_bare_hex (mem_getD hS hq) sn) rfl ?_ hI fun q mk hm hq => semi_no rfl rfl rfl rfl (lt_of rfl) hm hq))).le (by omega)
      rcases h with h | h | h | h | h
      · exact absurd (.inl h) hh
      · exact absurd (.inr h) hh
      · exact absurd (.inl h) h2
      · exact absurd (.inr h) h2
      · exact h
theorem bare_word_no {pos : Nat} (hS : ∀ c ∈ T, c ∈ sig) (hb : T.length ≤ 16777216) (hw : wt + 1 ≤ 16777216) (hI : IA a mk) (h : endOk isWd (T.drop pos) = 0) :
    Ev (cxB T st ls) (5 * T.length + 5) 69 pos om mk 0 (-1) wt false (RA a) :=
  (block_miss (k := 1) (T := T) (p := isWd) (I := IA a) rfl rfl hb rfl rfl rfl (lt_of rfl) hw (fun q hq sn => cl_bare_word (mem_getD hS hq) sn) rfl h hI fun q mk hm hq => semi_no rfl rfl rfl rfl (lt_of rfl) hm hq).le (by omega)

theorem bare_look_no {p : Nat} (hS : ∀ c ∈ T, c ∈ sig) (hb : T.length ≤ 16777216) (hw : wt + 2 ≤ 16777216) (hI : IA a mk) (h : refLen (T.drop p) = 0) : Ev (cxB T st ls) (16 * T.length + 25) 24 p om mk 0 (-1) wt false (RA a) := by
  have key := ref_cases (T.drop p)
  rw [drop_getD0, getD_drop, drop_nil, List.drop_drop, List.drop_drop, List.length_drop] at key
  rcases key with ⟨_, k1, k2, k3⟩ | ⟨_, _, k, e⟩ | ⟨_, _, _, _, k, e⟩ | ⟨_, k, e⟩
  · refine (ev_branch rfl (lt_of rfl)
      (alt_miss (R₁ := RA a) (k := 5 * T.length + 5) (ne_of rfl) (by omega) (bare_dig_no hS hb (by omega) hI k1) fun _ mk₁ _ _ h₁ =>
      (alt_miss (R₁ := RA a) (k := 5 * T.length + 5) (alt := 42) (ne_of rfl) (by omega) (bare_hex_no hS hb (by omega) h₁ ?_) fun _ mk₂ _ _ h₂ =>
      (alt_miss (R₁ := RA a) (k := 5 * T.length + 5) (alt := 68) (ne_of rfl) (by omega) (bare_word_no hS hb (by omega) h₂ k3) fun _ mk₃ _ _ h₃ =>
      alt_end (alt := 83) rfl fun _ => h₃)))).le (by omega)
    rcases k2 with k2 | k2 | k2 | k2 | k2
    · exact .inl k2
    · exact .inr (.inl k2)
    · exact .inr (.inr (.inl (by omega)))
    · exact .inr (.inr (.inr (.inl k2)))
    · exact .inr (.inr (.inr (.inr k2)))
  · omega
  · omega
  · omega
theorem bare_look_yes {p : Nat} (hS : ∀ c ∈ T, c ∈ sig) (hb : T.length ≤ 16777216) (hw : wt + 2 ≤ 16777216) (hI : IA a mk) (h0 : refLen (T.drop p) ≠ 0) : Ev (cxB T st ls) (16 * T.length + 25) 24 p om mk 0 (-1) wt true (RA a) := by
  have key := ref_cases (T.drop p)
  rw [drop_getD0, getD_drop, drop_nil, List.drop_drop, List.drop_drop, List.length_drop] at key
  rcases key with ⟨e, _⟩ | ⟨c0, l0, k, e⟩ | ⟨k1, c0, l0, c1, k, e⟩ | ⟨c0, k, e⟩
  · exact absurd e h0
  · exact (ev_branch rfl (lt_of rfl) (alt_hit (ne_of rfl) (by omega) (ev_lit rfl (lt_of rfl) (show p < T.length by omega) (by rw [toArray_getD]; exact c0)
      (block_hit (T := T) (p := isDg) rfl rfl hb rfl rfl rfl (lt_of rfl) (by omega) (fun q hq sn => cl_bare_dig (mem_getD hS hq) sn) k fun q1 q2 =>
        ev_lit rfl (lt_of rfl) q2 (by rw [toArray_getD]; exact q1) (ev_jump rfl (lt_of rfl) (ev_success rfl (lt_of rfl) hI)))))).le (by omega)
  · exact (ev_branch rfl (lt_of rfl)
      (alt_miss (R₁ := RA a) (k := 5 * T.length + 5) (ne_of rfl) (by omega) (bare_dig_no hS hb (by omega) hI k1) fun _ mk₁ _ _ h₁ =>
      alt_hit (alt := 42) (ne_of rfl) (by omega) (ev_lit rfl (lt_of rfl) (show p < T.length by omega) (by rw [toArray_getD]; exact c0)
      (ev_lit rfl (lt_of rfl) (show p + 1 < T.length by omega) (by rw [toArray_getD]; exact c1)
      (block_hit (T := T) (p := isHx) rfl rfl hb rfl rfl rfl (lt_of rfl) (by omega) (fun q hq sn => cl_bare_hex (mem_getD hS hq) sn) k fun q1 q2 =>
        ev_lit rfl (lt_of rfl) q2 (by rw [toArray_getD]; exact q1) (ev_jump rfl (lt_of rfl) (ev_success rfl (lt_of rfl) h₁))))))).le (by omega)
  · exact (ev_branch rfl (lt_of rfl)
      (alt_miss (R₁ := RA a) (k := 5 * T.length + 5) (ne_of rfl) (by omega) (bare_dig_no hS hb (by omega) hI (.inr (.inl c0))) fun _ mk₁ _ _ h₁ =>
      alt_miss (R₁ := RA a) (k := 5 * T.length + 5) (alt := 42) (ne_of rfl) (by omega) (bare_hex_no hS hb (by omega) h₁ (.inr (.inl c0))) fun _ mk₂ _ _ h₂ =>
      alt_hit (alt := 68) (ne_of rfl) (by omega)
      (block_hit (T := T) (p := isWd) rfl rfl hb rfl rfl rfl (lt_of rfl) (by omega) (fun q hq sn => cl_bare_word (mem_getD hS hq) sn) k fun q1 q2 =>
        ev_lit rfl (lt_of rfl) q2 (by rw [toArray_getD]; exact q1) (ev_jump rfl (lt_of rfl) (ev_success rfl (lt_of rfl) h₂))))).le (by omega)

theorem shut_hit {C : Cx} {pc q : Nat} (hc : C.code.getD pc 0 = 17) (hi : C.code.getD (pc + 1) 0 = 1) (hz : pc < C.code.size) (hc2 : C.code.getD (pc + 2) 0 = 1) (hz2 : pc + 2 < C.code.size) (hI : IA a mk) : Ev C 2 pc q om mk 0 (-1) wt true (RHit q a q) :=
  ev_mark1 hc hi hz (ev_success hc2 hz2 ⟨rfl, rfl, rfl, (ia_shut hI).1.1, (ia_shut hI).1.2, (ia_shut hI).2⟩)
/-- what the second pattern asks at s -/
def bareAt (T : List Nat) (s : Nat) : Prop := s < T.length ∧ (T.getD s 0 = 60 ∨ T.getD s 0 = 62 ∨ (T.getD s 0 = 38 ∧ refLen (T.drop (s + 1)) = 0))
theorem bare_hit {s : Nat} (hS : ∀ c ∈ T, c ∈ sig) (hb : T.length ≤ 16777216) (h : bareAt T s) : Hit (cxB T st ls) (20 * T.length + 60) 5 s (s + 1) s (s + 1) := by
  intro om mk hm
  have hI : IA s (mk.setIfInBounds 0 (some s)) := ia_open hm
  obtain ⟨hl, h⟩ := h
  by_cases h6 : T.getD s 0 = 60 ∨ T.getD s 0 = 62
  · refine (ev_mark0 rfl rfl (lt_of rfl) (ev_branch rfl (lt_of rfl) (alt_hit (ne_of rfl) (by decide)
      (ev_chr (d := 7) (op := .IN) rfl (by simp) (lt_of rfl) hl rfl ?_ (ev_jump rfl (lt_of rfl) (shut_hit rfl rfl (lt_of rfl) rfl (lt_of rfl) hI)))))).le (by omega)
    intro sn
    have := cl_bare_br (c := T.getD s 0) sn
    have e : (T.getD s 0 == 60 || T.getD s 0 == 62) = true := by simpa using h6
    rw [e] at this
    rw [toArray_getD]; exact this
  · have h38 : T.getD s 0 = 38 ∧ refLen (T.drop (s + 1)) = 0 := by
      rcases h with h | h | h
      · exact absurd (.inl h) h6
      · exact absurd (.inr h) h6
      · exact h
    refine (ev_mark0 rfl rfl (lt_of rfl) (ev_branch rfl (lt_of rfl) (alt_miss (R₁ := RA s) (k := 1) (ne_of rfl) (by decide)
      (ev_chr_no (op := .IN) rfl (by simp) (lt_of rfl) (.inr ?_) fun _ => hI) fun _ mk₁ _ _ h₁ => alt_hit (alt := 18) (ne_of rfl) (by decide)
      (ev_lit rfl (lt_of rfl) hl (by rw [toArray_getD]; exact h38.1) (ev_not_ok rfl rfl (lt_of rfl) (by decide) (bare_look_no hS hb (by decide) h₁ h38.2) fun _ mk₂ _ _ h₂ =>
      ev_jump rfl (lt_of rfl) (shut_hit rfl rfl (lt_of rfl) rfl (lt_of rfl) h₂)))))).le (by omega)
    intro sn
    have := cl_bare_br (c := T.getD s 0) sn
    have e : (T.getD s 0 == 60 || T.getD s 0 == 62) = false := by simpa using h6
    rw [e] at this
    rw [toArray_getD]; exact this
theorem bare_miss {s : Nat} (hS : ∀ c ∈ T, c ∈ sig) (hb : T.length ≤ 16777216) (h : ¬ bareAt T s) : Miss (cxB T st ls) (20 * T.length + 60) 5 s := by
  intro om mk hm
  have hI : IA s (mk.setIfInBounds 0 (some s)) := ia_open hm
  by_cases hl : T.length ≤ s
  · exact (ev_mark0 rfl rfl (lt_of rfl) (ev_branch rfl (lt_of rfl) (alt_miss (R₁ := RA s) (k := 1) (ne_of rfl) (by decide)
      (ev_chr_no (op := .IN) rfl (by simp) (lt_of rfl) (.inl hl) fun _ => hI) fun _ mk₁ _ _ h₁ => alt_miss (R₁ := RA s) (k := 1) (alt := 18) (ne_of rfl) (by decide)
      (ev_lit_no rfl (lt_of rfl) (.inl hl) fun _ => h₁) fun _ mk₂ _ _ h₂ => alt_end (alt := 87) rfl fun _ => h₂.1))).le (by omega)
  · have hl' : s < T.length := by omega
    have h6 : ¬ (T.getD s 0 = 60 ∨ T.getD s 0 = 62) := fun e => h ⟨hl', e.elim .inl fun e => .inr (.inl e)⟩
    have hin : ∀ sn, ∃ sn', accepts cdBare 9 (T.toArray.getD s 0) sn = .ok (false, sn') := by
      intro sn
      have := cl_bare_br (c := T.getD s 0) sn
      have e : (T.getD s 0 == 60 || T.getD s 0 == 62) = false := by simpa using h6
      rw [e] at this
      rw [toArray_getD]; exact this
    by_cases h38 : T.getD s 0 = 38
    · have hr : refLen (T.drop (s + 1)) ≠ 0 := fun e => h ⟨hl', .inr (.inr ⟨h38, e⟩)⟩
      exact (ev_mark0 rfl rfl (lt_of rfl) (ev_branch rfl (lt_of rfl) (alt_miss (R₁ := RA s) (k := 1) (ne_of rfl) (by decide)
        (ev_chr_no (op := .IN) rfl (by simp) (lt_of rfl) (.inr hin) fun _ => hI) fun _ mk₁ _ _ h₁ => alt_miss (R₁ := RA s) (alt := 18) (ne_of rfl) (by decide)
        (ev_lit rfl (lt_of rfl) hl' (by rw [toArray_getD]; exact h38) (ev_not_bad rfl rfl (lt_of rfl) (by decide) (bare_look_yes hS hb (by decide) h₁ hr) fun _ _ _ _ h => h)) fun _ mk₂ _ _ h₂ => alt_end (alt := 87) rfl fun _ => h₂.1))).le (by omega)
    · exact (ev_mark0 rfl rfl (lt_of rfl) (ev_branch rfl (lt_of rfl) (alt_miss (R₁ := RA s) (k := 1) (ne_of rfl) (by decide)
        (ev_chr_no (op := .IN) rfl (by simp) (lt_of rfl) (.inr hin) fun _ => hI) fun _ mk₁ _ _ h₁ => alt_miss (R₁ := RA s) (k := 1) (alt := 18) (ne_of rfl) (by decide)
        (ev_lit_no rfl (lt_of rfl) (.inr (by rw [toArray_getD]; exact h38)) fun _ => h₁) fun _ mk₂ _ _ h₂ => alt_end (alt := 87) rfl fun _ => h₂.1))).le (by omega)

/-- the third pattern -/
abbrev cxM (T : List Nat) (st ls : Nat) : Cx := ⟨cdAmp, T.toArray, T.length, st, ls⟩
theorem amp_hit {s : Nat} (hS : ∀ c ∈ T, c ∈ sig) (hl : s < T.length) (h : inAmp (T.getD s 0) = true) : Hit (cxM T st ls) 10 15 s (s + 1) s (s + 1) := by
  intro om mk hm
  have hI : IA s (mk.setIfInBounds 0 (some s)) := ia_open hm
  refine (ev_mark0 rfl rfl (lt_of rfl) (ev_chr (d := 12) (op := .IN) rfl (by simp) (lt_of rfl) hl rfl ?_ (shut_hit rfl rfl (lt_of rfl) rfl (lt_of rfl) hI))).le (by omega)
  intro sn
  have := cl_amp (mem_getD hS hl) sn
  rw [h] at this
  rw [toArray_getD]; exact this
theorem amp_tries {s : Nat} (hS : ∀ c ∈ T, c ∈ sig) (hl : s < T.length) (h : inAmp (T.getD s 0) = true) : Tries (cxM T st ls) 15 s :=
  tries_set rfl rfl hl fun sn => by
    have := st_amp (mem_getD hS hl) sn
    rw [h] at this
    rw [toArray_getD]; exact this
theorem amp_skips {s : Nat} (hS : ∀ c ∈ T, c ∈ sig) (hl : s < T.length) (h : inAmp (T.getD s 0) = false) : Skips (cxM T st ls) 15 s :=
  skips_set rfl rfl hl (fun sn => by
    have := st_amp (mem_getD hS hl) sn
    rw [h] at this
    rw [toArray_getD]; exact this) fun p sn hp => by
    obtain ⟨sn', e⟩ := st_amp (mem_getD hS hp) sn
    exact ⟨_, sn', by rw [toArray_getD]; exact e⟩
end
end Mine
end
section
open PySem hiding Frame run
open PySem.Sre
set_option maxRecDepth 100000
namespace Mine
def sgl (c0 c1 : Nat) : Nat := if c0 = 233 then 1 else if c0 = 8834 ∨ c0 = 60 ∨ c0 = 62 then (if c1 = 8402 then 2 else 1) else 0
section
variable {T : List Nat} {C : Cx} {st ls : Nat} {om : Bool} {wt : Nat} {mk : Array (Option Nat)} {a pc s c f : Nat}
theorem lt_getD (h : T.getD s 0 = c) (hc : c ≠ 0) : s < T.length := by
  by_cases hl : s < T.length
  · exact hl
  · rw [List.getD_eq_getElem?_getD, List.getElem?_eq_none (by omega)] at h
    exact absurd h.symm hc
theorem lone_no (hT : C.text = T.toArray) (hL : C.lim = T.length) (h0 : C.code.getD pc 0 = 16) (h1 : C.code.getD (pc + 1) 0 = c) (h2 : C.code.getD (pc + 2) 0 = 5) (h3 : C.code.getD (pc + 4) 0 = 0) (h4 : C.code.getD (pc + 5) 0 = 16) (h5 : C.code.getD (pc + 6) 0 = 8402) (h6 : C.code.getD (pc + 7) 0 = 1) (hz : pc + 7 < C.code.size)
    (hw : wt + 1 ≤ 16777216) (hI : IA a mk) (h : ¬ (T.getD s 0 = c ∧ T.getD (s + 1) 0 ≠ 8402)) : Ev C 10 pc s om mk 0 (-1) wt false (RA a) := by
  by_cases hh : T.length ≤ s ∨ T.getD s 0 ≠ c
  · exact (ev_lit_no h0 (by omega) (hh.imp (by rw [hL]; exact id) fun h => by rw [hT, toArray_getD, h1]; exact h) fun _ => hI).le (by omega)
  · have hc : T.getD s 0 = c := Classical.not_not.mp fun e => hh (.inr e)
    have h8 : T.getD (s + 1) 0 = 8402 := Classical.not_not.mp fun e => h ⟨hc, e⟩
    exact (ev_lit h0 (by omega) (by rw [hL]; omega) (by rw [hT, toArray_getD, h1]; exact hc) (ev_not_bad (R₁ := RA a) h2 h3 (by omega) hw
      (ev_lit h4 (by omega) (by rw [hL]; exact lt_getD h8 (by decide)) (by rw [hT, toArray_getD]; exact h8.trans h5.symm) (ev_success h6 (by omega) hI)) fun _ _ _ _ h => h)).le (by omega)
theorem lone_hit (hT : C.text = T.toArray) (hL : C.lim = T.length) (h0 : C.code.getD pc 0 = 16) (h1 : C.code.getD (pc + 1) 0 = c) (h2 : C.code.getD (pc + 2) 0 = 5) (h3 : C.code.getD (pc + 4) 0 = 0) (h3' : C.code.getD (pc + 3) 0 = 5) (h4 : C.code.getD (pc + 5) 0 = 16) (h5 : C.code.getD (pc + 6) 0 = 8402)
    (h7 : C.code.getD (pc + 8) 0 = 15) (hf : pc + 8 + 1 + C.code.getD (pc + 9) 0 = f) (hz : pc + 8 < C.code.size) (g1 : C.code.getD f 0 = 17) (g2 : C.code.getD (f + 1) 0 = 1) (g3 : C.code.getD (f + 2) 0 = 1) (gz : f + 2 < C.code.size)
    (hc0 : c ≠ 0) (hw : wt + 1 ≤ 16777216) (hI : IA a mk) (h : T.getD s 0 = c ∧ T.getD (s + 1) 0 ≠ 8402) : Ev C 10 pc s om mk 0 (-1) wt true (RHit (s + 1) a (s + 1)) := by
  refine (ev_lit h0 (by omega) (by rw [hL]; exact lt_getD h.1 hc0) (by rw [hT, toArray_getD, h1]; exact h.1) (ev_not_ok (R₁ := RA a) (k := 1) (k₂ := 3) h2 h3 (by omega) hw
    (ev_lit_no h4 (by omega) (.inr (by rw [hT, toArray_getD]; exact fun e => h.2 (e.trans h5))) fun _ => hI) fun _ mk₁ _ _ h₁ => ?_)).le (by omega)
  rw [h3']
  refine ev_jump h7 (by omega) ?_
  have e : pc + 2 + 1 + 5 + 1 + C.code.getD (pc + 2 + 1 + 5 + 1) 0 = f := by rw [← hf]
  rw [e]
  exact shut_hit g1 g2 (by omega) g3 gz h₁
theorem pair_no (hT : C.text = T.toArray) (hL : C.lim = T.length) (h0 : C.code.getD pc 0 = 16) (h1 : C.code.getD (pc + 1) 0 = c) (h2 : C.code.getD (pc + 2) 0 = 16) (h3 : C.code.getD (pc + 3) 0 = 8402) (hz : pc + 3 < C.code.size)
    (hI : IA a mk) (h : ¬ (T.getD s 0 = c ∧ T.getD (s + 1) 0 = 8402)) : Ev C 10 pc s om mk 0 (-1) wt false (RA a) := by
  by_cases hh : T.length ≤ s ∨ T.getD s 0 ≠ c
  · exact (ev_lit_no h0 (by omega) (hh.imp (by rw [hL]; exact id) fun h => by rw [hT, toArray_getD, h1]; exact h) fun _ => hI).le (by omega)
  · have hc : T.getD s 0 = c := Classical.not_not.mp fun e => hh (.inr e)
    exact (ev_lit h0 (by omega) (by rw [hL]; omega) (by rw [hT, toArray_getD, h1]; exact hc) (ev_lit_no h2 (by omega) (.inr (by rw [hT, toArray_getD]; exact fun e => h ⟨hc, e.trans h3⟩)) fun _ => hI)).le (by omega)
theorem pair_hit (hT : C.text = T.toArray) (hL : C.lim = T.length) (h0 : C.code.getD pc 0 = 16) (h1 : C.code.getD (pc + 1) 0 = c) (h2 : C.code.getD (pc + 2) 0 = 16) (h3 : C.code.getD (pc + 3) 0 = 8402)
    (h7 : C.code.getD (pc + 4) 0 = 15) (hf : pc + 4 + 1 + C.code.getD (pc + 5) 0 = f) (hz : pc + 4 < C.code.size) (g1 : C.code.getD f 0 = 17) (g2 : C.code.getD (f + 1) 0 = 1) (g3 : C.code.getD (f + 2) 0 = 1) (gz : f + 2 < C.code.size)
    (hc0 : c ≠ 0) (hI : IA a mk) (h : T.getD s 0 = c ∧ T.getD (s + 1) 0 = 8402) : Ev C 10 pc s om mk 0 (-1) wt true (RHit (s + 2) a (s + 2)) := by
  refine (ev_lit h0 (by omega) (by rw [hL]; exact lt_getD h.1 hc0) (by rw [hT, toArray_getD, h1]; exact h.1) (ev_lit h2 (by omega) (by rw [hL]; exact lt_getD h.2 (by decide)) (by rw [hT, toArray_getD]; exact h.2.trans h3.symm) (ev_jump h7 (by omega) (k := 2) ?_))).le (by omega)
  have e : pc + 2 + 2 + 1 + C.code.getD (pc + 2 + 2 + 1) 0 = f := by rw [← hf]
  rw [e]
  exact shut_hit g1 g2 (by omega) g3 gz hI
theorem one_no (hT : C.text = T.toArray) (_hL : C.lim = T.length) (h0 : C.code.getD pc 0 = 16) (h1 : C.code.getD (pc + 1) 0 = c) (hz : pc < C.code.size)
    (hI : IA a mk) (h : T.getD s 0 ≠ c) : Ev C 10 pc s om mk 0 (-1) wt false (RA a) :=
  (ev_lit_no h0 hz (.inr (by rw [hT, toArray_getD, h1]; exact h)) fun _ => hI).le (by omega)
theorem one_hit (hT : C.text = T.toArray) (hL : C.lim = T.length) (h0 : C.code.getD pc 0 = 16) (h1 : C.code.getD (pc + 1) 0 = c)
    (h7 : C.code.getD (pc + 2) 0 = 15) (hf : pc + 2 + 1 + C.code.getD (pc + 3) 0 = f) (hz : pc + 2 < C.code.size) (g1 : C.code.getD f 0 = 17) (g2 : C.code.getD (f + 1) 0 = 1) (g3 : C.code.getD (f + 2) 0 = 1) (gz : f + 2 < C.code.size)
    (hc0 : c ≠ 0) (hI : IA a mk) (h : T.getD s 0 = c) : Ev C 10 pc s om mk 0 (-1) wt true (RHit (s + 1) a (s + 1)) := by
  refine (ev_lit h0 (by omega) (by rw [hL]; exact lt_getD h hc0) (by rw [hT, toArray_getD, h1]; exact h) (ev_jump h7 (by omega) (k := 2) ?_)).le (by omega)
  have e : pc + 2 + 1 + C.code.getD (pc + 2 + 1) 0 = f := by rw [← hf]
  rw [e]
  exact shut_hit g1 g2 (by omega) g3 gz hI

abbrev cxC (T : List Nat) (st ls : Nat) : Cx := ⟨cdChr, T.toArray, T.length, st, ls⟩
abbrev cxD (T : List Nat) (st ls : Nat) : Cx := ⟨cdChA, T.toArray, T.length, st, ls⟩
theorem chr_alt_hit (hI : IA s mk) (h : sgl (T.getD s 0) (T.getD (s + 1) 0) ≠ 0) : EvAlt (cxC T st ls) 100 99 s om mk 0 (-1) 1 true (RHit (s + sgl (T.getD s 0) (T.getD (s + 1) 0)) s (s + sgl (T.getD s 0) (T.getD (s + 1) 0))) := by
  have le : ∀ {k k' alt mk R} (_ : k ≤ k') (_ : EvAlt (cxC T st ls) k alt s om mk 0 (-1) 1 true R), EvAlt (cxC T st ls) k' alt s om mk 0 (-1) 1 true R := fun hk h fs hh sn pc => by
    obtain ⟨n, a1, a2, a3, a4, a5, a6, a7, a8, hn, q⟩ := h fs hh sn pc
    exact ⟨n, a1, a2, a3, a4, a5, a6, a7, a8, by omega, q⟩
  by_cases v1 : T.getD s 0 = 233
  · have e : sgl (T.getD s 0) (T.getD (s + 1) 0) = 1 := by rw [v1]; rfl
    rw [e]
    exact le (k := 11) (by omega) (alt_hit (ne_of rfl) (by decide) (one_hit (f := 159) (c := 233) rfl rfl rfl rfl rfl rfl (lt_of rfl) rfl rfl rfl (lt_of rfl) (by decide) hI v1))
  refine le (k := 10 + 1 + 89) (by omega) (alt_miss (R₁ := RA s) (ne_of rfl) (by decide) (one_no (c := 233) rfl rfl rfl rfl (lt_of rfl) hI v1) fun _ mk hI' _ hI => ?_)
  by_cases v2 : T.getD s 0 = 8834 ∧ T.getD (s + 1) 0 ≠ 8402
  · have e : sgl (T.getD s 0) (T.getD (s + 1) 0) = 1 := by unfold sgl; rw [if_neg v1, if_pos (.inl v2.1), if_neg v2.2]
    rw [e]
    exact le (k := 11) (by omega) (alt_hit (alt := 104) (ne_of rfl) (by decide) (lone_hit (f := 159) (c := 8834) rfl rfl rfl rfl rfl rfl rfl rfl rfl rfl rfl (lt_of rfl) rfl rfl rfl (lt_of rfl) (by decide) (by decide) hI v2))
  refine le (k := 10 + 1 + 78) (by omega) (alt_miss (alt := 104) (R₁ := RA s) (ne_of rfl) (by decide) (lone_no (c := 8834) rfl rfl rfl rfl rfl rfl rfl rfl rfl (lt_of rfl) (by decide) hI v2) fun _ mk hI' _ hI => ?_)
  by_cases v3 : T.getD s 0 = 8834 ∧ T.getD (s + 1) 0 = 8402
  · have e : sgl (T.getD s 0) (T.getD (s + 1) 0) = 2 := by unfold sgl; rw [if_neg v1, if_pos (.inl v3.1), if_pos v3.2]
    rw [e]
    exact le (k := 11) (by omega) (alt_hit (alt := 115) (ne_of rfl) (by decide) (pair_hit (f := 159) (c := 8834) rfl rfl rfl rfl rfl rfl rfl rfl (lt_of rfl) rfl rfl rfl (lt_of rfl) (by decide) hI v3))
  refine le (k := 10 + 1 + 67) (by omega) (alt_miss (alt := 115) (R₁ := RA s) (ne_of rfl) (by decide) (pair_no (c := 8834) rfl rfl rfl rfl rfl rfl (lt_of rfl) hI v3) fun _ mk hI' _ hI => ?_)
  by_cases v4 : T.getD s 0 = 60 ∧ T.getD (s + 1) 0 ≠ 8402
  · have e : sgl (T.getD s 0) (T.getD (s + 1) 0) = 1 := by unfold sgl; rw [if_neg v1, if_pos (.inr (.inl v4.1)), if_neg v4.2]
    rw [e]
    exact le (k := 11) (by omega) (alt_hit (alt := 122) (ne_of rfl) (by decide) (lone_hit (f := 159) (c := 60) rfl rfl rfl rfl rfl rfl rfl rfl rfl rfl rfl (lt_of rfl) rfl rfl rfl (lt_of rfl) (by decide) (by decide) hI v4))
  refine le (k := 10 + 1 + 56) (by omega) (alt_miss (alt := 122) (R₁ := RA s) (ne_of rfl) (by decide) (lone_no (c := 60) rfl rfl rfl rfl rfl rfl rfl rfl rfl (lt_of rfl) (by decide) hI v4) fun _ mk hI' _ hI => ?_)
  by_cases v5 : T.getD s 0 = 60 ∧ T.getD (s + 1) 0 = 8402
  · have e : sgl (T.getD s 0) (T.getD (s + 1) 0) = 2 := by unfold sgl; rw [if_neg v1, if_pos (.inr (.inl v5.1)), if_pos v5.2]
    rw [e]
    exact le (k := 11) (by omega) (alt_hit (alt := 133) (ne_of rfl) (by decide) (pair_hit (f := 159) (c := 60) rfl rfl rfl rfl rfl rfl rfl rfl (lt_of rfl) rfl rfl rfl (lt_of rfl) (by decide) hI v5))
  refine le (k := 10 + 1 + 45) (by omega) (alt_miss (alt := 133) (R₁ := RA s) (ne_of rfl) (by decide) (pair_no (c := 60) rfl rfl rfl rfl rfl rfl (lt_of rfl) hI v5) fun _ mk hI' _ hI => ?_)
  by_cases v6 : T.getD s 0 = 62 ∧ T.getD (s + 1) 0 ≠ 8402
  · have e : sgl (T.getD s 0) (T.getD (s + 1) 0) = 1 := by unfold sgl; rw [if_neg v1, if_pos (.inr (.inr v6.1)), if_neg v6.2]
    rw [e]
    exact le (k := 11) (by omega) (alt_hit (alt := 140) (ne_of rfl) (by decide) (lone_hit (f := 159) (c := 62) rfl rfl rfl rfl rfl rfl rfl rfl rfl rfl rfl (lt_of rfl) rfl rfl rfl (lt_of rfl) (by decide) (by decide) hI v6))
  refine le (k := 10 + 1 + 34) (by omega) (alt_miss (alt := 140) (R₁ := RA s) (ne_of rfl) (by decide) (lone_no (c := 62) rfl rfl rfl rfl rfl rfl rfl rfl rfl (lt_of rfl) (by decide) hI v6) fun _ mk hI' _ hI => ?_)
  by_cases v7 : T.getD s 0 = 62 ∧ T.getD (s + 1) 0 = 8402
  · have e : sgl (T.getD s 0) (T.getD (s + 1) 0) = 2 := by unfold sgl; rw [if_neg v1, if_pos (.inr (.inr v7.1)), if_pos v7.2]
    rw [e]
    exact le (k := 11) (by omega) (alt_hit (alt := 151) (ne_of rfl) (by decide) (pair_hit (f := 159) (c := 62) rfl rfl rfl rfl rfl rfl rfl rfl (lt_of rfl) rfl rfl rfl (lt_of rfl) (by decide) hI v7))
  exfalso
  apply h
  unfold sgl
  rw [if_neg v1, if_neg]
  rintro (e | e | e) <;> by_cases e2 : T.getD (s + 1) 0 = 8402
  · exact v3 ⟨e, e2⟩
  · exact v2 ⟨e, e2⟩
  · exact v5 ⟨e, e2⟩
  · exact v4 ⟨e, e2⟩
  · exact v7 ⟨e, e2⟩
  · exact v6 ⟨e, e2⟩
theorem chr_hit {s : Nat} (h : sgl (T.getD s 0) (T.getD (s + 1) 0) ≠ 0) : Hit (cxC T st ls) 110 96 s (s + sgl (T.getD s 0) (T.getD (s + 1) 0)) s (s + sgl (T.getD s 0) (T.getD (s + 1) 0)) := by
  intro om mk hm
  exact (ev_mark0 rfl rfl (lt_of rfl) (ev_branch rfl (lt_of rfl) (chr_alt_hit (ia_open hm) h))).le (by omega)
theorem chA_alt_hit (hI : IA s mk) (h : sgl (T.getD s 0) (T.getD (s + 1) 0) ≠ 0) : EvAlt (cxD T st ls) 100 104 s om mk 0 (-1) 1 true (RHit (s + sgl (T.getD s 0) (T.getD (s + 1) 0)) s (s + sgl (T.getD s 0) (T.getD (s + 1) 0))) := by
  have le : ∀ {k k' alt mk R} (_ : k ≤ k') (_ : EvAlt (cxD T st ls) k alt s om mk 0 (-1) 1 true R), EvAlt (cxD T st ls) k' alt s om mk 0 (-1) 1 true R := fun hk h fs hh sn pc => by
    obtain ⟨n, a1, a2, a3, a4, a5, a6, a7, a8, hn, q⟩ := h fs hh sn pc
    exact ⟨n, a1, a2, a3, a4, a5, a6, a7, a8, by omega, q⟩
  by_cases v1 : T.getD s 0 = 233
  · have e : sgl (T.getD s 0) (T.getD (s + 1) 0) = 1 := by rw [v1]; rfl
    rw [e]
    exact le (k := 11) (by omega) (alt_hit (ne_of rfl) (by decide) (one_hit (f := 164) (c := 233) rfl rfl rfl rfl rfl rfl (lt_of rfl) rfl rfl rfl (lt_of rfl) (by decide) hI v1))
  refine le (k := 10 + 1 + 89) (by omega) (alt_miss (R₁ := RA s) (ne_of rfl) (by decide) (one_no (c := 233) rfl rfl rfl rfl (lt_of rfl) hI v1) fun _ mk hI' _ hI => ?_)
  by_cases v2 : T.getD s 0 = 8834 ∧ T.getD (s + 1) 0 ≠ 8402
  · have e : sgl (T.getD s 0) (T.getD (s + 1) 0) = 1 := by unfold sgl; rw [if_neg v1, if_pos (.inl v2.1), if_neg v2.2]
    rw [e]
    exact le (k := 11) (by omega) (alt_hit (alt := 109) (ne_of rfl) (by decide) (lone_hit (f := 164) (c := 8834) rfl rfl rfl rfl rfl rfl rfl rfl rfl rfl rfl (lt_of rfl) rfl rfl rfl (lt_of rfl) (by decide) (by decide) hI v2))
  refine le (k := 10 + 1 + 78) (by omega) (alt_miss (alt := 109) (R₁ := RA s) (ne_of rfl) (by decide) (lone_no (c := 8834) rfl rfl rfl rfl rfl rfl rfl rfl rfl (lt_of rfl) (by decide) hI v2) fun _ mk hI' _ hI => ?_)
  by_cases v3 : T.getD s 0 = 8834 ∧ T.getD (s + 1) 0 = 8402
  · have e : sgl (T.getD s 0) (T.getD (s + 1) 0) = 2 := by unfold sgl; rw [if_neg v1, if_pos (.inl v3.1), if_pos v3.2]
    rw [e]
    exact le (k := 11) (by omega) (alt_hit (alt := 120) (ne_of rfl) (by decide) (pair_hit (f := 164) (c := 8834) rfl rfl rfl rfl rfl rfl rfl rfl (lt_of rfl) rfl rfl rfl (lt_of rfl) (by decide) hI v3))
  refine le (k := 10 + 1 + 67) (by omega) (alt_miss (alt := 120) (R₁ := RA s) (ne_of rfl) (by decide) (pair_no (c := 8834) rfl rfl rfl rfl rfl rfl (lt_of rfl) hI v3) fun _ mk hI' _ hI => ?_)
  by_cases v4 : T.getD s 0 = 60 ∧ T.getD (s + 1) 0 ≠ 8402
  · have e : sgl (T.getD s 0) (T.getD (s + 1) 0) = 1 := by unfold sgl; rw [if_neg v1, if_pos (.inr (.inl v4.1)), if_neg v4.2]
    rw [e]
    exact le (k := 11) (by omega) (alt_hit (alt := 127) (ne_of rfl) (by decide) (lone_hit (f := 164) (c := 60) rfl rfl rfl rfl rfl rfl rfl rfl rfl rfl rfl (lt_of rfl) rfl rfl rfl (lt_of rfl) (by decide) (by decide) hI v4))
  refine le (k := 10 + 1 + 56) (by omega) (alt_miss (alt := 127) (R₁ := RA s) (ne_of rfl) (by decide) (lone_no (c := 60) rfl rfl rfl rfl rfl rfl rfl rfl rfl (lt_of rfl) (by decide) hI v4) fun _ mk hI' _ hI => ?_)
  by_cases v5 : T.getD s 0 = 60 ∧ T.getD (s + 1) 0 = 8402
  · have e : sgl (T.getD s 0) (T.getD (s + 1) 0) = 2 := by unfold sgl; rw [if_neg v1, if_pos (.inr (.inl v5.1)), if_pos v5.2]
    rw [e]
    exact le (k := 11) (by omega) (alt_hit (alt := 138) (ne_of rfl) (by decide) (pair_hit (f := 164) (c := 60) rfl rfl rfl rfl rfl rfl rfl rfl (lt_of rfl) rfl rfl rfl (lt_of rfl) (by decide) hI v5))
  refine le (k := 10 + 1 + 45) (by omega) (alt_miss (alt := 138) (R₁ := RA s) (ne_of rfl) (by decide) (pair_no (c := 60) rfl rfl rfl rfl rfl rfl (lt_of rfl) hI v5) fun _ mk hI' _ hI => ?_)
  by_cases v6 : T.getD s 0 = 62 ∧ T.getD (s + 1) 0 ≠ 8402
  · have e : sgl (T.getD s 0) (T.getD (s + 1) 0) = 1 := by unfold sgl; rw [if_neg v1, if_pos (.inr (.inr v6.1)), if_neg v6.2]
    rw [e]
    exact le (k := 11) (by omega) (alt_hit (alt := 145) (ne_of rfl) (by decide) (lone_hit (f := 164) (c := 62) rfl rfl rfl rfl rfl rfl rfl rfl rfl rfl rfl (lt_of rfl) rfl rfl rfl (lt_of rfl) (by decide) (by decide) hI v6))
  refine le (k := 10 + 1 + 34) (by omega) (alt_miss (alt := 145) (R₁ := RA s) (ne_of rfl) (by decide) (lone_no (c := 62) rfl rfl rfl rfl rfl rfl rfl rfl rfl (lt_of rfl) (by decide) hI v6) fun _ mk hI' _ hI => ?_)
  by_cases v7 : T.getD s 0 = 62 ∧ T.getD (s + 1) 0 = 8402
  · have e : sgl (T.getD s 0) (T.getD (s + 1) 0) = 2 := by unfold sgl; rw [if_neg v1, if_pos (.inr (.inr v7.1)), if_pos v7.2]
    rw [e]
    exact le (k := 11) (by omega) (alt_hit (alt := 156) (ne_of rfl) (by decide) (pair_hit (f := 164) (c := 62) rfl rfl rfl rfl rfl rfl rfl rfl (lt_of rfl) rfl rfl rfl (lt_of rfl) (by decide) hI v7))
  exfalso
  apply h
  unfold sgl
  rw [if_neg v1, if_neg]
  rintro (e | e | e) <;> by_cases e2 : T.getD (s + 1) 0 = 8402
  · exact v3 ⟨e, e2⟩
  · exact v2 ⟨e, e2⟩
  · exact v5 ⟨e, e2⟩
  · exact v4 ⟨e, e2⟩
  · exact v7 ⟨e, e2⟩
  · exact v6 ⟨e, e2⟩
def sgA (c0 c1 : Nat) : Nat := if c0 = 38 then 1 else sgl c0 c1
theorem chA_hit {s : Nat} (h : sgA (T.getD s 0) (T.getD (s + 1) 0) ≠ 0) : Hit (cxD T st ls) 130 96 s (s + sgA (T.getD s 0) (T.getD (s + 1) 0)) s (s + sgA (T.getD s 0) (T.getD (s + 1) 0)) := by
  intro om mk hm
  have hI : IA s (mk.setIfInBounds 0 (some s)) := ia_open hm
  by_cases v0 : T.getD s 0 = 38
  · have e : sgA (T.getD s 0) (T.getD (s + 1) 0) = 1 := by unfold sgA; rw [if_pos v0]
    rw [e]
    exact (ev_mark0 rfl rfl (lt_of rfl) (ev_branch rfl (lt_of rfl) (alt_hit (ne_of rfl) (by decide) (one_hit (f := 164) (c := 38) rfl rfl rfl rfl rfl rfl (lt_of rfl) rfl rfl rfl (lt_of rfl) (by decide) hI v0)))).le (by omega)
  · have e : sgA (T.getD s 0) (T.getD (s + 1) 0) = sgl (T.getD s 0) (T.getD (s + 1) 0) := by unfold sgA; rw [if_neg v0]
    rw [e] at h ⊢
    exact (ev_mark0 rfl rfl (lt_of rfl) (ev_branch rfl (lt_of rfl) (alt_miss (R₁ := RA s) (ne_of rfl) (by decide) (one_no (c := 38) rfl rfl rfl rfl (lt_of rfl) hI v0) fun _ mk hI' _ hI => chA_alt_hit hI h))).le (by omega)
theorem chr_tries {s : Nat} (hS : ∀ c ∈ T, c ∈ sig) (hl : s < T.length) (h : inChr (T.getD s 0) = true) : Tries (cxC T st ls) 96 s :=
  tries_set rfl rfl hl fun sn => by
    have := st_chr (mem_getD hS hl) sn
    rw [h] at this
    rw [toArray_getD]; exact this
theorem chr_skips {s : Nat} (hS : ∀ c ∈ T, c ∈ sig) (hl : s < T.length) (h : inChr (T.getD s 0) = false) : Skips (cxC T st ls) 96 s :=
  skips_set rfl rfl hl (fun sn => by
    have := st_chr (mem_getD hS hl) sn
    rw [h] at this
    rw [toArray_getD]; exact this) fun p sn hp => by
    obtain ⟨sn', e⟩ := st_chr (mem_getD hS hp) sn
    exact ⟨_, sn', by rw [toArray_getD]; exact e⟩
theorem chA_tries {s : Nat} (hS : ∀ c ∈ T, c ∈ sig) (hl : s < T.length) (h : inChA (T.getD s 0) = true) : Tries (cxD T st ls) 96 s :=
  tries_set rfl rfl hl fun sn => by
    have := st_chA (mem_getD hS hl) sn
    rw [h] at this
    rw [toArray_getD]; exact this
theorem chA_skips {s : Nat} (hS : ∀ c ∈ T, c ∈ sig) (hl : s < T.length) (h : inChA (T.getD s 0) = false) : Skips (cxD T st ls) 96 s :=
  skips_set rfl rfl hl (fun sn => by
    have := st_chA (mem_getD hS hl) sn
    rw [h] at this
    rw [toArray_getD]; exact this) fun p sn hp => by
    obtain ⟨sn', e⟩ := st_chA (mem_getD hS hp) sn
    exact ⟨_, sn', by rw [toArray_getD]; exact e⟩
theorem sgl_in (c0 c1 : Nat) : inChr c0 = true ↔ sgl c0 c1 ≠ 0 := by
  unfold inChr sgl
  by_cases h1 : c0 = 233
  · simp [h1]
  · by_cases h2 : c0 = 8834 ∨ c0 = 60 ∨ c0 = 62
    · rw [if_neg h1, if_pos h2]
      constructor
      · intro _; split <;> decide
      · intro _; simp; omega
    · rw [if_neg h1, if_neg h2]; simp; omega
theorem sgA_in (c0 c1 : Nat) : inChA c0 = true ↔ sgA c0 c1 ≠ 0 := by
  unfold sgA
  by_cases h : c0 = 38
  · simp [h, inChA]
  · rw [if_neg h, ← sgl_in]
    simp [inChA, inChr, h]
end
end Mine
end
section
open PySem hiding Frame run
open PySem.Sre
set_option maxRecDepth 100000
namespace Mine

def mlAny (u : List Nat) : Nat := if u.getD 0 0 = 38 ∧ refLen (u.drop 1) ≠ 0 then refLen (u.drop 1) + 2 else 0
def mlBare (u : List Nat) : Nat := if u.getD 0 0 = 60 ∨ u.getD 0 0 = 62 ∨ (u.getD 0 0 = 38 ∧ refLen (u.drop 1) = 0) then 1 else 0
def mlAmp (u : List Nat) : Nat := if inAmp (u.getD 0 0) then 1 else 0
def mlChr (u : List Nat) : Nat := sgl (u.getD 0 0) (u.getD 1 0)
def mlChA (u : List Nat) : Nat := sgA (u.getD 0 0) (u.getD 1 0)
def nBound : Nat := 2 ^ 60

/-- what the search with a code gives -/
def Srch (code : Array Nat) (ml ga gb : List Nat → Nat) : Prop :=
  ∀ (T : List Nat) (s0 : Nat), (∀ c ∈ T, c ∈ sig) → T.length ≤ 16777215 → s0 ≤ T.length →
    (∃ s1, s0 ≤ s1 ∧ s1 < T.length ∧ (∀ j, s0 ≤ j → j < s1 → ml (T.drop j) = 0) ∧ ml (T.drop s1) ≠ 0 ∧ s1 + ml (T.drop s1) ≤ T.length ∧
      ∃ n, n ≤ nBound ∧ Found (M.runFor n (forSearch code T.toArray 1 s0 T.length false)) s1 (s1 + ml (T.drop s1)) (s1 + ga (T.drop s1)) (s1 + gb (T.drop s1))) ∨
    ((∀ j, s0 ≤ j → j < T.length → ml (T.drop j) = 0) ∧ ∃ n, n ≤ nBound ∧ Gone (M.runFor n (forSearch code T.toArray 1 s0 T.length false)))

theorem first_or (P : Nat → Prop) [DecidablePred P] (s0 : Nat) : ∀ d, (∃ s1, s0 ≤ s1 ∧ s1 < s0 + d ∧ (∀ j, s0 ≤ j → j < s1 → ¬ P j) ∧ P s1) ∨ ∀ j, s0 ≤ j → j < s0 + d → ¬ P j
  | 0 => .inr fun j h1 h2 => by omega
  | d + 1 => by
    rcases first_or P s0 d with ⟨s1, h1, h2, h3, h4⟩ | h
    · exact .inl ⟨s1, h1, by omega, h3, h4⟩
    · by_cases hp : P (s0 + d)
      · exact .inl ⟨s0 + d, by omega, by omega, fun j a b => h j a b, hp⟩
      · refine .inr fun j h1 h2 => ?_
        by_cases e : j = s0 + d
        · rw [e]; exact hp
        · exact h j h1 (by omega)

theorem bound_ok {d K : Nat} (hd : d ≤ 16777217) (hK : K ≤ 20 * 16777216 + 100) : (d + 1) * (K + 2) ≤ nBound := by
  have : (d + 1) * (K + 2) ≤ 16777218 * (20 * 16777216 + 102) := Nat.mul_le_mul (by omega) (by omega)
  unfold nBound
  omega
theorem gone_say {m : M} (h : m = { m with answer := some false, frames := [], outcome := none }) : Gone (M.runFor 1 m) := by
  rw [h]; rfl

theorem endOk_room {p : Nat → Bool} {u : List Nat} (h : endOk p u ≠ 0) : endOk p u + 1 ≤ u.length := by
  unfold endOk at h ⊢
  split at h
  · rename_i hh
    rw [if_pos hh]
    have := hh.2
    rw [head_drop] at this
    omega
  · exact absurd rfl h
theorem refLen_room {u : List Nat} (h : refLen u ≠ 0) : refLen u + 1 ≤ u.length := by
  rcases ref_cases u with ⟨e, _⟩ | ⟨_, l0, k, e⟩ | ⟨_, _, l0, _, k, e⟩ | ⟨_, k, e⟩
  · exact absurd e h
  · have := endOk_room k; rw [List.length_drop] at this; omega
  · have := endOk_room k; rw [List.length_drop] at this; omega
  · have := endOk_room k; omega
theorem refLen_drop {T : List Nat} {s : Nat} (h : refLen (T.drop (s + 1)) ≠ 0) : s + 1 + refLen (T.drop (s + 1)) + 1 ≤ T.length := by
  have := refLen_room h
  rw [List.length_drop] at this
  omega

theorem srch_any : Srch cdAny mlAny (fun _ => 1) (fun u => 1 + refLen (u.drop 1)) := by
  intro T s0 hS hb hs
  have ml_is : ∀ s, mlAny (T.drop s) = if T.getD s 0 = 38 ∧ refLen (T.drop (s + 1)) ≠ 0 then refLen (T.drop (s + 1)) + 2 else 0 := fun s => by
    unfold mlAny; rw [drop_getD0, List.drop_drop]
  have ml_pos : ∀ s, mlAny (T.drop s) ≠ 0 → T.getD s 0 = 38 ∧ refLen (T.drop (s + 1)) ≠ 0 ∧ mlAny (T.drop s) = refLen (T.drop (s + 1)) + 2 := fun s h => by
    rw [ml_is] at h ⊢
    by_cases c : T.getD s 0 = 38 ∧ refLen (T.drop (s + 1)) ≠ 0
    · rw [if_pos c]; exact ⟨c.1, c.2, rfl⟩
    · rw [if_neg c] at h; exact absurd rfl h
  have room : ∀ s, mlAny (T.drop s) ≠ 0 → s + mlAny (T.drop s) ≤ T.length ∧ s + 3 ≤ T.length := fun s h => by
    obtain ⟨_, h2, h3⟩ := ml_pos s h
    have := refLen_drop h2
    omega
  have missed : ∀ s st ls, mlAny (T.drop s) = 0 → Miss (cxA T st ls) (20 * T.length + 40) 9 s := fun s st ls h => by
    refine any_miss hS hb ?_
    rw [ml_is] at h
    by_cases c : T.getD s 0 = 38 ∧ refLen (T.drop (s + 1)) ≠ 0
    · rw [if_pos c] at h; omega
    · by_cases c1 : T.getD s 0 = 38
      · exact .inr (.inr (Classical.not_not.mp fun e => c ⟨c1, e⟩))
      · exact .inr (.inl c1)
  by_cases h3 : T.length - s0 < 3
  · have e : forSearch cdAny T.toArray 1 s0 T.length false = (cxA T s0 0).m 9 s0 s0 true #[none, none] (-1) (-1) [] 0 (some false) (({} : Seen).add 14) := by
      unfold forSearch
      have hc : (s0 > T.length ∨ T.length - s0 < (header cdAny).1) := .inr h3
      rw [if_pos (by simpa using hc)]
      rfl
    refine .inr ⟨fun j h1 h2 => Classical.not_not.mp fun h => by have := room j h; omega, 1, by decide, ?_⟩
    rw [e]; rfl
  · have e : forSearch cdAny T.toArray 1 s0 T.length false = ((cxA T 0 T.length).at s0 |>.m 9 s0 s0 true #[none, none] (-1) (-1) [] 0 none (({} : Seen).add 14)).attemptFrom s0 true := by
      unfold forSearch
      have hc : ¬ (s0 > T.length ∨ T.length - s0 < (header cdAny).1) := by
        show ¬ (s0 > T.length ∨ T.length - s0 < 3); omega
      rw [if_neg (by simpa using hc)]
      refine congrArg (fun m => M.attemptFrom m s0 true) ?_
      rfl
    rcases first_or (fun j => mlAny (T.drop j) ≠ 0) s0 (T.length - s0) with ⟨s1, h1, h2, h4, h5⟩ | h
    · obtain ⟨g1, g2, g3⟩ := ml_pos s1 h5
      have g4 := room s1 h5
      refine .inl ⟨s1, h1, by omega, fun j a b => Classical.not_not.mp (h4 j a b), h5, g4.1, ?_⟩
      obtain ⟨n, hn, q⟩ := search_hit (C := cxA T 0 T.length) (K := 20 * T.length + 40) (body := 9) (e := s1 + 1 + refLen (T.drop (s1 + 1)) + 1) (a := s1 + 1) (b := s1 + 1 + refLen (T.drop (s1 + 1))) (s1 - s0) s0 s0 s0 s0 true #[none, none] (-1) (-1) (({} : Seen).add 14) true rfl
        (by show s0 + (s1 - s0) ≤ T.length; omega) (fun j hj => .inr ⟨tries_plain ⟨rfl, Nat.ne_of_beq_eq_false rfl⟩, missed _ _ _ (Classical.not_not.mp (h4 (s0 + j) (by omega) (by omega)))⟩) (tries_plain ⟨rfl, Nat.ne_of_beq_eq_false rfl⟩)
        (by rw [show s0 + (s1 - s0) = s1 by omega]; exact any_hit hS hb (by omega) g1 g2)
      refine ⟨n, Nat.le_trans hn (bound_ok (by omega) (by omega)), ?_⟩
      rw [e]
      rw [show s0 + (s1 - s0) = s1 by omega] at q
      simp only [List.drop_drop, g3]
      rw [show s1 + (refLen (T.drop (s1 + 1)) + 2) = s1 + 1 + refLen (T.drop (s1 + 1)) + 1 by omega, show s1 + (1 + refLen (T.drop (s1 + 1))) = s1 + 1 + refLen (T.drop (s1 + 1)) by omega]
      exact q
    · refine .inr ⟨fun j h1 h2 => Classical.not_not.mp (h j h1 (by omega)), ?_⟩
      obtain ⟨n, hn, q⟩ := search_none (C := cxA T 0 T.length) (K := 20 * T.length + 40) (body := 9) (T.length - s0) s0 s0 s0 s0 true #[none, none] (-1) (-1) (({} : Seen).add 14) true rfl
        (by show s0 + (T.length - s0) = T.length; omega) (fun j hj => .inr (.inl ⟨tries_plain ⟨rfl, Nat.ne_of_beq_eq_false rfl⟩, missed _ _ _ (by
          by_cases hj' : s0 + j < T.length
          · exact Classical.not_not.mp (h (s0 + j) (by omega) (by omega))
          · exact Classical.not_not.mp fun e => by have := room _ e; omega)⟩))
      refine ⟨n, Nat.le_trans hn (bound_ok (by omega) (by omega)), ?_⟩
      rw [e]
      exact q

theorem srch_bare : Srch cdBare mlBare (fun _ => 0) (fun _ => 1) := by
  intro T s0 hS hb hs
  have ml_is : ∀ s, mlBare (T.drop s) = if T.getD s 0 = 60 ∨ T.getD s 0 = 62 ∨ (T.getD s 0 = 38 ∧ refLen (T.drop (s + 1)) = 0) then 1 else 0 := fun s => by
    unfold mlBare; rw [drop_getD0, List.drop_drop]
  have one : ∀ s, mlBare (T.drop s) ≠ 0 → bareAt T s ∧ mlBare (T.drop s) = 1 := fun s h => by
    rw [ml_is] at h ⊢
    by_cases c : T.getD s 0 = 60 ∨ T.getD s 0 = 62 ∨ (T.getD s 0 = 38 ∧ refLen (T.drop (s + 1)) = 0)
    · rw [if_pos c]
      refine ⟨⟨?_, c⟩, rfl⟩
      rcases c with c | c | c
      · exact lt_getD c (by decide)
      · exact lt_getD c (by decide)
      · exact lt_getD c.1 (by decide)
    · rw [if_neg c] at h; exact absurd rfl h
  have missed : ∀ s st ls, mlBare (T.drop s) = 0 → Miss (cxB T st ls) (20 * T.length + 60) 5 s := fun s st ls h => by
    refine bare_miss hS (by omega) fun c => ?_
    rw [ml_is, if_pos c.2] at h
    cases h
  by_cases h3 : T.length - s0 < 1
  · have e : forSearch cdBare T.toArray 1 s0 T.length false = (cxB T s0 0).m 5 s0 s0 true #[none, none] (-1) (-1) [] 0 (some false) (({} : Seen).add 14) := by
      unfold forSearch
      have hc : (s0 > T.length ∨ T.length - s0 < (header cdBare).1) := .inr h3
      rw [if_pos (by simpa using hc)]
      rfl
    refine .inr ⟨fun j h1 h2 => by omega, 1, by decide, ?_⟩
    rw [e]; rfl
  · have e : forSearch cdBare T.toArray 1 s0 T.length false = ((cxB T 0 T.length).at s0 |>.m 5 s0 s0 true #[none, none] (-1) (-1) [] 0 none (({} : Seen).add 14)).attemptFrom s0 true := by
      unfold forSearch
      have hc : ¬ (s0 > T.length ∨ T.length - s0 < (header cdBare).1) := by
        show ¬ (s0 > T.length ∨ T.length - s0 < 1); omega
      rw [if_neg (by simpa using hc)]
      refine congrArg (fun m => M.attemptFrom m s0 true) ?_
      rfl
    rcases first_or (fun j => mlBare (T.drop j) ≠ 0) s0 (T.length - s0) with ⟨s1, h1, h2, h4, h5⟩ | h
    · obtain ⟨g1, g2⟩ := one s1 h5
      refine .inl ⟨s1, h1, by omega, fun j a b => Classical.not_not.mp (h4 j a b), h5, by omega, ?_⟩
      obtain ⟨n, hn, q⟩ := search_hit (C := cxB T 0 T.length) (K := 20 * T.length + 60) (body := 5) (e := s1 + 1) (a := s1) (b := s1 + 1) (s1 - s0) s0 s0 s0 s0 true #[none, none] (-1) (-1) (({} : Seen).add 14) true rfl
        (by show s0 + (s1 - s0) ≤ T.length; omega) (fun j hj => .inr ⟨tries_plain ⟨rfl, Nat.ne_of_beq_eq_false rfl⟩, missed _ _ _ (Classical.not_not.mp (h4 (s0 + j) (by omega) (by omega)))⟩) (tries_plain ⟨rfl, Nat.ne_of_beq_eq_false rfl⟩)
        (by rw [show s0 + (s1 - s0) = s1 by omega]; exact bare_hit hS (by omega) g1)
      refine ⟨n, Nat.le_trans hn (bound_ok (by omega) (by omega)), ?_⟩
      rw [e, g2]
      rw [show s0 + (s1 - s0) = s1 by omega] at q
      exact q
    · refine .inr ⟨fun j h1 h2 => Classical.not_not.mp (h j h1 (by omega)), ?_⟩
      obtain ⟨n, hn, q⟩ := search_none (C := cxB T 0 T.length) (K := 20 * T.length + 60) (body := 5) (T.length - s0) s0 s0 s0 s0 true #[none, none] (-1) (-1) (({} : Seen).add 14) true rfl
        (by show s0 + (T.length - s0) = T.length; omega) (fun j hj => .inr (.inl ⟨tries_plain ⟨rfl, Nat.ne_of_beq_eq_false rfl⟩, missed _ _ _ (by
          by_cases hj' : s0 + j < T.length
          · exact Classical.not_not.mp (h (s0 + j) (by omega) (by omega))
          · exact Classical.not_not.mp fun e => by have := (one _ e).1.1; omega)⟩))
      refine ⟨n, Nat.le_trans hn (bound_ok (by omega) (by omega)), ?_⟩
      rw [e]
      exact q

/-- the codes that open with a set of first signs -/
theorem srch_set {code : Array Nat} {body : Nat} {ml : List Nat → Nat} {K : Nat} (hK : K ≤ 1000)
    (he : ∀ (T : List Nat) (s0 : Nat), T.length - s0 < 1 → forSearch code T.toArray 1 s0 T.length false = (Cx.mk code T.toArray T.length s0 0).m body s0 s0 true #[none, none] (-1) (-1) [] 0 (some false) (({} : Seen).add 14))
    (hf : ∀ (T : List Nat) (s0 : Nat), ¬ (s0 > T.length ∨ T.length - s0 < 1) → forSearch code T.toArray 1 s0 T.length false = (((Cx.mk code T.toArray T.length 0 T.length).at s0).m body s0 s0 true #[none, none] (-1) (-1) [] 0 none (({} : Seen).add 14)).attemptFrom s0 true)
    (h1 : ops[code.getD 0 0]? = some .INFO) (h4 : code.getD 2 0 = 4)
    (tr : ∀ (T : List Nat) (s : Nat), (∀ c ∈ T, c ∈ sig) → s < T.length → ml (T.drop s) ≠ 0 → Tries (Cx.mk code T.toArray T.length 0 T.length) body s)
    (sk : ∀ (T : List Nat) (s : Nat), (∀ c ∈ T, c ∈ sig) → s < T.length → ml (T.drop s) = 0 → Skips (Cx.mk code T.toArray T.length 0 T.length) body s)
    (hit : ∀ (T : List Nat) (s : Nat), (∀ c ∈ T, c ∈ sig) → s < T.length → ml (T.drop s) ≠ 0 → s + ml (T.drop s) ≤ T.length ∧ Hit (Cx.mk code T.toArray T.length 0 T.length) K body s (s + ml (T.drop s)) s (s + ml (T.drop s))) :
    Srch code ml (fun _ => 0) ml := by
  intro T s0 hS hb hs
  by_cases h3 : T.length - s0 < 1
  · refine .inr ⟨fun j h1 h2 => by omega, 1, by decide, ?_⟩
    rw [he T s0 h3]; rfl
  · have e := hf T s0 (by omega)
    rcases first_or (fun j => ml (T.drop j) ≠ 0) s0 (T.length - s0) with ⟨s1, g1, g2, g4, g5⟩ | h
    · have g6 := hit T s1 hS (by omega) g5
      refine .inl ⟨s1, g1, by omega, fun j a b => Classical.not_not.mp (g4 j a b), g5, g6.1, ?_⟩
      obtain ⟨n, hn, q⟩ := search_hit (C := Cx.mk code T.toArray T.length 0 T.length) (K := K) (body := body) (e := s1 + ml (T.drop s1)) (a := s1) (b := s1 + ml (T.drop s1)) (s1 - s0) s0 s0 s0 s0 true #[none, none] (-1) (-1) (({} : Seen).add 14) true rfl
        (by show s0 + (s1 - s0) ≤ T.length; omega) (fun j hj => .inl (sk T _ hS (by omega) (Classical.not_not.mp (g4 (s0 + j) (by omega) (by omega))))) (tr T _ hS (by omega) (by rw [show s0 + (s1 - s0) = s1 by omega]; exact g5))
        (by rw [show s0 + (s1 - s0) = s1 by omega]; exact g6.2)
      refine ⟨n, Nat.le_trans hn (bound_ok (by omega) (by omega)), ?_⟩
      rw [e]
      rw [show s0 + (s1 - s0) = s1 by omega] at q
      exact q
    · refine .inr ⟨fun j h1 h2 => Classical.not_not.mp (h j h1 (by omega)), ?_⟩
      obtain ⟨n, hn, q⟩ := search_none (C := Cx.mk code T.toArray T.length 0 T.length) (K := K) (body := body) (T.length - s0) s0 s0 s0 s0 true #[none, none] (-1) (-1) (({} : Seen).add 14) true rfl
        (by show s0 + (T.length - s0) = T.length; omega) (fun j hj => by
          by_cases hj' : s0 + j < T.length
          · exact .inl ⟨sk T _ hS hj' (Classical.not_not.mp (h (s0 + j) (by omega) (by omega))), by omega⟩
          · have : s0 + j = T.length := by omega
            rw [this]
            exact .inr (.inr (stops_set h1 h4)))
      refine ⟨n, Nat.le_trans hn (bound_ok (by omega) (by omega)), ?_⟩
      rw [e]
      exact q
theorem header_amp : header cdAmp = (1, 15) := rfl
theorem header_chr : header cdChr = (1, 96) := rfl
theorem header_chA : header cdChA = (1, 96) := rfl
theorem srch_amp : Srch cdAmp mlAmp (fun _ => 0) mlAmp := by
  refine srch_set (body := 15) (K := 10) (by decide) (fun T s0 h => ?_) (fun T s0 h => ?_) rfl rfl (fun T s hS hl h => ?_) (fun T s hS hl h => ?_) (fun T s hS hl h => ?_)
  · unfold forSearch
    have hc : (s0 > T.length ∨ T.length - s0 < (header cdAmp).1) := .inr h
    rw [if_pos (by simpa using hc)]
    rfl
  · unfold forSearch
    have hc : ¬ (s0 > T.length ∨ T.length - s0 < (header cdAmp).1) := h
    rw [if_neg (by simpa using hc)]
    refine congrArg (fun m => M.attemptFrom m s0 true) ?_
    rfl
  · unfold mlAmp at h
    rw [drop_getD0] at h
    by_cases c : inAmp (T.getD s 0) = true
    · exact amp_tries hS hl c
    · rw [if_neg c] at h; exact absurd rfl h
  · unfold mlAmp at h
    rw [drop_getD0] at h
    by_cases c : inAmp (T.getD s 0) = true
    · rw [if_pos c] at h; cases h
    · exact amp_skips hS hl (by simpa using c)
  · unfold mlAmp at h ⊢
    rw [drop_getD0] at h ⊢
    by_cases c : inAmp (T.getD s 0) = true
    · rw [if_pos c]
      exact ⟨by omega, amp_hit hS hl c⟩
    · rw [if_neg c] at h; exact absurd rfl h
theorem sgl_room {T : List Nat} {s : Nat} (_h : sgl (T.getD s 0) (T.getD (s + 1) 0) ≠ 0) (hl : s < T.length) : s + sgl (T.getD s 0) (T.getD (s + 1) 0) ≤ T.length := by
  unfold sgl
  split
  · omega
  · split
    · split
      · rename_i e; have := lt_getD e (by decide); omega
      · omega
    · omega
theorem srch_chr : Srch cdChr mlChr (fun _ => 0) mlChr := by
  have is : ∀ (T : List Nat) (s : Nat), mlChr (T.drop s) = sgl (T.getD s 0) (T.getD (s + 1) 0) := fun T s => by unfold mlChr; rw [drop_getD0, getD_drop]
  refine srch_set (body := 96) (K := 110) (by decide) (fun T s0 h => ?_) (fun T s0 h => ?_) rfl rfl (fun T s hS hl h => ?_) (fun T s hS hl h => ?_) (fun T s hS hl h => ?_)
  · unfold forSearch
    have hc : (s0 > T.length ∨ T.length - s0 < (header cdChr).1) := .inr h
    rw [if_pos (by simpa using hc)]
    rfl
  · unfold forSearch
    have hc : ¬ (s0 > T.length ∨ T.length - s0 < (header cdChr).1) := h
    rw [if_neg (by simpa using hc)]
    refine congrArg (fun m => M.attemptFrom m s0 true) ?_
    rfl
  · rw [is] at h
    exact chr_tries hS hl ((sgl_in _ _).mpr h)
  · rw [is] at h
    refine chr_skips hS hl ?_
    cases c : inChr (T.getD s 0) with
    | false => rfl
    | true => exact absurd h ((sgl_in _ _).mp c)
  · rw [is] at h ⊢
    exact ⟨sgl_room h hl, chr_hit h⟩
theorem srch_chA : Srch cdChA mlChA (fun _ => 0) mlChA := by
  have is : ∀ (T : List Nat) (s : Nat), mlChA (T.drop s) = sgA (T.getD s 0) (T.getD (s + 1) 0) := fun T s => by unfold mlChA; rw [drop_getD0, getD_drop]
  refine srch_set (body := 96) (K := 130) (by decide) (fun T s0 h => ?_) (fun T s0 h => ?_) rfl rfl (fun T s hS hl h => ?_) (fun T s hS hl h => ?_) (fun T s hS hl h => ?_)
  · unfold forSearch
    have hc : (s0 > T.length ∨ T.length - s0 < (header cdChA).1) := .inr h
    rw [if_pos (by simpa using hc)]
    rfl
  · unfold forSearch
    have hc : ¬ (s0 > T.length ∨ T.length - s0 < (header cdChA).1) := h
    rw [if_neg (by simpa using hc)]
    refine congrArg (fun m => M.attemptFrom m s0 true) ?_
    rfl
  · rw [is] at h
    exact chA_tries hS hl ((sgA_in _ _).mpr h)
  · rw [is] at h
    refine chA_skips hS hl ?_
    cases c : inChA (T.getD s 0) with
    | false => rfl
    | true => exact absurd h ((sgA_in _ _).mp c)
  · rw [is] at h ⊢
    refine ⟨?_, chA_hit h⟩
    by_cases c : T.getD s 0 = 38
    · have : sgA (T.getD s 0) (T.getD (s + 1) 0) = 1 := by unfold sgA; rw [if_pos c]
      omega
    · have : sgA (T.getD s 0) (T.getD (s + 1) 0) = sgl (T.getD s 0) (T.getD (s + 1) 0) := by unfold sgA; rw [if_neg c]
      rw [this] at h ⊢
      exact sgl_room h hl
end Mine
end
section
open PySem PySem.Sre
namespace Mine
/-- the walk that writes cb at each match -/
def subF (ml : List Nat → Nat) (cb : List Nat → List Nat) : Nat → List Nat → List Nat
  | 0, _ => []
  | _ + 1, [] => []
  | n + 1, c :: r => if ml (c :: r) = 0 then c :: subF ml cb n r else cb (c :: r) ++ subF ml cb n ((c :: r).drop (ml (c :: r)))
def subW (ml : List Nat → Nat) (cb : List Nat → List Nat) (u : List Nat) : List Nat := subF ml cb u.length u
section
variable {ml : List Nat → Nat} {cb : List Nat → List Nat}
theorem subF_nil (n : Nat) : subF ml cb n [] = [] := by cases n <;> rfl
theorem subF_fuel : ∀ (n m : Nat) (u : List Nat), u.length ≤ n → u.length ≤ m → subF ml cb n u = subF ml cb m u
  | 0, m, u, h, _ => by
    have : u = [] := List.length_eq_zero_iff.mp (by omega)
    subst this; rw [subF_nil, subF_nil]
  | n + 1, 0, u, _, h => by
    have : u = [] := List.length_eq_zero_iff.mp (by omega)
    subst this; rw [subF_nil, subF_nil]
  | n + 1, m + 1, [], _, _ => rfl
  | n + 1, m + 1, c :: r, h1, h2 => by
    simp only [List.length_cons] at h1 h2
    unfold subF
    by_cases h : ml (c :: r) = 0
    · rw [if_pos h, if_pos h, subF_fuel n m r (by omega) (by omega)]
    · rw [if_neg h, if_neg h, subF_fuel n m _ (by rw [List.length_drop, List.length_cons]; omega) (by rw [List.length_drop, List.length_cons]; omega)]
theorem subW_nil : subW ml cb [] = [] := rfl
theorem subW_skip1 {c : Nat} {r : List Nat} (h : ml (c :: r) = 0) : subW ml cb (c :: r) = c :: subW ml cb r := by
  unfold subW
  rw [List.length_cons]
  conv => lhs; unfold subF
  rw [if_pos h]
theorem subW_hit {u : List Nat} (hu : u ≠ []) (h : ml u ≠ 0) : subW ml cb u = cb u ++ subW ml cb (u.drop (ml u)) := by
  match u, hu with
  | c :: r, _ =>
    unfold subW
    rw [List.length_cons]
    conv => lhs; unfold subF
    rw [if_neg h]
    congr 1
    exact subF_fuel _ _ _ (by rw [List.length_drop, List.length_cons]; omega) (Nat.le_refl _)
theorem subW_skip {T : List Nat} : ∀ (d s0 : Nat), s0 + d ≤ T.length → (∀ j, s0 ≤ j → j < s0 + d → ml (T.drop j) = 0) → subW ml cb (T.drop s0) = (T.drop s0).take d ++ subW ml cb (T.drop (s0 + d))
  | 0, s0, _, _ => by simp
  | d + 1, s0, hl, h => by
    have hlt : s0 < T.length := by omega
    have e : T.drop s0 = T[s0] :: T.drop (s0 + 1) := List.drop_eq_getElem_cons hlt
    have h0 := h s0 (Nat.le_refl _) (by omega)
    rw [e] at h0 ⊢
    rw [subW_skip1 h0, List.take_succ_cons, List.cons_append, subW_skip d (s0 + 1) (by omega) fun j a b => h j (by omega) (by omega), show s0 + 1 + d = s0 + (d + 1) by omega]
theorem subW_none {T : List Nat} {s0 : Nat} (hs : s0 ≤ T.length) (h : ∀ j, s0 ≤ j → j < T.length → ml (T.drop j) = 0) : subW ml cb (T.drop s0) = T.drop s0 := by
  rw [subW_skip (T.length - s0) s0 (by omega) fun j a b => h j a (by omega), show s0 + (T.length - s0) = T.length by omega, List.drop_length, subW_nil, List.append_nil, List.take_of_length_le (by rw [List.length_drop]; omega)]
theorem subW_found {T : List Nat} {s0 s1 : Nat} (h1 : s0 ≤ s1) (h2 : s1 < T.length) (h : ∀ j, s0 ≤ j → j < s1 → ml (T.drop j) = 0) (hm : ml (T.drop s1) ≠ 0) :
    subW ml cb (T.drop s0) = (T.drop s0).take (s1 - s0) ++ (cb (T.drop s1) ++ subW ml cb (T.drop (s1 + ml (T.drop s1)))) := by
  rw [subW_skip (s1 - s0) s0 (by omega) fun j a b => h j a (by omega), show s0 + (s1 - s0) = s1 by omega, subW_hit (fun e => by rw [List.drop_eq_nil_iff] at e; omega) hm, List.drop_drop]
end
theorem extract_take (T : List Nat) (a b : Nat) : (T.toArray.extract a b).toList = (T.drop a).take (b - a) := by
  simp [List.extract_eq_take_drop]
end Mine
end
section
open PySem PySem.W PySem.Calls PyProof.Rows PyProof.V PySem.Spec
set_option maxRecDepth 100000
namespace Mine
theorem slot_sub : Slot "re.Pattern" "sub" "re.Pattern.sub" :=
  .of (owner := "re.Pattern") (n := "sub") (by rw [typeLookup_type, builtinLookup_eq_fast]; kernel_rfl) (by decide +kernel) (by decide +kernel) (by decide +kernel)
    (by first | exact .inl (by decide +kernel) | exact .inr (by decide +kernel)) (by rw [isSubtype_type]; kernel_rfl)
theorem entry_sub : entryFor table "re.Pattern.sub" = some Builtin.«re.Pattern.sub» := entryFor_of_tree (by kernel_rfl)
theorem entry_subl : entryFor table "re.Pattern.sub.loop" = some Builtin.«re.Pattern.sub.loop» := entryFor_of_tree (by kernel_rfl)
theorem args_sub (a b c : Value) : argsOk "re.Pattern.sub" ⟨[a, b, c], []⟩ := by unfold argsOk; kernel_rfl
theorem type_sub : typeOf (.builtin "re.Pattern.sub") = pure (.type "method_descriptor") := by show builtinType _ = _; rw [builtinType_eq_fast]; kernel_rfl
theorem plainAttrs_pat : PlainAttrs "re.Pattern" :=
  ⟨⟨"object.__getattribute__", by rw [typeLookup_type, builtinLookup_eq_fast]; kernel_rfl, by decide +kernel⟩, by rw [typeLookup_type, builtinLookup_eq_fast]; kernel_rfl⟩
theorem slot_group : Slot "re.Match" "group" "re.Match.group" :=
  .of (owner := "re.Match") (n := "group") (by rw [typeLookup_type, builtinLookup_eq_fast]; kernel_rfl) (by decide +kernel) (by decide +kernel) (by decide +kernel)
    (by first | exact .inl (by decide +kernel) | exact .inr (by decide +kernel)) (by rw [isSubtype_type]; kernel_rfl)
theorem entry_group : entryFor table "re.Match.group" = some Builtin.«re.Match.group» := entryFor_of_tree (by kernel_rfl)
theorem args_group (a b : Value) : argsOk "re.Match.group" ⟨[a, b], []⟩ := by unfold argsOk; kernel_rfl
theorem type_group : typeOf (.builtin "re.Match.group") = pure (.type "method_descriptor") := by show builtinType _ = _; rw [builtinType_eq_fast]; kernel_rfl
theorem plainAttrs_mat : PlainAttrs "re.Match" :=
  ⟨⟨"object.__getattribute__", by rw [typeLookup_type, builtinLookup_eq_fast]; kernel_rfl, by decide +kernel⟩, by rw [typeLookup_type, builtinLookup_eq_fast]; kernel_rfl⟩
theorem meth_call : typeLookup (.type "method") "__call__" = pure (some (.builtin "method.__call__")) := by rw [typeLookup_type, builtinLookup_eq_fast]; kernel_rfl
theorem str_sub_ba : isSubtype (.type "str") (.type "bytearray") = pure false := by rw [isSubtype_type]; kernel_rfl
theorem plain_sub : plainId "re.Pattern.sub" = true := by decide +kernel
theorem plain_subl : plainId "re.Pattern.sub.loop" = true := by decide +kernel
end Mine
end
section
open PySem PySem.W PySem.Calls PyProof.Rows PyProof.V PySem.Spec PySem.Sre
set_option maxRecDepth 100000
namespace Mine
open PySem.Builtin.Re
section
variable {M : Model} {A : Around} {E : Value → Shared → Prop} {s : Shared}

theorem runFor_stay {m : Sre.M} (h : m.outcome.isSome = true) (n : Nat) : Sre.M.runFor n m = m := by
  cases n with
  | zero => rfl
  | succ n => rw [Sre.M.runFor, if_pos h]
theorem drive_ok {Q : Sre.M → Shared → Prop} : ∀ (turns n : Nat) (m : Sre.M), 0 < turns → n ≤ 4 * turns → (Sre.M.runFor n m).outcome.isSome = true → Q (Sre.M.runFor n m) s → wpAny M A (reDrive turns m) Q E s
  | 0, _, _, h, _, _, _ => absurd h (Nat.lt_irrefl _)
  | turns + 1, n, m, _, hn, ho, hQ => by
    unfold reDrive
    show wpAny M A (if (Sre.M.runFor 4 m).outcome.isSome = true then pure (Sre.M.runFor 4 m) else do rule "sre.turn"; reDrive turns (Sre.M.runFor 4 m)) Q E s
    by_cases h4 : (Sre.M.runFor 4 m).outcome.isSome = true
    · rw [if_pos h4]
      have e : Sre.M.runFor n m = Sre.M.runFor 4 m := by
        by_cases h : 4 ≤ n
        · obtain ⟨k, rfl⟩ : ∃ k, n = 4 + k := ⟨n - 4, by omega⟩
          rw [runFor_add, runFor_stay h4]
        · obtain ⟨k, hk⟩ : ∃ k, 4 = n + k := ⟨4 - n, by omega⟩
          rw [hk, runFor_add, runFor_stay ho]
      rw [← e]
      exact wpAny_pure hQ
    · rw [if_neg h4]
      have h5 : 4 < n := by
        refine Nat.lt_of_not_le fun hle => h4 ?_
        obtain ⟨k, hk⟩ : ∃ k, 4 = n + k := ⟨4 - n, by omega⟩
        rw [hk, runFor_add, runFor_stay ho]; exact ho
      obtain ⟨k, rfl⟩ : ∃ k, n = 4 + k := ⟨n - 4, by omega⟩
      rw [runFor_add] at ho hQ
      exact wpAny_bind (wpAny_rule (drive_ok turns k _ (by omega) (by omega) ho hQ))

theorem rules_ok {Q : PUnit → Shared → Prop} (f : Nat → PUnit → Sem (ForInStep PUnit)) (hf : ∀ i (Q : ForInStep PUnit → Shared → Prop), Q (.yield ⟨⟩) s → wpAny M A (f i ⟨⟩) Q E s) : ∀ (l : List Nat), Q ⟨⟩ s → wpAny M A (forIn l (⟨⟩ : PUnit) f) Q E s
  | [], h => by rw [List.forIn_nil]; exact wpAny_pure h
  | i :: l, h => by
    rw [List.forIn_cons]
    exact wpAny_bind (hf i _ (rules_ok f hf l h))

theorem runToEnd_found {Q : Option Sre.M → Shared → Prop} {m : Sre.M} {n st e a b : Nat} (hn : n ≤ nBound) (h : Found (Sre.M.runFor n m) st e a b) (hQ : Q (some (Sre.M.runFor n m)) s) : wpAny M A (reRunToEnd m) Q E s := by
  unfold reRunToEnd
  refine wpAny_bind (drive_ok (2 ^ 64) n m (by decide) (Nat.le_trans hn (by decide)) (by rw [h.1]; rfl) ?_)
  refine wpAny_bind (rules_ok _ (fun i Q hq => ?_) _ ?_)
  · skip
    split
    · exact wpAny_bind (wpAny_rule (wpAny_pure hq))
    · exact wpAny_pure hq
  · rw [h.1]
    exact wpAny_pure hQ
theorem runToEnd_gone {Q : Option Sre.M → Shared → Prop} {m : Sre.M} {n : Nat} (hn : n ≤ nBound) (h : Gone (Sre.M.runFor n m)) (hQ : Q none s) : wpAny M A (reRunToEnd m) Q E s := by
  unfold reRunToEnd
  refine wpAny_bind (drive_ok (2 ^ 64) n m (by decide) (Nat.le_trans hn (by decide)) (by rw [h]; rfl) ?_)
  refine wpAny_bind (rules_ok _ (fun i Q hq => ?_) _ ?_)
  · skip
    split
    · exact wpAny_bind (wpAny_rule (wpAny_pure hq))
    · exact wpAny_pure hq
  · rw [h]
    exact wpAny_pure hQ
end
end Mine
end
section
open PySem PySem.W PySem.Calls PyProof.Rows PyProof.V PySem.Spec PySem.Sre
set_option maxRecDepth 100000
namespace Mine
open PySem.Builtin.Re

def PatAt (h : Heap) (P : Addr) (code : Array Nat) : Prop :=
  ∃ (o : Obj) (fs : Array Value) (c : Addr) (oc : Obj) (items : Array Value) (n : Nat), h.get? P = some o ∧ o.data = .fields fs ∧ reRawNat (fs.getD 6 .none) = 0 ∧ fs.getD 5 .none = .ref c ∧ reRawNat (fs.getD 2 .none) = 1 ∧
    h.get? c = some oc ∧ oc.data = .seq items n ∧ ((items.map reRawOf).map (·.toNat)) = code
theorem PatAt.keeps {h h' : Heap} {P : Addr} {code : Array Nat} (x : PatAt h P code) (k : ∀ b o, h.get? b = some o → h'.get? b = some o) : PatAt h' P code := by
  obtain ⟨o, fs, c, oc, items, n, h1, h2, h3, h4, h5, h6, h7, h8⟩ := x
  exact ⟨o, fs, c, oc, items, n, k _ _ h1, h2, h3, h4, h5, k _ _ h6, h7, h8⟩

abbrev tgt (P : Addr) (T : List Nat) (t : Tok) (code : Array Nat) : ReTarget := { pattern := .ref P, string := .str ⟨T.toArray⟩ t, code := code, text := T.toArray, kind := 0, groups := 1, pos := 0, lim := T.toArray.size }

section
variable {M : Model} {A : Around} {E : Value → Shared → Prop} {s : Shared}
theorem target_ok {P : Addr} {T : List Nat} {t : Tok} {code : Array Nat} {Q : ReTarget → Shared → Prop} (hp : PatAt s.heap P code) (h : Q (tgt P T t code) s) : wpAny M A (reWholeTarget (.ref P) (.str ⟨T.toArray⟩ t)) Q E s := by
  obtain ⟨o, fs, c, oc, items, n, h1, h2, h3, h4, h5, h6, h7, h8⟩ := hp
  unfold reWholeTarget fieldsOf
  refine wpAny_bind (wpAny_bind (wpAny_load h1 ?_))
  rw [h2]
  refine wpAny_pure ?_
  show wpAny M A (do
    let (text, kind) ← reTextOf (.str ⟨T.toArray⟩ t)
    if reRawNat (fs.getD 6 .none) == 0 && kind == 1 then raiseError "TypeError" "cannot use a string pattern on a bytes-like object"
    if reRawNat (fs.getD 6 .none) == 1 && kind == 0 then raiseError "TypeError" "cannot use a bytes pattern on a string-like object"
    reNoCollectionInside (.str ⟨T.toArray⟩ t) kind
    pure { pattern := .ref P, string := .str ⟨T.toArray⟩ t, code := (← reRawItems (fs.getD 5 .none)).map (·.toNat), text, kind, groups := reRawNat (fs.getD 2 .none), pos := 0, lim := text.size }) Q E s
  refine wpAny_bind (m := reTextOf _) (wpAny_pure ?_)
  rw [h3]
  show wpAny M A (do
    reNoCollectionInside (.str ⟨T.toArray⟩ t) 0
    pure { pattern := .ref P, string := .str ⟨T.toArray⟩ t, code := (← reRawItems (fs.getD 5 .none)).map (·.toNat), text := T.toArray, kind := 0, groups := reRawNat (fs.getD 2 .none), pos := 0, lim := T.toArray.size }) Q E s
  refine wpAny_bind (m := reNoCollectionInside _ _) (wpAny_pure ?_)
  rw [h4, h5]
  unfold reRawItems seqItems?
  refine wpAny_bind (wpAny_bind (wpAny_bind (wpAny_load h6 ?_)))
  rw [h7]
  refine wpAny_pure ?_
  refine wpAny_pure (wpAny_pure ?_)
  have e : Array.map (fun x => x.toNat) (Array.map reRawOf ((some items).getD #[])) = code := h8
  rw [e]
  exact h
theorem slice_ok {T : List Nat} {a b : Nat} {Q : Value → Shared → Prop} (hb : T.length ≤ 16777215) (h : Q (.str ⟨((T.drop a).take (b - a)).toArray⟩ s.toks) { s with toks := s.toks + 1 }) : wpAny M A (reSlice T.toArray 0 a b) Q E s := by
  have e : T.toArray.extract a b = ((T.drop a).take (b - a)).toArray := by rw [← extract_take]
  show wpAny M A (mkStr ⟨T.toArray.extract a b⟩) Q E s
  rw [e]
  refine wpAny_mkStr h ?_
  show ((T.drop a).take (b - a)).toArray.size ≤ sizeLine
  rw [List.size_toArray, sizeLine_eq, List.length_take, List.length_drop]
  omega
end

abbrev matObj (T : List Nat) (t : Tok) (P tp : Addr) : Obj := { cls := .type "re.Match", data := .fields #[.str ⟨T.toArray⟩ t, .ref P, .int 0 0, .int T.length 0, .int 1 0, .ref tp] }
abbrev spanObj (st e a b : Nat) : Obj := { cls := .type "tuple", data := .seq #[.int st 0, .int e 0, .int a 0, .int b 0] }

section
variable {M : Model} {A : Around} {E : Value → Shared → Prop} {s : Shared} {h₀ : Heap} {L : Addr} {m : Str → Option Value} {news : List (Addr × Obj)}
theorem match_ok {P : Addr} {T : List Nat} {t : Tok} {mm : Sre.M} {st e a b : Nat} {Q : Value → Shared → Prop} (F : Fr h₀ L s.heap m) (N : News h₀ L s.heap news) (hf : Found mm st e a b) (hab : a ≤ b)
    (h : ∀ mo tp h', Fr h₀ L h' m → News h₀ L h' ((mo, matObj T t P tp) :: (tp, spanObj st e a b) :: news) → Q (.ref mo) { s with heap := h' }) :
    wpAny M A (reNewMatch (.ref P) (.str ⟨T.toArray⟩ t) 1 0 T.toArray.size mm) Q E s := by
  obtain ⟨f1, f2, f3, f4, f5, f6, f7, f8⟩ := hf
  have hd : decide (b < a) = false := decide_eq_false (by omega)
  have h1 : ((((1 : Nat) : Int)) ≤ 1) = True := eq_true (by decide)
  unfold reNewMatch
  simp only [show List.range 1 = [0] from rfl, List.any_cons, List.any_nil, List.flatMap_cons, List.flatMap_nil, Nat.mul_zero, Nat.zero_add, f4, f7, f8, h1, if_true, hd, Bool.and_false, Bool.or_false, Bool.false_eq_true, if_false, f2, f3, f5, List.append_nil]
  refine wpAny_bind (newTuple_N F N (fun h₁ F₁ N₁ => ?_))
  unfold newFields
  refine wpAny_newObj_type (h _ _ _ (F₁.push _) (News.push F₁ N₁ _))
end

theorem cat_join (ys : List Str) : (Str.join Str.empty ys).cps.toList = ys.flatMap (·.cps.toList) := by
  match ys with
  | [] => rfl
  | [x] => simp [Str.join]
  | x :: y :: r =>
    have ih := cat_join (y :: r)
    show (x ++ Str.empty ++ Str.join Str.empty (y :: r)).cps.toList = _
    rw [Str.cps_append, Str.cps_append, Array.toList_append, Array.toList_append, ih]
    show x.cps.toList ++ [] ++ _ = _
    rw [List.append_nil]; rfl
theorem snocStrs : ∀ {vs : List Value} {ys : List Str} {y : Str} {t : Tok}, StrsAre vs ys → StrsAre (vs ++ [.str y t]) (ys ++ [y])
  | _, _, _, _, .nil => .cons _ _ .nil
  | _, _, _, _, .cons y t r => .cons y t (snocStrs r)

section
variable {prog : Program} {w : World} {A : Around} {s : Shared} {h₀ : Heap} {L : Addr} {m : Str → Option Value} {news : List (Addr × Obj)}

theorem builtin_at {id : String} {args : Args} {b : Builtin} {R : Result → Shared → Prop} (hp : plainId id = true) (hb : entryFor table id = some b)
    (h : wpAny (model prog w) A.in1 (b args) (fun fin s' => match fin with | .done f => R (.ok f) s' | .again c' => c'.quiet = true ∧ codeAny (model prog w) A c' R s') (fun e s' => R (.error e) s') s) :
    codeAny (model prog w) A (.builtin id args) R s :=
  codeAny_builtin hb (by rw [Around.under_plainId hp]; exact h)
/-- one more item on the list of pieces -/
theorem push_ok {M : Model} {A : Around} {E : Value → Shared → Prop} {s : Shared} {l : Addr} {items : Array Value} {k : Nat} {v : Value} {Q : Unit → Shared → Prop} (F : Fr h₀ L s.heap m) (N : News h₀ L s.heap ((l, listOf items k) :: news)) (hl : ∀ p ∈ news, p.1 ≠ l) (hz : items.size ≤ 16777215)
    (h : ∀ h', Fr h₀ L h' m → News h₀ L h' ((l, listOf (items.push v) (k + 1)) :: news) → Q () { s with heap := h' }) : wpAny M A (updateSeq l (·.push v)) Q E s := by
  have D := N (l, listOf items k) (.head _)
  have U := news_upd (pre := []) (post := news) (d := l) (o := listOf items k) (o' := listOf (items.push v) (k + 1)) (f := Obj.mapSeq (·.push v)) F N (fun _ h => nomatch h) hl (by
    unfold Obj.mapSeq
    simp) rfl
  refine wpAny_updateSeq D.1 rfl (h _ U.1 U.2) (by rw [sizeLine_eq]; omega) (by rw [sizeLine_eq, Array.size_push]; omega)

theorem loop_ok {R : Result → Shared → Prop} {q P : Addr} {qo : Obj} {T : List Nat} {t0 : Tok} {code : Array Nat} {ml ga gb : List Nat → Nat} {cb : List Nat → List Nat}
    (hS : ∀ c ∈ T, c ∈ sig) (hb : T.length ≤ 2000) (hsr : Srch code ml ga gb) (hgab : ∀ u, ga u ≤ gb u) (hcl : ∀ u, u.length ≤ T.length → (cb u).length ≤ T.length + 100) (hP : PatAt h₀ P code) (hq : (q, qo) ∈ news)
    (hcb : ∀ (s : Shared) (news' : List (Addr × Obj)) (mo tp : Addr) (s1 : Nat) (Q : Value → Shared → Prop), Fr h₀ L s.heap m → News h₀ L s.heap ((mo, matObj T t0 P tp) :: (tp, spanObj s1 (s1 + ml (T.drop s1)) (s1 + ga (T.drop s1)) (s1 + gb (T.drop s1))) :: news') → (q, qo) ∈ news' →
      s1 < T.length → ml (T.drop s1) ≠ 0 → s1 + ml (T.drop s1) ≤ T.length → (∀ t h' tk', Fr h₀ L h' m → News h₀ L h' news' → Q (.str ⟨(cb (T.drop s1)).toArray⟩ t) { s with heap := h', toks := tk' }) →
      wpAny (model prog w) A.in1 (call (.ref q) [.ref mo]) Q (fun e s' => R (.error e) s') s)
    (hR : ∀ t h' tk', Fr h₀ L h' m → News h₀ L h' news → R (.ok (.ret (.str ⟨(subW ml cb T).toArray⟩ t))) { s with heap := h', toks := tk' }) :
    ∀ (d st : Nat) (h : Heap) (tk : Nat) (n : Int) (l : Addr) (items : Array Value) (k : Nat) (ys : List Str), T.length - st ≤ d → st ≤ T.length → Fr h₀ L h m → News h₀ L h ((l, listOf items k) :: news) → (∀ p ∈ news, p.1 < l) →
      StrsAre items.toList ys → ys.length ≤ 2 * st → (∀ y ∈ ys, y.length ≤ T.length + 100) → ys.flatMap (·.cps.toList) ++ subW ml cb (T.drop st) = subW ml cb T →
      codeAny (model prog w) A (.builtin "re.Pattern.sub.loop" ⟨[.ref P, .str ⟨T.toArray⟩ t0, .ref q, rawInt 1, rawInt 0, rawInt n, rawInt st, rawInt st, .bool false, .ref l, .bool false], []⟩) R { s with heap := h, toks := tk } := by
  intro d
  induction d using Nat.strongRecOn with
  | ind d ih' =>
    have ih := fun (st' : Nat) (h : Heap) (tk : Nat) (n : Int) (l : Addr) (items : Array Value) (k : Nat) (ys : List Str) (hd : T.length - st' < d) => ih' (T.length - st') hd st' h tk n l items k ys (Nat.le_refl _)
    intro st h tk n l items k ys hd hst F N hl hi hy hyl hcat
    have hisz : items.size = ys.length := by have := hi.length; simpa using this
    refine builtin_at plain_subl entry_subl ?_
    unfold Builtin.«re.Pattern.sub.loop»
    simp only [rawInt, show ((1 : Int) == 0) = false from rfl, show ((0 : Int) != 0) = false from rfl, show ((1 : Int) == 1) = true from rfl, Bool.false_and, Bool.false_eq_true, if_false, if_true, Int.toNat_natCast]
    refine wpAny_bind (target_ok (hP.keeps F.keep) ?_)
    refine wpAny_bind ?_
    show wpAny _ _ (reRunToEnd (forSearch code T.toArray 1 st T.toArray.size false)) _ _ _
    rw [List.size_toArray]
    rcases hsr T st hS (by omega) hst with ⟨s1, a1, a2, a3, a4, a5, N1, a6, a7⟩ | ⟨a1, N1, a2, a3⟩
    · refine runToEnd_found a6 a7 ?_
      generalize M.runFor N1 (forSearch code T.toArray 1 st T.length false) = mm at a7 ⊢
      dsimp only
      have hne : ((mm.handed == mm.start) : Bool) = false := by
        rw [a7.2.2.1, a7.2.1]; simp; omega
      have es := a7.2.1
      have rest : ∀ (h : Heap) (tk : Nat) (items : Array Value) (k : Nat) (ys : List Str), Fr h₀ L h m → News h₀ L h ((l, listOf items k) :: news) → StrsAre items.toList ys → ys.length ≤ 2 * st + 1 → (∀ y ∈ ys, y.length ≤ T.length + 100) →
          ys.flatMap (·.cps.toList) ++ (cb (T.drop s1) ++ subW ml cb (T.drop (s1 + ml (T.drop s1)))) = subW ml cb T →
          wpAny (model prog w) A.in1 (do
            let found ← reNewMatch (.ref P) (.str ⟨T.toArray⟩ t0) 1 0 T.toArray.size mm
            let item ← holding [found] (call (.ref q) [found])
            if (item != Value.none) = true then do
              updateSeq l fun x => x.push item
              again (.builtin "re.Pattern.sub.loop" ⟨[.ref P, .str ⟨T.toArray⟩ t0, .ref q, .int 1 0, .int 0 0, .int (n + 1) 0, .int mm.handed 0, .int mm.handed 0, .bool (mm.handed == mm.start), .ref l, .bool false], []⟩)
            else again (.builtin "re.Pattern.sub.loop" ⟨[.ref P, .str ⟨T.toArray⟩ t0, .ref q, .int 1 0, .int 0 0, .int (n + 1) 0, .int mm.handed 0, .int mm.handed 0, .bool (mm.handed == mm.start), .ref l, .bool false], []⟩))
            (fun fin s' => match fin with | .done f => R (.ok f) s' | .again c' => c'.quiet = true ∧ codeAny (model prog w) A c' R s') (fun e s' => R (.error e) s') { s with heap := h, toks := tk } := by
        intro h tk items k ys F N hi hy hyl hcat
        have hisz : items.size = ys.length := by have := hi.length; simpa using this
        refine wpAny_bind (match_ok F N a7 (by have := hgab (T.drop s1); omega) fun mo tp h₁ F₁ N₁ => ?_)
        refine wpAny_bind (wpAny_holding (hcb _ ((l, listOf items k) :: news) mo tp s1 _ F₁ N₁ (.tail _ hq) a2 a4 a5 fun t h₂ tk₂ F₂ N₂ => ?_))
        rw [if_pos (show ((Value.str ⟨(cb (T.drop s1)).toArray⟩ t != Value.none) : Bool) = true from rfl)]
        refine wpAny_bind (push_ok F₂ N₂ (fun p hp => Nat.ne_of_lt (hl p hp)) (by omega) fun h₃ F₃ N₃ => ?_)
        refine wpAny_pure ⟨Code.quiet_builtin _ (by decide +kernel), ?_⟩
        have e3 := a7.2.2.1
        rw [hne, e3]
        refine ih (s1 + ml (T.drop s1)) h₃ tk₂ (n + 1) l _ (k + 1) (ys ++ [⟨(cb (T.drop s1)).toArray⟩]) (by omega) a5 F₃ N₃ hl (by rw [Array.toList_push]; exact snocStrs hi) ?_ ?_ ?_
        · rw [List.length_append, List.length_singleton]; omega
        · intro y hy'
          rcases List.mem_append.mp hy' with hy' | hy'
          · exact hyl y hy'
          · rw [List.mem_singleton.mp hy']
            show (cb (T.drop s1)).toArray.size ≤ _
            rw [List.size_toArray]
            exact hcl _ (by rw [List.length_drop]; omega)
        · rw [List.flatMap_append, List.append_assoc, ← hcat]
          simp
      have hw := subW_found (cb := cb) a1 a2 a3 a4
      by_cases hlt : st < mm.start
      · rw [if_pos hlt]
        refine wpAny_bind (slice_ok (by omega) ?_)
        refine wpAny_bind (push_ok F N (fun p hp => Nat.ne_of_lt (hl p hp)) (by omega) fun h₃ F₃ N₃ => ?_)
        refine rest h₃ _ _ _ (ys ++ [⟨((T.drop st).take (mm.start - st)).toArray⟩]) F₃ N₃ (by rw [Array.toList_push]; exact snocStrs hi) ?_ ?_ ?_
        · rw [List.length_append, List.length_singleton]; omega
        · intro y hy'
          rcases List.mem_append.mp hy' with hy' | hy'
          · exact hyl y hy'
          · rw [List.mem_singleton.mp hy']
            show ((T.drop st).take (mm.start - st)).toArray.size ≤ _
            rw [List.size_toArray, List.length_take, List.length_drop]
            omega
        · rw [← hcat, hw, es]
          simp
      · rw [if_neg hlt]
        refine rest h tk items k ys F N hi (by omega) hyl ?_
        have : s1 - st = 0 := by omega
        rw [← hcat, hw, this]
        simp
    · refine runToEnd_gone a2 a3 ?_
      dsimp only
      have hw := subW_none (cb := cb) hst a1
      have rest : ∀ (h : Heap) (tk : Nat) (items : Array Value) (k : Nat) (ys : List Str), Fr h₀ L h m → News h₀ L h ((l, listOf items k) :: news) → StrsAre items.toList ys → ys.length ≤ 2 * T.length + 1 → (∀ y ∈ ys, y.length ≤ T.length + 100) →
          ys.flatMap (·.cps.toList) = subW ml cb T →
          wpAny (model prog w) A.in1 (do
            let joiner ← reSlice T.toArray 0 0 0
            let z ← seqItems? (.ref l)
            if (z.getD #[]).isEmpty = true then do
              let y ← pure joiner
              ret y
            else do
              let y ← call (.builtin (if ((0 : Nat) == 0) = true then "str.join" else "bytes.join")) [joiner, .ref l]
              ret y)
            (fun fin s' => match fin with | .done f => R (.ok f) s' | .again c' => c'.quiet = true ∧ codeAny (model prog w) A c' R s') (fun e s' => R (.error e) s') { s with heap := h, toks := tk } := by
        intro h tk items k ys F N hi hy hyl hcat
        have hisz : items.size = ys.length := by have := hi.length; simpa using this
        have D := N (l, listOf items k) (.head _)
        refine wpAny_bind (slice_ok (by omega) ?_)
        unfold seqItems?
        refine wpAny_bind (wpAny_bind (wpAny_load D.1 (wpAny_pure ?_)))
        have eg : (some items).getD #[] = items := rfl
        rw [eg]
        by_cases he : items.isEmpty = true
        · rw [if_pos he]
          refine wpAny_bind (wpAny_pure (wpAny_pure ?_))
          have h0 : ys = [] := by
            have : items.size = 0 := by simpa using he
            exact List.length_eq_zero_iff.mp (by omega)
          subst h0
          have : (T.drop 0).take (0 - 0) = subW ml cb T := by rw [← hcat]; simp
          rw [this]
          exact hR _ _ _ F fun p hp => N p (.tail _ hp)
        · rw [if_neg he]
          have hsum := StrLaws.sumLen_le ys hyl
          refine wpAny_bind (join_list ⟨_, D.1, rfl, _, rfl⟩ hi ?_ fun t' k' => wpAny_pure ?_)
          · have e0 : (⟨((T.drop 0).take (0 - 0)).toArray⟩ : Str).length = 0 := by show ((T.drop 0).take (0 - 0)).toArray.size = 0; simp
            rw [e0, Nat.mul_zero, Nat.add_zero]
            refine Nat.le_trans hsum ?_
            have : ys.length * (T.length + 100) ≤ 4001 * 2100 := Nat.mul_le_mul (by omega) (by omega)
            omega
          · have e0 : (⟨((T.drop 0).take (0 - 0)).toArray⟩ : Str) = Str.empty := by simp [Str.empty]
            have e1 : Txt.join ⟨((T.drop 0).take (0 - 0)).toArray⟩ ys = ⟨(subW ml cb T).toArray⟩ := by
              rw [e0]
              show Builtin.Str.glued _ _ = _
              rw [StrLaws.glued_eq_join, ← hcat, ← cat_join]
            rw [e1]
            exact hR _ _ _ F fun p hp => N p (.tail _ hp)
      by_cases hlt : st < T.toArray.size
      · rw [if_pos hlt]
        refine wpAny_bind (slice_ok (by omega) ?_)
        refine wpAny_bind (push_ok F N (fun p hp => Nat.ne_of_lt (hl p hp)) (by omega) fun h₃ F₃ N₃ => ?_)
        rw [List.size_toArray] at hlt
        refine rest h₃ _ _ _ (ys ++ [⟨((T.drop st).take (T.toArray.size - st)).toArray⟩]) F₃ N₃ (by rw [Array.toList_push]; exact snocStrs hi) ?_ ?_ ?_
        · rw [List.length_append, List.length_singleton]; omega
        · intro y hy'
          rcases List.mem_append.mp hy' with hy' | hy'
          · exact hyl y hy'
          · rw [List.mem_singleton.mp hy']
            show ((T.drop st).take (T.toArray.size - st)).toArray.size ≤ _
            rw [List.size_toArray, List.length_take, List.length_drop]
            omega
        · rw [← hcat, hw]
          simp [List.take_of_length_le]
      · rw [if_neg hlt]
        rw [List.size_toArray] at hlt
        refine rest h tk items k ys F N hi (by omega) hyl ?_
        rw [← hcat, hw, List.drop_eq_nil_of_le (by omega)]
        simp

theorem sub_ok {E : Value → Shared → Prop} {Q : Value → Shared → Prop} {q P : Addr} {f self : Value} {T : List Nat} {t0 : Tok} {code : Array Nat} {ml ga gb : List Nat → Nat} {cb : List Nat → List Nat}
    (hS : ∀ c ∈ T, c ∈ sig) (hb : T.length ≤ 2000) (hsr : Srch code ml ga gb) (hgab : ∀ u, ga u ≤ gb u) (hcl : ∀ u, u.length ≤ T.length → (cb u).length ≤ T.length + 100) (hP : PatAt h₀ P code) (hPc : ∃ o, h₀.get? P = some o ∧ o.cls = .type "re.Pattern")
    (F : Fr h₀ L s.heap m) (N : News h₀ L s.heap news) (hq : (q, methodObj f self) ∈ news)
    (hcb : ∀ (s : Shared) (news' : List (Addr × Obj)) (mo tp : Addr) (s1 : Nat) (Q : Value → Shared → Prop), Fr h₀ L s.heap m → News h₀ L s.heap ((mo, matObj T t0 P tp) :: (tp, spanObj s1 (s1 + ml (T.drop s1)) (s1 + ga (T.drop s1)) (s1 + gb (T.drop s1))) :: news') → (q, methodObj f self) ∈ news' →
      s1 < T.length → ml (T.drop s1) ≠ 0 → s1 + ml (T.drop s1) ≤ T.length → (∀ t h' tk', Fr h₀ L h' m → News h₀ L h' news' → Q (.str ⟨(cb (T.drop s1)).toArray⟩ t) { s with heap := h', toks := tk' }) →
      wpAny (model prog w) A.in1 (call (.ref q) [.ref mo]) Q E s)
    (hR : ∀ t h' tk', Fr h₀ L h' m → News h₀ L h' news → Q (.str ⟨(subW ml cb T).toArray⟩ t) { s with heap := h', toks := tk' }) :
    wpAny (model prog w) A (call (.builtin "re.Pattern.sub") [.ref P, .ref q, .str ⟨T.toArray⟩ t0]) Q E s := by
  obtain ⟨Po, hPo, hPcl⟩ := hPc
  refine wpAny_call (codeAny_call_builtin_code (plainId_quiet plain_sub _) (slot_sub.check _ _ _ _ _ _ _ _ ⟨Po, F.keep _ _ hPo, hPcl⟩ (args_sub _ _ _) ?_))
  refine builtin_at plain_sub entry_sub ?_
  unfold Builtin.«re.Pattern.sub» reSubstitute
  dsimp only
  have hn : reNamed "re.Pattern.sub" "sub" ["repl", "string", "count"] 2 [.ref q, .str ⟨T.toArray⟩ t0] [] = pure [some (.ref q), some (.str ⟨T.toArray⟩ t0), none] := rfl
  rw [hn]
  refine wpAny_bind (wpAny_pure ?_)
  dsimp only
  refine wpAny_bind (wpAny_pure ?_)
  have Nq := N _ hq
  refine wpAny_bind (wpAny_specialOf (T := "method") ⟨_, Nq.1, rfl⟩ meth_call ?_)
  rw [show (some (Value.builtin "method.__call__")).isSome = true from rfl, if_pos rfl]
  refine wpAny_bind (wpAny_pure ?_)
  rw [if_pos rfl]
  refine wpAny_bind (wpAny_pure ?_)
  refine wpAny_bind (wpAny_holding (target_ok (hP.keeps F.keep) ?_))
  rw [if_pos (show (((Value.ref q, (1 : Int)).snd == 1) : Bool) = true from rfl)]
  unfold reNotHeld
  refine wpAny_bind ?_
  refine wpAny_bind (wpAny_isInstance (T := "str") (typeIs_str _ _ _) str_sub_ba ?_)
  simp only [Bool.false_eq_true, if_false]
  refine wpAny_pure ?_
  refine wpAny_bind (newList_N F N fun h₁ F₁ N₁ => ?_)
  refine wpAny_pure ⟨Code.quiet_builtin _ (by decide +kernel), ?_⟩
  exact loop_ok (q := q) hS hb hsr hgab hcl hP hq hcb hR T.length 0 h₁ s.toks 0 _ #[] 0 [] (by omega) (by omega) F₁ N₁ (fun p hp => Heap.lt_size (N p hp).1) .nil (by simp) (fun _ h => nomatch h) (by simp)
end
end Mine
end
section
open PySem PySem.W PySem.Calls PyProof.Rows PyProof.V PySem.Spec PySem.Sre
set_option maxRecDepth 100000
namespace Mine
open PySem.Builtin.Re
section
variable {prog : Program} {w : World} {A : Around} {E : Value → Shared → Prop} {s : Shared} {h₀ : Heap} {L : Addr} {m : Str → Option Value} {news : List (Addr × Obj)}
theorem found_ok {M : Model} {A : Around} {mo tp P : Addr} {T : List Nat} {t : Tok} {st e a b : Nat} {Q : ReFound → Shared → Prop} (hm : s.heap.get? mo = some (matObj T t P tp)) (ht : s.heap.get? tp = some (spanObj st e a b))
    (h : Q ⟨#[.str ⟨T.toArray⟩ t, .ref P, .int 0 0, .int T.length 0, .int 1 0, .ref tp], #[(st : Int), (e : Int), (a : Int), (b : Int)]⟩ s) : wpAny M A (reFound (.ref mo)) Q E s := by
  unfold reFound fieldsOf
  refine wpAny_bind (wpAny_bind (wpAny_load hm (wpAny_pure ?_)))
  refine wpAny_bind ?_
  show wpAny M A (reRawItems (.ref tp)) _ _ _
  unfold reRawItems seqItems?
  refine wpAny_bind (wpAny_bind (wpAny_load ht (wpAny_pure (wpAny_pure (wpAny_pure ?_)))))
  have e : Array.map reRawOf ((some #[Value.int (st : Int) 0, Value.int (e : Int) 0, Value.int (a : Int) 0, Value.int (b : Int) 0]).getD #[]) = #[(st : Int), (e : Int), (a : Int), (b : Int)] := by simp [reRawOf]
  rw [e]
  exact h
theorem number_ok {M : Model} {A : Around} {x : ReFound} {i : Nat} {t : Tok} {Q : Nat → Shared → Prop} (hi : 2 * i < x.spans.size) (h : Q i s) : wpAny M A (reGroupNumber x (.int i t)) Q E s := by
  show wpAny M A (do
    if (i : Int) < 0 || 2 * (i : Int) ≥ x.spans.size then rule "re.Match.no-such-group"; raiseError "IndexError" "no such group"
    pure (i : Int).toNat) Q E s
  have e : (decide ((i : Int) < 0) || decide (2 * (i : Int) ≥ x.spans.size)) = false := by
    simp only [Bool.or_eq_false_iff, decide_eq_false_iff_not]
    omega
  rw [if_neg (by rw [e]; exact Bool.false_ne_true)]
  exact wpAny_pure h
theorem gtext_ok {M : Model} {A : Around} {T : List Nat} {t : Tok} {fs : Array Value} {sp : Array Int} {g b e : Nat} {x : Str} {d : Value} {Q : Value → Shared → Prop} (hT : T.length ≤ 16777215) (hf : fs.getD 0 .none = .str ⟨T.toArray⟩ t) (hb : sp.getD (2 * g) (-1) = b) (he : sp.getD (2 * g + 1) (-1) = e)
    (hx : (⟨((T.drop b).take (e - b)).toArray⟩ : Str) = x) (h : Q (.str x s.toks) { s with toks := s.toks + 1 }) : wpAny M A (reGroupText ⟨fs, sp⟩ g d) Q E s := by
  unfold reGroupText
  simp only [hb, he]
  have e1 : (decide ((b : Int) < 0) || decide ((e : Int) < 0)) = false := by simp only [Bool.or_eq_false_iff, decide_eq_false_iff_not]; omega
  rw [if_neg (by rw [e1]; exact Bool.false_ne_true), hf]
  refine wpAny_bind (m := reTextOf _) (wpAny_pure ?_)
  show wpAny M A (reSlice T.toArray 0 (b : Int).toNat (e : Int).toNat) Q E s
  rw [Int.toNat_natCast, Int.toNat_natCast]
  subst hx
  exact slice_ok hT h
theorem group_ok {mo tp P : Addr} {T : List Nat} {t u : Tok} {st e a b g gb ge : Nat} {x : Str} {Q : Value → Shared → Prop} (hT : T.length ≤ 16777215) (hm : s.heap.get? mo = some (matObj T t P tp)) (ht : s.heap.get? tp = some (spanObj st e a b))
    (hg : (g = 0 ∧ gb = st ∧ ge = e) ∨ (g = 1 ∧ gb = a ∧ ge = b)) (hx : (⟨((T.drop gb).take (ge - gb)).toArray⟩ : Str) = x) (h : ∀ t', Q (.str x t') { s with toks := t' + 1 }) :
    wpAny (model prog w) A (call (.builtin "re.Match.group") [.ref mo, .int g u]) Q E s := by
  refine wpAny_call (codeAny_call_builtin_code (plainId_quiet slot_group.plain _) (slot_group.check _ _ _ _ _ _ _ _ ⟨_, hm, rfl⟩ (args_group _ _) ?_))
  refine builtin_at slot_group.plain entry_group ?_
  unfold Builtin.«re.Match.group»
  refine wpAny_bind (m := noKeywords _ _) (wpAny_pure ?_)
  dsimp only
  refine wpAny_bind (found_ok hm ht ?_)
  refine wpAny_bind (number_ok (by show 2 * g < 4; omega) ?_)
  refine wpAny_bind (gtext_ok (b := gb) (e := ge) hT rfl ?_ ?_ hx ?_)
  · rcases hg with ⟨rfl, rfl, rfl⟩ | ⟨rfl, rfl, rfl⟩ <;> rfl
  · rcases hg with ⟨rfl, rfl, rfl⟩ | ⟨rfl, rfl, rfl⟩ <;> rfl
  · exact wpAny_pure (h s.toks)
theorem meth_group {mo tp P : Addr} {T : List Nat} {t : Tok} {pl : Sem Bool} {Q : Value × List Value → Shared → Prop} (hm : s.heap.get? mo = some (matObj T t P tp)) (h : Q (.builtin "re.Match.group", [.ref mo]) s) : wpAny (model prog w) A (getMethod (.ref mo) (Str.ofString "group") pl) Q E s :=
  getMethod_builtin ⟨_, hm, rfl⟩ plainAttrs_mat slot_group type_group (fun a e => by cases e; exact ⟨_, hm, rfl⟩) h
theorem meth_sub {K : Frag} {P : Addr} {fs : Array Value} {pl : Sem Bool} {Q : Value × List Value → Shared → Prop} (F : Fr h₀ L s.heap m) (X : K.In h₀) (hk : K.lookup P = some { cls := .type "re.Pattern", data := .fields fs }) (h : Q (.builtin "re.Pattern.sub", [.ref P]) s) :
    wpAny (model prog w) A (getMethod (.ref P) (Str.ofString "sub") pl) Q E s :=
  getMethod_builtin ⟨_, F.keep _ _ (X _ _ hk), rfl⟩ plainAttrs_pat slot_sub type_sub (fun a e => by cases e; exact ⟨_, F.keep _ _ (X _ _ hk), rfl⟩) h
theorem group0_ok {mo tp P : Addr} {T : List Nat} {t u : Tok} {st e a b : Nat} {x : Str} {Q : Value → Shared → Prop} (N : News h₀ L s.heap news) (hm : (mo, matObj T t P tp) ∈ news) (ht : (tp, spanObj st e a b) ∈ news) (hT : T.length ≤ 16777215)
    (hx : (⟨((T.drop st).take (e - st)).toArray⟩ : Str) = x) (h : ∀ t', Q (.str x t') { s with toks := t' + 1 }) : wpAny (model prog w) A (call (.builtin "re.Match.group") [.ref mo, .int 0 u]) Q E s :=
  group_ok (g := 0) hT (N _ hm).1 (N _ ht).1 (.inl ⟨rfl, rfl, rfl⟩) hx h
theorem group1_ok {mo tp P : Addr} {T : List Nat} {t u : Tok} {st e a b : Nat} {x : Str} {Q : Value → Shared → Prop} (N : News h₀ L s.heap news) (hm : (mo, matObj T t P tp) ∈ news) (ht : (tp, spanObj st e a b) ∈ news) (hT : T.length ≤ 16777215)
    (hx : (⟨((T.drop a).take (b - a)).toArray⟩ : Str) = x) (h : ∀ t', Q (.str x t') { s with toks := t' + 1 }) : wpAny (model prog w) A (call (.builtin "re.Match.group") [.ref mo, .int 1 u]) Q E s :=
  group_ok (g := 1) hT (N _ hm).1 (N _ ht).1 (.inr ⟨rfl, rfl, rfl⟩) hx h
theorem methN_group {mo tp P : Addr} {T : List Nat} {t : Tok} {pl : Sem Bool} {Q : Value × List Value → Shared → Prop} (N : News h₀ L s.heap news) (hm : (mo, matObj T t P tp) ∈ news) (h : Q (.builtin "re.Match.group", [.ref mo]) s) : wpAny (model prog w) A (getMethod (.ref mo) (Str.ofString "group") pl) Q E s :=
  meth_group (N _ hm).1 h
end

section
variable {prog : Program} {w : World} {A : Around} {E : Value → Shared → Prop} {s : Shared} {y : PySem.Str} {t u : Tok} {Q : Value → Shared → Prop}
set_option maxHeartbeats 4000000 in
theorem pct_ent (hy : y.length ≤ 1000000) (h : ∀ t' k, Q (.str (Str.ofString "&" ++ y ++ Str.ofString ";") t') { s with toks := k }) : wpAny (model prog w) A (binaryOp .Mod (.str (Str.ofString "&%s;") t) (.str y u)) Q E s := by
  refine' KPc.mod_str (X' := ⟨#[38, 37, 115, 59]⟩) (T := fun y => Str.ofString "&" ++ y ++ Str.ofString ";") (by decide +kernel) hy ?kpcm h
  case kpcm => k_dflt kpc_run_s
set_option maxHeartbeats 4000000 in
theorem pct_amp (hy : y.length ≤ 1000000) (h : ∀ t' k, Q (.str (Str.ofString "&amp;" ++ y ++ Str.ofString ";") t') { s with toks := k }) : wpAny (model prog w) A (binaryOp .Mod (.str (Str.ofString "&amp;%s;") t) (.str y u)) Q E s := by
  refine' KPc.mod_str (X' := ⟨#[38, 97, 109, 112, 59, 37, 115, 59]⟩) (T := fun y => Str.ofString "&amp;" ++ y ++ Str.ofString ";") (by decide +kernel) hy ?kpcm h
  case kpcm => k_dflt kpc_run_s
end
/-- the contract of a def of the text: what a call of it gives back, all that stood kept -/
def Ok (w : World) (f : Addr) (vs : List Value) (d u : Nat) (R : Tok → Value) : Prop :=
  ∀ (p : Program) (loose : List Str) (mean : ExcName → Option Value) (mg mb : Str → Option Value) (dp un : Nat) (gd : Option (List Code)) (cn : Str) (cs : Scope) (a : Addr) (ccd : Value) (cl : List (Str × Addr)) (outer : List Env) (A₀ : Around) (base h₀ : Heap) (L : Addr) (m : Str → Option Value) (news : List (Addr × Obj)) (s : Shared) (Q E : Value → Shared → Prop),
    Below A₀ base outer h₀ → Fr h₀ L s.heap m → (hd.heap_39 w.params).In h₀ → News h₀ L s.heap news → Top p loose mean mg mb h₀ → cs.kind = .function →
    dp + d < recursionLimit → un + u < cLine → CbRet h₀ L m news s Q R →
      codeAny (model PySem.Challenge.pw_fq0002_01 w) (ktrTop dp un gd cn cs L a ccd cl outer) (.call (.ref f) ⟨vs, []⟩) (fun r s' => match r with | .ok (.ret v) => Q v s' | .ok _ => False | .error e => E e s') s
/-- the contract of a callback: the match object is the newest made -/
def OkCb (w : World) (f : Addr) (T : List Nat) (t0 : Tok) (P : Addr) (st e a b d u : Nat) (R : Tok → Value) : Prop :=
  ∀ (mo tp : Addr) (p : Program) (loose : List Str) (mean : ExcName → Option Value) (mg mb : Str → Option Value) (dp un : Nat) (gd : Option (List Code)) (cn : Str) (cs : Scope) (ca : Addr) (ccd : Value) (cl : List (Str × Addr)) (outer : List Env) (A₀ : Around) (base h₀ : Heap) (L : Addr) (m : Str → Option Value) (news : List (Addr × Obj)) (s : Shared) (Q E : Value → Shared → Prop),
    Below A₀ base outer h₀ → Fr h₀ L s.heap m → (hd.heap_39 w.params).In h₀ → News h₀ L s.heap ((mo, matObj T t0 P tp) :: (tp, spanObj st e a b) :: news) → Top p loose mean mg mb h₀ → cs.kind = .function →
    dp + d < recursionLimit → un + u < cLine → CbRet h₀ L m news s Q R →
      codeAny (model PySem.Challenge.pw_fq0002_01 w) (ktrTop dp un gd cn cs L ca ccd cl outer) (.call (.ref f) ⟨[.ref 171, .ref mo], []⟩) (fun r s' => match r with | .ok (.ret v) => Q v s' | .ok _ => False | .error e => E e s') s
end Mine
end
section
open PySem PySem.W PySem.Calls PyProof.Rows PyProof.V PySem.Spec
set_option maxRecDepth 100000
namespace Mine
theorem offCb1 : True := by
  w_top off
  trivial
local macro_rules | `(tactic| walk_at "getMethod ref") => `(tactic| (k_here; (with_reducible show wpAny _ _ (getMethod (Value.ref _) (Str.ofString "group") _) _ _ _); k_dflt (refine' methN_group ?N ?m ?_; (case N => k_asm); (case m => k_mem); k_whole)))
local macro_rules | `(tactic| walk_at "call builtin:re.Match.group") => `(tactic| (k_here; k_dflt (first | (refine' group0_ok ?N ?m ?t ?T ?x ?_; (case N => k_asm); (case m => k_mem); (case t => k_mem); (case T => assumption); (case x => assumption); k_whole) | (refine' group1_ok ?N ?m ?t ?T ?x ?_; (case N => k_asm); (case m => k_mem); (case t => k_mem); (case T => assumption); (case x => assumption); k_whole)); intro _))
local macro_rules | `(tactic| walk_at "binaryOp Mod str str") => `(tactic| (k_here; first | (refine pct_ent ?_ ?_; (first | assumption | decide +kernel); intro _ _) | (refine pct_amp ?_ ?_; (first | assumption | decide +kernel); intro _ _)))
local macro_rules | `(tactic| walk_at "subscriptTail") => `(tactic| (k_here; (with_reducible show wpAny _ _ (subscriptTail _ _ (Value.ref _) (Value.str _ _)) _ _ _); k_dflt (refine' topItem_K ?F ?X ?l ?k ?e ?_; (case F => k_asm); (case X => k_asm); (case l => k_is); (case k => k_keys); (case e => k_is))))
/-- the written part, looked up once in this run -/
theorem filled : True := by
  have hFill : (fun (_ : OpenLaw) (_ : Params → Frag) => True) PySem.Challenge.rw_fq0002_01 hd.heap_39 := by k_fill; trivial
  trivial
theorem news_tl2 {h₀ h' : Heap} {L : Addr} {q q' : Addr × Obj} {news : List (Addr × Obj)} (N : News h₀ L h' (q :: q' :: news)) : News h₀ L h' news := fun p hp => N p (.tail _ (.tail _ hp))
set_option maxHeartbeats 8000000 in
theorem cb83_ok (w : World) (T : List Nat) (t0 : Tok) (P : Addr) (st e a b : Nat) (x y : Str) (hT : T.length ≤ 16777215) (hx : (⟨((T.drop st).take (e - st)).toArray⟩ : Str) = x)
    (hxy : (x = Str.ofString "&" ∧ y = Str.ofString "&amp;") ∨ (x = Str.ofString "<" ∧ y = Str.ofString "&lt;") ∨ (x = Str.ofString ">" ∧ y = Str.ofString "&gt;")) : OkCb w 83 T t0 P st e a b 1 8 (fun t => .str y t) := by
  rcases hxy with ⟨rfl, rfl⟩ | ⟨rfl, rfl⟩ | ⟨rfl, rfl⟩
  all_goals (
    unfold OkCb
    dsimp only [CbRet]
    intros
    rename_i hret
    k_dflt cell_enter
    k_steps
    all_goals (exact cb_retS hret (by decide +kernel) (by k_asm) (news_tl2 (by k_asm))))
set_option maxHeartbeats 8000000 in
theorem cb93_ok (w : World) (T : List Nat) (t0 : Tok) (P : Addr) (st e a b : Nat) (x : Str) (hT : T.length ≤ 16777215) (hx : (⟨((T.drop a).take (b - a)).toArray⟩ : Str) = x) (hl : x.length ≤ 1000000) :
    OkCb w 93 T t0 P st e a b 1 8 (fun t => .str (Str.ofString "&amp;" ++ x ++ Str.ofString ";") t) := by
  unfold OkCb
  dsimp only [CbRet]
  intros
  rename_i hret
  k_dflt cell_enter
  k_steps
  all_goals (exact cb_retS hret rfl (by k_asm) (news_tl2 (by k_asm)))
end Mine
end
section
open PySem PySem.W PySem.Calls PyProof.Rows PyProof.V PySem.Spec
set_option maxRecDepth 100000
namespace Mine
theorem offCb2 : True := by
  w_top off
  trivial
local macro_rules | `(tactic| walk_at "mine none") => `(tactic| skip)
local macro_rules | `(tactic| walk_at "getMethod ref") => `(tactic| (k_here; (with_reducible show wpAny _ _ (getMethod (Value.ref _) (Str.ofString "group") _) _ _ _); k_dflt (refine' methN_group ?N ?m ?_; (case N => k_asm); (case m => k_mem); k_whole)))
local macro_rules | `(tactic| walk_at "call builtin:re.Match.group") => `(tactic| (k_here; k_dflt (first | (refine' group0_ok ?N ?m ?t ?T ?x ?_; (case N => k_asm); (case m => k_mem); (case t => k_mem); (case T => assumption); (case x => assumption); k_whole) | (refine' group1_ok ?N ?m ?t ?T ?x ?_; (case N => k_asm); (case m => k_mem); (case t => k_mem); (case T => assumption); (case x => assumption); k_whole)); intro _))
local macro_rules | `(tactic| walk_at "binaryOp Mod str str") => `(tactic| (k_here; first | (refine pct_ent ?_ ?_; (first | assumption | decide +kernel); intro _ _) | (refine pct_amp ?_ ?_; (first | assumption | decide +kernel); intro _ _)))
local macro_rules | `(tactic| walk_at "subscriptTail") => `(tactic| (k_here; (with_reducible show wpAny _ _ (subscriptTail _ _ (Value.ref _) (Value.str _ _)) _ _ _); k_dflt (refine' topItem_K ?F ?X ?l ?k ?e ?_; (case F => k_asm); (case X => k_asm); (case l => k_is); (case k => k_keys); (case e => k_is))))
theorem filled2 : True := by
  have hFill : (fun (_ : OpenLaw) (_ : Params → Frag) => True) PySem.Challenge.rw_fq0002_01 hd.heap_39 := by k_fill; trivial
  trivial

set_option maxHeartbeats 8000000 in
theorem cb73_ok (w : World) (T : List Nat) (t0 : Tok) (P : Addr) (st e a b : Nat) (x y : Str) (hT : T.length ≤ 16777215) (hx : (⟨((T.drop st).take (e - st)).toArray⟩ : Str) = x)
    (hxy : (x = Str.ofString "&" ∧ y = Str.ofString "&amp;") ∨ (x = Str.ofString "<" ∧ y = Str.ofString "&lt;") ∨ (x = Str.ofString ">" ∧ y = Str.ofString "&gt;") ∨ (x = Str.ofString "é" ∧ y = Str.ofString "&eacute;") ∨ (x = Str.ofString "⊂" ∧ y = Str.ofString "&sub;") ∨ (x = Str.ofString "⊂⃒" ∧ y = Str.ofString "&vnsub;") ∨ (x = Str.ofString "<⃒" ∧ y = Str.ofString "&nvlt;") ∨ (x = Str.ofString ">⃒" ∧ y = Str.ofString "&nvgt;")) : OkCb w 73 T t0 P st e a b 1 8 (fun t => .str y t) := by
  have _ := filled2
  rcases hxy with ⟨rfl, rfl⟩ | ⟨rfl, rfl⟩ | ⟨rfl, rfl⟩ | ⟨rfl, rfl⟩ | ⟨rfl, rfl⟩ | ⟨rfl, rfl⟩ | ⟨rfl, rfl⟩ | ⟨rfl, rfl⟩
  all_goals (
    unfold OkCb
    dsimp only [CbRet]
    intros
    rename_i hret
    k_dflt cell_enter
    k_steps
    all_goals (exact cb_retS hret (by decide +kernel) (by k_asm) (news_tl2 (by k_asm))))
end Mine
end
section
open PySem PySem.Sre
namespace Mine
/-- what stands for a sign (of one code or two) -/
def sgText (c0 c1 : Nat) : List Nat :=
  if c0 = 233 then [38, 101, 97, 99, 117, 116, 101, 59]
  else if c0 = 8834 then (if c1 = 8402 then [38, 118, 110, 115, 117, 98, 59] else [38, 115, 117, 98, 59])
  else if c0 = 60 then (if c1 = 8402 then [38, 110, 118, 108, 116, 59] else [38, 108, 116, 59])
  else if c0 = 62 then (if c1 = 8402 then [38, 110, 118, 103, 116, 59] else [38, 103, 116, 59])
  else []
def cbX (u : List Nat) : List Nat := if u.getD 0 0 = 38 then [38, 97, 109, 112, 59] else if u.getD 0 0 = 60 then [38, 108, 116, 59] else if u.getD 0 0 = 62 then [38, 103, 116, 59] else []
def cbC (u : List Nat) : List Nat := sgText (u.getD 0 0) (u.getD 1 0)
def cbH (u : List Nat) : List Nat := if u.getD 0 0 = 38 then [38, 97, 109, 112, 59] else sgText (u.getD 0 0) (u.getD 1 0)
def refName (u : List Nat) : List Nat := u.take (refLen u)
def isKnown (x : Str) : Bool :=
  decide (x = ⟨#[97, 109, 112]⟩) || (decide (x = ⟨#[108, 116]⟩) || (decide (x = ⟨#[103, 116]⟩) || (decide (x = ⟨#[101, 97, 99, 117, 116, 101]⟩) || (decide (x = ⟨#[115, 117, 98]⟩) || (decide (x = ⟨#[118, 110, 115, 117, 98]⟩) || (decide (x = ⟨#[110, 118, 108, 116]⟩) || (decide (x = ⟨#[110, 118, 103, 116]⟩) || false)))))))
def cbE (u : List Nat) : List Nat := [38, 97, 109, 112, 59] ++ refName (u.drop 1) ++ [59]
def cbR (u : List Nat) : List Nat := if isKnown ⟨(refName (u.drop 1)).toArray⟩ = true then [38] ++ refName (u.drop 1) ++ [59] else [38, 97, 109, 112, 59] ++ refName (u.drop 1) ++ [59]
def subS (ml : List Nat → Nat) (cb : List Nat → List Nat) (x : Str) : Str := ⟨(subW ml cb x.cps.toList).toArray⟩
def SigS (x : Str) : Prop := ∀ c ∈ x.cps.toList, c ∈ sig

theorem sgText_len (c0 c1 : Nat) : (sgText c0 c1).length ≤ 8 := by unfold sgText; (repeat' split) <;> decide
theorem cbX_len (u : List Nat) : (cbX u).length ≤ 8 := by unfold cbX; (repeat' split) <;> decide
theorem cbC_len (u : List Nat) : (cbC u).length ≤ 8 := sgText_len _ _
theorem cbH_len (u : List Nat) : (cbH u).length ≤ 8 := by unfold cbH; split; decide; exact sgText_len _ _
theorem refName_len (u : List Nat) : (refName u).length ≤ u.length := by unfold refName; rw [List.length_take]; omega
theorem cbE_len (u : List Nat) : (cbE u).length ≤ u.length + 6 := by
  unfold cbE
  have := refName_len (u.drop 1)
  rw [List.length_drop] at this
  simp only [List.length_append, List.length_cons, List.length_nil]
  omega
theorem cbR_len (u : List Nat) : (cbR u).length ≤ u.length + 6 := by
  unfold cbR
  have := refName_len (u.drop 1)
  rw [List.length_drop] at this
  split <;> (simp only [List.length_append, List.length_cons, List.length_nil]; omega)
end Mine
end
section
open PySem PySem.W PySem.Calls PyProof.Rows PyProof.V PySem.Spec
set_option maxRecDepth 100000
namespace Mine
theorem offCb3 : True := by
  w_top off
  trivial
local macro_rules | `(tactic| walk_at "getMethod ref") => `(tactic| (k_here; (with_reducible show wpAny _ _ (getMethod (Value.ref _) (Str.ofString "group") _) _ _ _); k_dflt (refine' methN_group ?N ?m ?_; (case N => k_asm); (case m => k_mem); k_whole)))
local macro_rules | `(tactic| walk_at "call builtin:re.Match.group") => `(tactic| (k_here; k_dflt (first | (refine' group0_ok ?N ?m ?t ?T ?x ?_; (case N => k_asm); (case m => k_mem); (case t => k_mem); (case T => assumption); (case x => assumption); k_whole) | (refine' group1_ok ?N ?m ?t ?T ?x ?_; (case N => k_asm); (case m => k_mem); (case t => k_mem); (case T => assumption); (case x => assumption); k_whole)); intro _))
local macro_rules | `(tactic| walk_at "binaryOp Mod str str") => `(tactic| (k_here; first | (refine pct_ent ?_ ?_; (first | assumption | decide +kernel); intro _ _) | (refine pct_amp ?_ ?_; (first | assumption | decide +kernel); intro _ _)))
local macro_rules | `(tactic| walk_at "subscriptTail") => `(tactic| (k_here; (with_reducible show wpAny _ _ (subscriptTail _ _ (Value.ref _) (Value.str _ _)) _ _ _); k_dflt (refine' topItem_K ?F ?X ?l ?k ?e ?_; (case F => k_asm); (case X => k_asm); (case l => k_is); (case k => k_keys); (case e => k_is))))
theorem filled2c : True := by
  have hFill : (fun (_ : OpenLaw) (_ : Params → Frag) => True) PySem.Challenge.rw_fq0002_01 hd.heap_39 := by k_fill; trivial
  trivial


set_option maxHeartbeats 8000000 in
theorem cb103_ok (w : World) (T : List Nat) (t0 : Tok) (P : Addr) (st e a b : Nat) (x : Str) (hT : T.length ≤ 16777215) (hx : (⟨((T.drop a).take (b - a)).toArray⟩ : Str) = x) (hl : x.length ≤ 1000000) :
    OkCb w 103 T t0 P st e a b 1 8 (fun t => .str (if isKnown x = true then Str.ofString "&" ++ x ++ Str.ofString ";" else Str.ofString "&amp;" ++ x ++ Str.ofString ";") t) := by
  have _ := filled2c
  unfold OkCb
  dsimp only [CbRet]
  intros
  rename_i hret
  k_dflt cell_enter
  k_steps
  all_goals (exact cb_retS hret (by simp only [isKnown, *, if_true, if_false, Bool.false_eq_true]) (by k_asm) (news_tl2 (by k_asm)))
end Mine
end
section
open PySem PySem.W PySem.Calls PyProof.Rows PyProof.V PySem.Spec
set_option maxRecDepth 100000
namespace Mine
theorem filled4 : True := by
  have hFill : (fun (_ : OpenLaw) (_ : Params → Frag) => True) PySem.Challenge.rw_fq0002_01 hd.heap_39 := by k_fill; trivial
  trivial
theorem pat_of {K : Frag} {h : Heap} {P c : Addr} {fs items : Array Value} {code : Array Nat} {n : Nat} (X : K.In h) (hP : K.lookup P = some { cls := .type "re.Pattern", data := .fields fs }) (h6 : Builtin.Re.reRawNat (fs.getD 6 .none) = 0) (h5 : fs.getD 5 .none = .ref c) (h2 : Builtin.Re.reRawNat (fs.getD 2 .none) = 1)
    (hc : K.lookup c = some { cls := .type "tuple", data := .seq items n }) (hi : ((items.map Builtin.Re.reRawOf).map (·.toNat)) = code) : PatAt h P code :=
  ⟨_, fs, c, _, items, n, X _ _ hP, rfl, h6, h5, h2, X _ _ hc, rfl, hi⟩
section
variable {w : World} {h : Heap}
theorem pat36 (X : (hd.heap_39 w.params).In h) : PatAt h 36 cdAny := by
  have _ := filled4
  exact pat_of X (by k_is) rfl rfl rfl (by k_is) (by decide +kernel)
theorem pat41 (X : (hd.heap_39 w.params).In h) : PatAt h 41 cdBare := by
  have _ := filled4
  exact pat_of X (by k_is) rfl rfl rfl (by k_is) (by decide +kernel)
theorem pat46 (X : (hd.heap_39 w.params).In h) : PatAt h 46 cdAmp := by
  have _ := filled4
  exact pat_of X (by k_is) rfl rfl rfl (by k_is) (by decide +kernel)
theorem pat51 (X : (hd.heap_39 w.params).In h) : PatAt h 51 cdChr := by
  have _ := filled4
  exact pat_of X (by k_is) rfl rfl rfl (by k_is) (by decide +kernel)
theorem pat56 (X : (hd.heap_39 w.params).In h) : PatAt h 56 cdChA := by
  have _ := filled4
  exact pat_of X (by k_is) rfl rfl rfl (by k_is) (by decide +kernel)
def IsPat (h : Heap) (P : Addr) : Prop := ∃ o, h.get? P = some o ∧ o.cls = .type "re.Pattern"
theorem isPat36 (X : (hd.heap_39 w.params).In h) : IsPat h 36 := by have _ := filled4; exact ⟨_, X _ _ (by k_is), rfl⟩
theorem isPat41 (X : (hd.heap_39 w.params).In h) : IsPat h 41 := by have _ := filled4; exact ⟨_, X _ _ (by k_is), rfl⟩
theorem isPat46 (X : (hd.heap_39 w.params).In h) : IsPat h 46 := by have _ := filled4; exact ⟨_, X _ _ (by k_is), rfl⟩
theorem isPat51 (X : (hd.heap_39 w.params).In h) : IsPat h 51 := by have _ := filled4; exact ⟨_, X _ _ (by k_is), rfl⟩
theorem isPat56 (X : (hd.heap_39 w.params).In h) : IsPat h 56 := by have _ := filled4; exact ⟨_, X _ _ (by k_is), rfl⟩
end

/-- sub with a callback of the class, in a frame of the text -/
theorem sub_use {w : World} {f P : Addr} {code : Array Nat} {ml ga gb : List Nat → Nat} {cb : List Nat → List Nat} {x : Str} {t0 : Tok}
    {p : Program} {loose : List Str} {mean : ExcName → Option Value} {mg mb : Str → Option Value} {dp un : Nat} {gd : Option (List Code)} {cn : Str} {cs : Scope} {ca : Addr} {ccd : Value} {cl : List (Str × Addr)} {outer : List Env} {A₀ : Around} {base h₀ : Heap} {L : Addr} {m : Str → Option Value} {news : List (Addr × Obj)} {s : Shared} {Q E : Value → Shared → Prop} {q : Addr}
    (hsr : Srch code ml ga gb) (hgab : ∀ u, ga u ≤ gb u) (hcl : ∀ u, (cb u).length ≤ u.length + 100)
    (hcb : ∀ (T : List Nat) (s1 : Nat), T.length ≤ 2000 → s1 < T.length → ml (T.drop s1) ≠ 0 → s1 + ml (T.drop s1) ≤ T.length → OkCb w f T t0 P s1 (s1 + ml (T.drop s1)) (s1 + ga (T.drop s1)) (s1 + gb (T.drop s1)) 1 8 (fun t => .str ⟨(cb (T.drop s1)).toArray⟩ t))
    (hP : PatAt h₀ P code) (hPc : IsPat h₀ P)
    (B : Below A₀ base outer h₀) (F : Fr h₀ L s.heap m) (X : (hd.heap_39 w.params).In h₀) (N : News h₀ L s.heap news) (T : Top p loose mean mg mb h₀) (hk : cs.kind = .function) (hd' : dp + 1 < recursionLimit) (hu : un + 9 < cLine)
    (hq : (q, methodObj (.ref f) (.ref 171)) ∈ news) (hS : SigS x) (hl : x.length ≤ 2000)
    (ret : ∀ (t : Tok) (h' : Heap) (tk' : Nat), Fr h₀ L h' m → News h₀ L h' news → Q (.str (subS ml cb x) t) { s with heap := h', toks := tk' }) :
    wpAny (model PySem.Challenge.pw_fq0002_01 w) (ktrTop dp un gd cn cs L ca ccd cl outer) (call (.builtin "re.Pattern.sub") [.ref P, .ref q, .str x t0]) Q E s := by
  have ex : x = ⟨x.cps.toList.toArray⟩ := by cases x; simp
  have hlen : x.cps.toList.length ≤ 2000 := by simpa [Str.length] using hl
  rw [ex]
  refine sub_ok (f := .ref f) (self := .ref 171) (ga := ga) (gb := gb) (ml := ml) (cb := cb) hS hlen hsr hgab (fun u hu => Nat.le_trans (hcl u) (by omega)) hP hPc F N hq ?_ ?_
  · intro s' news' mo tp s1 Q' F' N' hq' h1 h2 h3 ret'
    refine wpAny_call (method_call (N' _ (.tail _ (.tail _ hq'))).1 ?_)
    exact hcb _ s1 hlen h1 h2 h3 mo tp p loose mean mg mb dp (un + 1) gd cn cs ca ccd cl outer A₀ base h₀ L m news' s' Q' E B F' X N' T hk hd' hu ret'
  · intro t h' tk' F' N'
    exact ret t h' tk' F' N'
end Mine
end
section
open PySem PySem.W PySem.Calls PyProof.Rows PyProof.V PySem.Spec
set_option maxRecDepth 100000
namespace Mine
theorem take_one {u : List Nat} (h : u ≠ []) : u.take 1 = [u.getD 0 0] := by
  match u, h with
  | c :: r, _ => rfl
theorem take_two {u : List Nat} (h : 2 ≤ u.length) : u.take 2 = [u.getD 0 0, u.getD 1 0] := by
  match u, h with
  | c :: d :: r, _ => rfl
theorem drop_ne {T : List Nat} {s : Nat} (h : s < T.length) : T.drop s ≠ [] := fun e => by rw [List.drop_eq_nil_iff] at e; omega
theorem hit83 {w : World} {P : Addr} {t0 : Tok} {T : List Nat} {s1 n a b : Nat} (hT : T.length ≤ 2000) (hs : s1 < T.length) (hn : n = 1) (h : (T.drop s1).getD 0 0 = 38 ∨ (T.drop s1).getD 0 0 = 60 ∨ (T.drop s1).getD 0 0 = 62) :
    OkCb w 83 T t0 P s1 (s1 + n) a b 1 8 (fun t => .str ⟨(cbX (T.drop s1)).toArray⟩ t) := by
  subst hn
  refine cb83_ok w T t0 P s1 (s1 + 1) a b ⟨#[(T.drop s1).getD 0 0]⟩ _ (by omega) ?_ ?_
  · rw [show s1 + 1 - s1 = 1 by omega, take_one (drop_ne hs)]
  · unfold cbX
    rcases h with h | h | h <;> rw [h]
    · exact .inl ⟨by decide +kernel, by decide +kernel⟩
    · exact .inr (.inl ⟨by decide +kernel, by decide +kernel⟩)
    · exact .inr (.inr ⟨by decide +kernel, by decide +kernel⟩)
theorem hit73 {w : World} {P : Addr} {t0 : Tok} {T : List Nat} {s1 n a b : Nat} {cb : List Nat → List Nat} (hT : T.length ≤ 2000) (hs : s1 < T.length) (hn : n ≠ 0) (hl : s1 + n ≤ T.length)
    (h : ((T.drop s1).getD 0 0 = 38 ∧ n = 1 ∧ cb (T.drop s1) = [38, 97, 109, 112, 59]) ∨ (n = sgl ((T.drop s1).getD 0 0) ((T.drop s1).getD 1 0) ∧ cb (T.drop s1) = sgText ((T.drop s1).getD 0 0) ((T.drop s1).getD 1 0))) :
    OkCb w 73 T t0 P s1 (s1 + n) a b 1 8 (fun t => .str ⟨(cb (T.drop s1)).toArray⟩ t) := by
  rcases h with ⟨h0, h1, h2⟩ | ⟨h1, h2⟩
  · rw [h2, h1]
    refine cb73_ok w T t0 P s1 (s1 + 1) a b ⟨#[(T.drop s1).getD 0 0]⟩ _ (by omega) ?_ (.inl ?_)
    · rw [show s1 + 1 - s1 = 1 by omega, take_one (drop_ne hs)]
    · rw [h0]; exact ⟨by decide +kernel, by decide +kernel⟩
  · rw [h2]
    have hlen : (T.drop s1).length = T.length - s1 := List.length_drop
    generalize hu : T.drop s1 = u at *
    have hne : u ≠ [] := by rw [← hu]; exact drop_ne hs
    have one : n = 1 → (⟨(u.take (s1 + n - s1)).toArray⟩ : Str) = ⟨#[u.getD 0 0]⟩ := fun e => by rw [e, show s1 + 1 - s1 = 1 by omega, take_one hne]
    have two : n = 2 → (⟨(u.take (s1 + n - s1)).toArray⟩ : Str) = ⟨#[u.getD 0 0, u.getD 1 0]⟩ := fun e => by rw [e, show s1 + 2 - s1 = 2 by omega, take_two (by omega)]
    unfold sgl at h1
    unfold sgText
    by_cases c1 : u.getD 0 0 = 233
    · rw [if_pos c1] at h1 ⊢
      refine cb73_ok w T t0 P s1 (s1 + n) a b ⟨#[u.getD 0 0]⟩ _ (by omega) (by rw [hu]; exact one h1) ?_
      rw [c1]; exact .inr (.inr (.inr (.inl ⟨by decide +kernel, by decide +kernel⟩)))
    · rw [if_neg c1] at h1 ⊢
      by_cases c2 : u.getD 0 0 = 8834
      · rw [if_pos (.inl c2)] at h1
        rw [if_pos c2]
        by_cases c3 : u.getD 1 0 = 8402
        · rw [if_pos c3] at h1 ⊢
          refine cb73_ok w T t0 P s1 (s1 + n) a b ⟨#[u.getD 0 0, u.getD 1 0]⟩ _ (by omega) (by rw [hu]; exact two h1) ?_
          rw [c2, c3]; exact .inr (.inr (.inr (.inr (.inr (.inl ⟨by decide +kernel, by decide +kernel⟩)))))
        · rw [if_neg c3] at h1 ⊢
          refine cb73_ok w T t0 P s1 (s1 + n) a b ⟨#[u.getD 0 0]⟩ _ (by omega) (by rw [hu]; exact one h1) ?_
          rw [c2]; exact .inr (.inr (.inr (.inr (.inl ⟨by decide +kernel, by decide +kernel⟩))))
      · rw [if_neg c2]
        by_cases c4 : u.getD 0 0 = 60
        · rw [if_pos (.inr (.inl c4))] at h1
          rw [if_pos c4]
          by_cases c3 : u.getD 1 0 = 8402
          · rw [if_pos c3] at h1 ⊢
            refine cb73_ok w T t0 P s1 (s1 + n) a b ⟨#[u.getD 0 0, u.getD 1 0]⟩ _ (by omega) (by rw [hu]; exact two h1) ?_
            rw [c4, c3]; exact .inr (.inr (.inr (.inr (.inr (.inr (.inl ⟨by decide +kernel, by decide +kernel⟩))))))
          · rw [if_neg c3] at h1 ⊢
            refine cb73_ok w T t0 P s1 (s1 + n) a b ⟨#[u.getD 0 0]⟩ _ (by omega) (by rw [hu]; exact one h1) ?_
            rw [c4]; exact .inr (.inl ⟨by decide +kernel, by decide +kernel⟩)
        · rw [if_neg c4]
          by_cases c5 : u.getD 0 0 = 62
          · rw [if_pos (.inr (.inr c5))] at h1
            rw [if_pos c5]
            by_cases c3 : u.getD 1 0 = 8402
            · rw [if_pos c3] at h1 ⊢
              refine cb73_ok w T t0 P s1 (s1 + n) a b ⟨#[u.getD 0 0, u.getD 1 0]⟩ _ (by omega) (by rw [hu]; exact two h1) ?_
              rw [c5, c3]; exact .inr (.inr (.inr (.inr (.inr (.inr (.inr ⟨by decide +kernel, by decide +kernel⟩))))))
            · rw [if_neg c3] at h1 ⊢
              refine cb73_ok w T t0 P s1 (s1 + n) a b ⟨#[u.getD 0 0]⟩ _ (by omega) (by rw [hu]; exact one h1) ?_
              rw [c5]; exact .inr (.inr (.inl ⟨by decide +kernel, by decide +kernel⟩))
          · rw [if_neg (by rintro (e | e | e); exact c2 e; exact c4 e; exact c5 e)] at h1
            exact absurd h1 hn
theorem cut_name {T : List Nat} {s1 : Nat} : (⟨((T.drop (s1 + 1)).take (s1 + (1 + refLen ((T.drop s1).drop 1)) - (s1 + 1))).toArray⟩ : Str) = ⟨(refName ((T.drop s1).drop 1)).toArray⟩ := by
  unfold refName
  rw [List.drop_drop, show s1 + (1 + refLen (T.drop (s1 + 1))) - (s1 + 1) = refLen (T.drop (s1 + 1)) by omega]
theorem name_len {T : List Nat} {s1 : Nat} (hT : T.length ≤ 2000) : (⟨(refName ((T.drop s1).drop 1)).toArray⟩ : Str).length ≤ 1000000 := by
  show (refName ((T.drop s1).drop 1)).toArray.size ≤ 1000000
  rw [List.size_toArray]
  have := refName_len ((T.drop s1).drop 1)
  rw [List.length_drop, List.length_drop] at this
  omega
theorem amp_cat (y : List Nat) : Str.ofString "&amp;" ++ (⟨y.toArray⟩ : Str) ++ Str.ofString ";" = ⟨([38, 97, 109, 112, 59] ++ y ++ [59]).toArray⟩ := by
  have h1 : Str.ofString "&amp;" = ⟨#[38, 97, 109, 112, 59]⟩ := by decide +kernel
  have h2 : Str.ofString ";" = ⟨#[59]⟩ := by decide +kernel
  rw [h1, h2]
  refine congrArg Str.mk ?_
  rw [Str.cps_append]
  simp
theorem ent_cat (y : List Nat) : Str.ofString "&" ++ (⟨y.toArray⟩ : Str) ++ Str.ofString ";" = ⟨([38] ++ y ++ [59]).toArray⟩ := by
  have h1 : Str.ofString "&" = ⟨#[38]⟩ := by decide +kernel
  have h2 : Str.ofString ";" = ⟨#[59]⟩ := by decide +kernel
  rw [h1, h2]
  refine congrArg Str.mk ?_
  rw [Str.cps_append]
  simp
theorem hit93 {w : World} {P : Addr} {t0 : Tok} {T : List Nat} {s1 e : Nat} (hT : T.length ≤ 2000) : OkCb w 93 T t0 P s1 e (s1 + 1) (s1 + (1 + refLen ((T.drop s1).drop 1))) 1 8 (fun t => .str ⟨(cbE (T.drop s1)).toArray⟩ t) := by
  have := cb93_ok w T t0 P s1 e (s1 + 1) (s1 + (1 + refLen ((T.drop s1).drop 1))) _ (by omega) cut_name (name_len hT)
  rw [amp_cat] at this
  exact this
theorem hit103 {w : World} {P : Addr} {t0 : Tok} {T : List Nat} {s1 e : Nat} (hT : T.length ≤ 2000) : OkCb w 103 T t0 P s1 e (s1 + 1) (s1 + (1 + refLen ((T.drop s1).drop 1))) 1 8 (fun t => .str ⟨(cbR (T.drop s1)).toArray⟩ t) := by
  have := cb103_ok w T t0 P s1 e (s1 + 1) (s1 + (1 + refLen ((T.drop s1).drop 1))) _ (by omega) cut_name (name_len hT)
  rw [amp_cat, ent_cat] at this
  have e : (⟨(cbR (T.drop s1)).toArray⟩ : Str) = if isKnown ⟨(refName ((T.drop s1).drop 1)).toArray⟩ = true then ⟨([38] ++ refName ((T.drop s1).drop 1) ++ [59]).toArray⟩ else ⟨([38, 97, 109, 112, 59] ++ refName ((T.drop s1).drop 1) ++ [59]).toArray⟩ := by
    unfold cbR
    split <;> rfl
  rw [e]
  exact this

section
variable {w : World} {x : Str} {t0 : Tok}
    {p : Program} {loose : List Str} {mean : ExcName → Option Value} {mg mb : Str → Option Value} {dp un : Nat} {gd : Option (List Code)} {cn : Str} {cs : Scope} {ca : Addr} {ccd : Value} {cl : List (Str × Addr)} {outer : List Env} {A₀ : Around} {base h₀ : Heap} {L : Addr} {m : Str → Option Value} {news : List (Addr × Obj)} {s : Shared} {Q E : Value → Shared → Prop} {q : Addr}
theorem sub46 (B : Below A₀ base outer h₀) (F : Fr h₀ L s.heap m) (X : (hd.heap_39 w.params).In h₀) (N : News h₀ L s.heap news) (T : Top p loose mean mg mb h₀) (hk : cs.kind = .function) (hd' : dp + 1 < recursionLimit) (hu : un + 9 < cLine)
    (hq : (q, methodObj (.ref 83) (.ref 171)) ∈ news) (hS : SigS x) (hl : x.length ≤ 2000) (ret : ∀ (t : Tok) (h' : Heap) (tk' : Nat), Fr h₀ L h' m → News h₀ L h' news → Q (.str (subS mlAmp cbX x) t) { s with heap := h', toks := tk' }) :
    wpAny (model PySem.Challenge.pw_fq0002_01 w) (ktrTop dp un gd cn cs L ca ccd cl outer) (call (.builtin "re.Pattern.sub") [.ref 46, .ref q, .str x t0]) Q E s := by
  refine sub_use (f := 83) srch_amp (fun u => Nat.zero_le _) (fun u => Nat.le_trans (cbX_len u) (by omega)) (fun T s1 hT hs hm _ => ?_) (pat46 X) (isPat46 X) B F X N T hk hd' hu hq hS hl ret
  unfold mlAmp at hm ⊢
  by_cases c : inAmp ((T.drop s1).getD 0 0) = true
  · rw [if_pos c]
    refine hit83 hT hs rfl ?_
    simpa [inAmp, or_assoc] using c
  · rw [if_neg c] at hm; exact absurd rfl hm
theorem sub41 (B : Below A₀ base outer h₀) (F : Fr h₀ L s.heap m) (X : (hd.heap_39 w.params).In h₀) (N : News h₀ L s.heap news) (T : Top p loose mean mg mb h₀) (hk : cs.kind = .function) (hd' : dp + 1 < recursionLimit) (hu : un + 9 < cLine)
    (hq : (q, methodObj (.ref 83) (.ref 171)) ∈ news) (hS : SigS x) (hl : x.length ≤ 2000) (ret : ∀ (t : Tok) (h' : Heap) (tk' : Nat), Fr h₀ L h' m → News h₀ L h' news → Q (.str (subS mlBare cbX x) t) { s with heap := h', toks := tk' }) :
    wpAny (model PySem.Challenge.pw_fq0002_01 w) (ktrTop dp un gd cn cs L ca ccd cl outer) (call (.builtin "re.Pattern.sub") [.ref 41, .ref q, .str x t0]) Q E s := by
  refine sub_use (f := 83) srch_bare (fun u => Nat.zero_le _) (fun u => Nat.le_trans (cbX_len u) (by omega)) (fun T s1 hT hs hm _ => ?_) (pat41 X) (isPat41 X) B F X N T hk hd' hu hq hS hl ret
  unfold mlBare at hm ⊢
  by_cases c : (T.drop s1).getD 0 0 = 60 ∨ (T.drop s1).getD 0 0 = 62 ∨ ((T.drop s1).getD 0 0 = 38 ∧ refLen ((T.drop s1).drop 1) = 0)
  · rw [if_pos c]
    refine hit83 hT hs rfl ?_
    rcases c with c | c | c
    · exact .inr (.inl c)
    · exact .inr (.inr c)
    · exact .inl c.1
  · rw [if_neg c] at hm; exact absurd rfl hm
theorem sub51 (B : Below A₀ base outer h₀) (F : Fr h₀ L s.heap m) (X : (hd.heap_39 w.params).In h₀) (N : News h₀ L s.heap news) (T : Top p loose mean mg mb h₀) (hk : cs.kind = .function) (hd' : dp + 1 < recursionLimit) (hu : un + 9 < cLine)
    (hq : (q, methodObj (.ref 73) (.ref 171)) ∈ news) (hS : SigS x) (hl : x.length ≤ 2000) (ret : ∀ (t : Tok) (h' : Heap) (tk' : Nat), Fr h₀ L h' m → News h₀ L h' news → Q (.str (subS mlChr cbC x) t) { s with heap := h', toks := tk' }) :
    wpAny (model PySem.Challenge.pw_fq0002_01 w) (ktrTop dp un gd cn cs L ca ccd cl outer) (call (.builtin "re.Pattern.sub") [.ref 51, .ref q, .str x t0]) Q E s := by
  refine sub_use (f := 73) srch_chr (fun u => Nat.zero_le _) (fun u => Nat.le_trans (cbC_len u) (by omega)) (fun T s1 hT hs hm hl => ?_) (pat51 X) (isPat51 X) B F X N T hk hd' hu hq hS hl ret
  exact hit73 hT hs hm hl (.inr ⟨rfl, rfl⟩)
theorem sub56 (B : Below A₀ base outer h₀) (F : Fr h₀ L s.heap m) (X : (hd.heap_39 w.params).In h₀) (N : News h₀ L s.heap news) (T : Top p loose mean mg mb h₀) (hk : cs.kind = .function) (hd' : dp + 1 < recursionLimit) (hu : un + 9 < cLine)
    (hq : (q, methodObj (.ref 73) (.ref 171)) ∈ news) (hS : SigS x) (hl : x.length ≤ 2000) (ret : ∀ (t : Tok) (h' : Heap) (tk' : Nat), Fr h₀ L h' m → News h₀ L h' news → Q (.str (subS mlChA cbH x) t) { s with heap := h', toks := tk' }) :
    wpAny (model PySem.Challenge.pw_fq0002_01 w) (ktrTop dp un gd cn cs L ca ccd cl outer) (call (.builtin "re.Pattern.sub") [.ref 56, .ref q, .str x t0]) Q E s := by
  refine sub_use (f := 73) srch_chA (fun u => Nat.zero_le _) (fun u => Nat.le_trans (cbH_len u) (by omega)) (fun T s1 hT hs hm hl => ?_) (pat56 X) (isPat56 X) B F X N T hk hd' hu hq hS hl ret
  refine hit73 hT hs hm hl ?_
  by_cases c : (T.drop s1).getD 0 0 = 38
  · exact .inl ⟨c, by unfold mlChA sgA; rw [if_pos c], by unfold cbH; rw [if_pos c]⟩
  · exact .inr ⟨by unfold mlChA sgA; rw [if_neg c], by unfold cbH; rw [if_neg c]⟩
theorem sub36E (B : Below A₀ base outer h₀) (F : Fr h₀ L s.heap m) (X : (hd.heap_39 w.params).In h₀) (N : News h₀ L s.heap news) (T : Top p loose mean mg mb h₀) (hk : cs.kind = .function) (hd' : dp + 1 < recursionLimit) (hu : un + 9 < cLine)
    (hq : (q, methodObj (.ref 93) (.ref 171)) ∈ news) (hS : SigS x) (hl : x.length ≤ 2000) (ret : ∀ (t : Tok) (h' : Heap) (tk' : Nat), Fr h₀ L h' m → News h₀ L h' news → Q (.str (subS mlAny cbE x) t) { s with heap := h', toks := tk' }) :
    wpAny (model PySem.Challenge.pw_fq0002_01 w) (ktrTop dp un gd cn cs L ca ccd cl outer) (call (.builtin "re.Pattern.sub") [.ref 36, .ref q, .str x t0]) Q E s :=
  sub_use (f := 93) srch_any (fun u => Nat.le_add_right _ _) (fun u => Nat.le_trans (cbE_len u) (by omega)) (fun T s1 hT hs hm _ => hit93 hT) (pat36 X) (isPat36 X) B F X N T hk hd' hu hq hS hl ret
theorem sub36R (B : Below A₀ base outer h₀) (F : Fr h₀ L s.heap m) (X : (hd.heap_39 w.params).In h₀) (N : News h₀ L s.heap news) (T : Top p loose mean mg mb h₀) (hk : cs.kind = .function) (hd' : dp + 1 < recursionLimit) (hu : un + 9 < cLine)
    (hq : (q, methodObj (.ref 103) (.ref 171)) ∈ news) (hS : SigS x) (hl : x.length ≤ 2000) (ret : ∀ (t : Tok) (h' : Heap) (tk' : Nat), Fr h₀ L h' m → News h₀ L h' news → Q (.str (subS mlAny cbR x) t) { s with heap := h', toks := tk' }) :
    wpAny (model PySem.Challenge.pw_fq0002_01 w) (ktrTop dp un gd cn cs L ca ccd cl outer) (call (.builtin "re.Pattern.sub") [.ref 36, .ref q, .str x t0]) Q E s :=
  sub_use (f := 103) srch_any (fun u => Nat.le_add_right _ _) (fun u => Nat.le_trans (cbR_len u) (by omega)) (fun T s1 hT hs hm _ => hit103 hT) (pat36 X) (isPat36 X) B F X N T hk hd' hu hq hS hl ret
end
end Mine
end
section
open PySem PySem.W PySem.Calls PyProof.Rows PyProof.V PySem.Spec
set_option maxRecDepth 100000
namespace Mine
theorem offCls : True := by
  w_top off
  trivial
local macro_rules | `(tactic| walk_at "getMethod ref") => `(tactic| (k_here; (with_reducible show wpAny _ _ (getMethod (Value.ref _) (Str.ofString "sub") _) _ _ _); k_dflt (refine' meth_sub ?F ?X ?k ?_; (case F => k_asm); (case X => k_asm); (case k => k_is); k_whole)))
local macro_rules | `(tactic| walk_at "call builtin:re.Pattern.sub") => `(tactic| (k_here; k_dflt (first
  | (refine' sub46 ?B ?F ?X ?N ?T ?k ?d ?u ?q ?S ?l ?_; (case B => k_asm); (case F => k_asm); (case X => k_asm); (case N => k_asm); (case T => k_asm); (case k => first | rfl | assumption); (case d => ktr_room); (case u => ktr_units); (case q => k_mem); (case S => assumption); (case l => assumption); intro t' h' tk' F' N'; (try k_sweep))
  | (refine' sub41 ?B ?F ?X ?N ?T ?k ?d ?u ?q ?S ?l ?_; (case B => k_asm); (case F => k_asm); (case X => k_asm); (case N => k_asm); (case T => k_asm); (case k => first | rfl | assumption); (case d => ktr_room); (case u => ktr_units); (case q => k_mem); (case S => assumption); (case l => assumption); intro t' h' tk' F' N'; (try k_sweep))
  | (refine' sub51 ?B ?F ?X ?N ?T ?k ?d ?u ?q ?S ?l ?_; (case B => k_asm); (case F => k_asm); (case X => k_asm); (case N => k_asm); (case T => k_asm); (case k => first | rfl | assumption); (case d => ktr_room); (case u => ktr_units); (case q => k_mem); (case S => assumption); (case l => assumption); intro t' h' tk' F' N'; (try k_sweep))
  | (refine' sub56 ?B ?F ?X ?N ?T ?k ?d ?u ?q ?S ?l ?_; (case B => k_asm); (case F => k_asm); (case X => k_asm); (case N => k_asm); (case T => k_asm); (case k => first | rfl | assumption); (case d => ktr_room); (case u => ktr_units); (case q => k_mem); (case S => assumption); (case l => assumption); intro t' h' tk' F' N'; (try k_sweep))
  | (refine' sub36E ?B ?F ?X ?N ?T ?k ?d ?u ?q ?S ?l ?_; (case B => k_asm); (case F => k_asm); (case X => k_asm); (case N => k_asm); (case T => k_asm); (case k => first | rfl | assumption); (case d => ktr_room); (case u => ktr_units); (case q => k_mem); (case S => assumption); (case l => assumption); intro t' h' tk' F' N'; (try k_sweep))
  | (refine' sub36R ?B ?F ?X ?N ?T ?k ?d ?u ?q ?S ?l ?_; (case B => k_asm); (case F => k_asm); (case X => k_asm); (case N => k_asm); (case T => k_asm); (case k => first | rfl | assumption); (case d => ktr_room); (case u => ktr_units); (case q => k_mem); (case S => assumption); (case l => assumption); intro t' h' tk' F' N'; (try k_sweep)))))
theorem filled5 : True := by
  have hFill : (fun (_ : OpenLaw) (_ : Params → Frag) => True) PySem.Challenge.rw_fq0002_01 hd.heap_39 := by k_fill; trivial
  trivial
set_option maxHeartbeats 8000000 in
theorem html_ok (w : World) (x : Str) (t0 : Tok) (hS : SigS x) (hl : x.length ≤ 2000) : Ok w 145 [.ref 171, .str x t0] 2 20 (fun t => .str (subS mlChA cbH x) t) := by
  have _ := filled5
  unfold Ok
  dsimp only [CbRet]
  intros
  rename_i hret
  k_dflt cell_enter
  k_steps
  all_goals (exact cb_retS hret rfl (by k_asm) (by first | k_asm | exact news_tl (by k_asm)))
set_option maxHeartbeats 8000000 in
theorem html5_ok (w : World) (x : Str) (t0 : Tok) (hS : SigS x) (hl : x.length ≤ 2000) (hS2 : SigS (subS mlAny cbE x)) (hl2 : (subS mlAny cbE x).length ≤ 2000) : Ok w 155 [.ref 171, .str x t0] 2 20 (fun t => .str (subS mlChr cbC (subS mlAny cbE x)) t) := by
  have _ := filled5
  unfold Ok
  dsimp only [CbRet]
  intros
  rename_i hret
  k_dflt cell_enter
  k_steps
  all_goals (exact cb_retS hret rfl (by k_asm) (by first | k_asm | exact news_tl (by k_asm) | exact news_tl (news_tl (by k_asm))))
set_option maxHeartbeats 8000000 in
theorem raw_ok (w : World) (x : Str) (t0 : Tok) (hS : SigS x) (hl : x.length ≤ 2000) (hS2 : SigS (subS mlAny cbR x)) (hl2 : (subS mlAny cbR x).length ≤ 2000) : Ok w 165 [.ref 171, .str x t0] 2 20 (fun t => .str (subS mlChr cbC (subS mlAny cbR x)) t) := by
  have _ := filled5
  unfold Ok
  dsimp only [CbRet]
  intros
  rename_i hret
  k_dflt cell_enter
  k_steps
  all_goals (exact cb_retS hret rfl (by k_asm) (by first | k_asm | exact news_tl (by k_asm) | exact news_tl (news_tl (by k_asm))))
end Mine
end
section
open PySem PySem.W PySem.Calls PyProof.Rows PyProof.V PySem.Spec
namespace Mine
def mapC (c : Nat) (z : List Nat) (l : List Nat) : List Nat := l.flatMap fun a => if a = c then z else [a]
theorem mapC_app (c : Nat) (z a b : List Nat) : mapC c z (a ++ b) = mapC c z a ++ mapC c z b := by
  unfold mapC
  rw [List.flatMap_append]
theorem mapC_hit (c : Nat) (z : List Nat) : mapC c z [c] = z := by simp [mapC]
theorem mapC_free {c : Nat} {z : List Nat} (l : List Nat) (h : c ∉ l) : mapC c z l = l := by
  induction l with
  | nil => rfl
  | cons k r ih =>
    have hk : mapC c z [k] = [k] := by
      have : k ≠ c := by rintro rfl; exact h (.head _)
      simp [mapC, this]
    calc mapC c z (k :: r) = mapC c z ([k] ++ r) := rfl
      _ = [k] ++ r := by rw [mapC_app, hk, ih (fun m => h (.tail _ m))]
/-- what replaces the sign c in a joined text is the other joint -/
theorem mapC_join {c : Nat} {z : Str} (parts : List Str) (h : ∀ p ∈ parts, c ∉ p.cps.toList) : mapC c z.cps.toList (Str.join ⟨#[c]⟩ parts).cps.toList = (Str.join z parts).cps.toList := by
  induction parts with
  | nil => rfl
  | cons p rest ih =>
    have hp : mapC c z.cps.toList p.cps.toList = p.cps.toList := mapC_free _ (h p (.head _))
    have ih' := ih fun a ha => h a (.tail _ ha)
    cases rest with
    | nil => exact hp
    | cons q r =>
      have cut : ∀ j : Str, (Str.join j (p :: q :: r)).cps.toList = p.cps.toList ++ (j.cps.toList ++ (Str.join j (q :: r)).cps.toList) := by
        intro j
        show (p ++ j ++ Str.join j (q :: r)).cps.toList = _
        rw [Str.cps_append, Str.cps_append, Array.toList_append, Array.toList_append, List.append_assoc]
      rw [cut, cut, mapC_app, mapC_app, hp, ih']
      congr 2
      exact mapC_hit c _
theorem replace_map (x z : Str) (c : Nat) : (Txt.replace x ⟨#[c]⟩ z).cps.toList = mapC c z.cps.toList x.cps.toList := by
  rw [StrLaws.replace_one, ← mapC_join _ (StrLaws.split_free x c), StrLaws.join_split]
theorem mapC_len {c n : Nat} {z : List Nat} (hz : z.length ≤ n) (hn : 1 ≤ n) : ∀ l : List Nat, (mapC c z l).length ≤ n * l.length
  | [] => Nat.zero_le _
  | k :: r => by
    have ih := mapC_len (c := c) hz hn r
    unfold mapC at ih ⊢
    rw [List.flatMap_cons, List.length_append, List.length_cons, Nat.mul_succ]
    have : (if k = c then z else [k]).length ≤ n := by split; exact hz; exact hn
    omega
theorem replace_len {x z : Str} {c n : Nat} (hz : z.length ≤ n) (hn : 1 ≤ n) : (Txt.replace x ⟨#[c]⟩ z).length ≤ n * x.length := by
  have := mapC_len (c := c) (z := z.cps.toList) (n := n) (by simpa [Str.length] using hz) hn x.cps.toList
  rw [← replace_map] at this
  simpa [Str.length] using this
def qSt : Str := ⟨#[34]⟩
theorem q_is : Str.ofString "\"" = ⟨#[34]⟩ := by decide +kernel
theorem a_is : Str.ofString "'" = ⟨#[39]⟩ := by decide +kernel
theorem quot_is : Str.ofString "&quot;" = ⟨#[38, 113, 117, 111, 116, 59]⟩ := by decide +kernel
def quotedL (l : List Nat) : List Nat :=
  if 34 ∈ l then (if 39 ∈ l then 34 :: mapC 34 [38, 113, 117, 111, 116, 59] l ++ [34] else 39 :: l ++ [39]) else 34 :: l ++ [34]
def quotedS (x : Str) : Str := ⟨(quotedL x.cps.toList).toArray⟩
theorem not_in {x : Str} {c : Nat} (h : (Builtin.Str.occurrences x ⟨#[c]⟩ 0 x.length 1).isEmpty = true) : c ∉ x.cps.toList := fun m => by
  have := StrLaws.found_one x c
  rw [h, decide_eq_true m] at this
  cases this
theorem is_in {x : Str} {c : Nat} (h : (Builtin.Str.occurrences x ⟨#[c]⟩ 0 x.length 1).isEmpty = false) : c ∈ x.cps.toList := by
  have := StrLaws.found_one x c
  rw [h] at this
  exact of_decide_eq_true this.symm
theorem cat3 (a b : Nat) (x : Str) : (⟨#[a]⟩ : Str) ++ x ++ ⟨#[b]⟩ = ⟨(a :: x.cps.toList ++ [b]).toArray⟩ := by
  apply Str.ext'
  rw [Str.cps_append, Str.cps_append]
  apply Array.toList_inj.mp
  simp
theorem quoted_a {x : Str} (h : (Builtin.Str.occurrences x (Str.ofString "\"") 0 x.length 1).isEmpty = true) : Str.ofString "\"" ++ x ++ Str.ofString "\"" = quotedS x := by
  rw [q_is] at *
  unfold quotedS quotedL
  rw [if_neg (not_in h), cat3]
theorem quoted_b {x : Str} (h : (Builtin.Str.occurrences x (Str.ofString "\"") 0 x.length 1).isEmpty = false) (h2 : (Builtin.Str.occurrences x (Str.ofString "'") 0 x.length 1).isEmpty = true) : Str.ofString "'" ++ x ++ Str.ofString "'" = quotedS x := by
  rw [q_is] at *
  rw [a_is] at *
  unfold quotedS quotedL
  rw [if_pos (is_in h), if_neg (not_in h2), cat3]
theorem quoted_c {x : Str} (h : (Builtin.Str.occurrences x (Str.ofString "\"") 0 x.length 1).isEmpty = false) (h2 : (Builtin.Str.occurrences x (Str.ofString "'") 0 x.length 1).isEmpty = false) :
    Str.ofString "\"" ++ Txt.replace x (Str.ofString "\"") (Str.ofString "&quot;") ++ Str.ofString "\"" = quotedS x := by
  rw [q_is] at *
  rw [a_is] at h2
  unfold quotedS quotedL
  rw [if_pos (is_in h), if_pos (is_in h2), cat3, replace_map, quot_is]
end Mine
end
section
open PySem PySem.W PySem.Calls PyProof.Rows PyProof.V PySem.Spec
set_option maxRecDepth 100000
namespace Mine
theorem offQuo : True := by
  w_top off
  trivial
local macro_rules | `(tactic| walk_at "mine none") => `(tactic| skip)
local macro_rules | `(tactic| walk_at "execs cons") => `(tactic| (k_here; (with_reducible refine wpAny_execs_cons ?_); try dsimp only))
local macro_rules | `(tactic| walk_at "binaryOp Add str str") => `(tactic| (k_here; (with_reducible show wpAny _ _ (binaryOp Operator.Add (Value.str _ _) (Value.str _ _)) _ _ _); (refine KOpn.add ?_ ?_; (focus ((try simp only [Str.length_append]); omega)); intro _ _ _)))
theorem filled6 : True := by
  have hFill : (fun (_ : OpenLaw) (_ : Params → Frag) => True) PySem.Challenge.rw_fq0002_01 hd.heap_39 := by k_fill; trivial
  trivial
set_option maxHeartbeats 8000000 in
theorem quoted_ok (w : World) (x : Str) (t0 : Tok) (hl : x.length ≤ 20000) : Ok w 113 [.ref 171, .str x t0] 2 20 (fun t => .str (quotedS x) t) := by
  have _ := filled6
  have hq1 : (Str.ofString "\"").length = 1 := by decide +kernel
  have ha1 : (Str.ofString "'").length = 1 := by decide +kernel
  have hrep : (Txt.replace x (Str.ofString "\"") (Str.ofString "&quot;")).length ≤ 6 * x.length := by rw [q_is]; exact replace_len (by rw [quot_is]; decide) (by decide)
  unfold Ok
  dsimp only [CbRet]
  intros
  rename_i hret
  k_dflt cell_enter
  k_steps
  all_goals (first | exact cb_retS hret (quoted_a (by assumption)) (by k_asm) (by k_asm) | exact cb_retS hret (quoted_b (by assumption) (by assumption)) (by k_asm) (by k_asm) | exact cb_retS hret (quoted_c (by assumption) (by assumption)) (by k_asm) (by k_asm))
end Mine
end
section
open PySem PySem.W PySem.Calls PyProof.Rows PyProof.V PySem.Spec
set_option maxRecDepth 100000
namespace Mine
theorem offXml : True := by
  w_top off
  trivial
local macro_rules | `(tactic| walk_at "mine none") => `(tactic| skip)
section
variable {w : World} {f : Addr} {d u : Nat} {R : Tok → Value} {vs : List Value}
    {p : Program} {loose : List Str} {mean : ExcName → Option Value} {mg mb : Str → Option Value} {dp un : Nat} {gd : Option (List Code)} {cn : Str} {cs : Scope} {ca : Addr} {ccd : Value} {cl : List (Str × Addr)} {outer : List Env} {A₀ : Around} {base h₀ : Heap} {L : Addr} {m : Str → Option Value} {news : List (Addr × Obj)} {s : Shared} {Q E : Value → Shared → Prop} {q : Addr}
theorem ok_meth (H : Ok w f (.ref 171 :: vs) d u R) (B : Below A₀ base outer h₀) (F : Fr h₀ L s.heap m) (X : (hd.heap_39 w.params).In h₀) (N : News h₀ L s.heap news) (T : Top p loose mean mg mb h₀) (hk : cs.kind = .function) (hd' : dp + d < recursionLimit) (hu : un + u < cLine)
    (hq : (q, methodObj (.ref f) (.ref 171)) ∈ news) (ret : ∀ (t : Tok) (h' : Heap) (tk' : Nat), Fr h₀ L h' m → News h₀ L h' news → Q (R t) { s with heap := h', toks := tk' }) :
    wpAny (model PySem.Challenge.pw_fq0002_01 w) (ktrTop dp un gd cn cs L ca ccd cl outer) (call (.ref q) vs) Q E s :=
  call_meth N hq (H p loose mean mg mb dp un gd cn cs ca ccd cl outer A₀ base h₀ L m news s Q E B F X N T hk hd' hu ret)
theorem ok_call (H : Ok w f vs d u R) (B : Below A₀ base outer h₀) (F : Fr h₀ L s.heap m) (X : (hd.heap_39 w.params).In h₀) (N : News h₀ L s.heap news) (T : Top p loose mean mg mb h₀) (hk : cs.kind = .function) (hd' : dp + d < recursionLimit) (hu : un + u < cLine)
    (ret : ∀ (t : Tok) (h' : Heap) (tk' : Nat), Fr h₀ L h' m → News h₀ L h' news → Q (R t) { s with heap := h', toks := tk' }) :
    wpAny (model PySem.Challenge.pw_fq0002_01 w) (ktrTop dp un gd cn cs L ca ccd cl outer) (call (.ref f) vs) Q E s :=
  wpAny_call (H p loose mean mg mb dp un gd cn cs ca ccd cl outer A₀ base h₀ L m news s Q E B F X N T hk hd' hu ret)
end
local macro_rules | `(tactic| walk_at "getMethod ref") => `(tactic| (k_here; (with_reducible show wpAny _ _ (getMethod (Value.ref _) (Str.ofString "sub") _) _ _ _); k_dflt (refine' meth_sub ?F ?X ?k ?_; (case F => k_asm); (case X => k_asm); (case k => k_is); k_whole)))
local macro_rules | `(tactic| walk_at "call builtin:re.Pattern.sub") => `(tactic| (k_here; k_dflt (first
  | (refine' sub46 ?B ?F ?X ?N ?T ?k ?d ?u ?q ?S ?l ?_; (case B => k_asm); (case F => k_asm); (case X => k_asm); (case N => k_asm); (case T => k_asm); (case k => first | rfl | assumption); (case d => ktr_room); (case u => ktr_units); (case q => k_mem); (case S => assumption); (case l => assumption); intro t' h' tk' F' N'; (try k_sweep))
  | (refine' sub41 ?B ?F ?X ?N ?T ?k ?d ?u ?q ?S ?l ?_; (case B => k_asm); (case F => k_asm); (case X => k_asm); (case N => k_asm); (case T => k_asm); (case k => first | rfl | assumption); (case d => ktr_room); (case u => ktr_units); (case q => k_mem); (case S => assumption); (case l => assumption); intro t' h' tk' F' N'; (try k_sweep)))))
local macro_rules | `(tactic| walk_at "call ref") => `(tactic| (k_here; k_dflt (refine' ok_meth (quoted_ok _ _ _ ?l) ?B ?F ?X ?N ?T ?k ?d ?u ?q ?_; (case B => k_asm); (case F => k_asm); (case X => k_asm); (case N => k_asm); (case T => k_asm); (case k => first | rfl | assumption); (case q => k_mem); (case d => ktr_room); (case u => ktr_units); (case l => assumption); intro t' h' tk' F' N'; (try k_sweep))))
theorem filled7 : True := by
  have hFill : (fun (_ : OpenLaw) (_ : Params → Frag) => True) PySem.Challenge.rw_fq0002_01 hd.heap_39 := by k_fill; trivial
  trivial
set_option maxHeartbeats 8000000 in
theorem xml_ok (w : World) (x : Str) (t0 : Tok) (hS : SigS x) (hl : x.length ≤ 2000) : Ok w 124 [.ref 171, .str x t0] 2 20 (fun t => .str (subS mlAmp cbX x) t) := by
  have _ := filled7
  unfold Ok
  dsimp only [CbRet]
  intros
  rename_i hret
  k_dflt (refine' code_def ?k1 ?k2 ?k3 ?k4 ?k5 ?kA ?kF ?kK ?k6 ?k7 ?k8 ?k9 ?kB ?_ ?c2 ?c3 ?c4 ?c5; (case kA => exact rfl); (case kF => exact rfl); (case kK => assumption); (case k1 => k_asm); (case k2 => k_asm); (case k3 => k_asm); (case k4 => k_asm); (case k5 => k_asm); (case k6 => k_is); (case k7 => k_is); (case k8 => ktr_room); (case k9 => exact binds_K (by k_in) rfl (by k_is) rfl rfl rfl); (case c5 => decide); (case kB => exact locs rfl); (case c2 => exact rfl); (case c3 => exact rfl); (case c4 => exact rfl); k_whole; intro g' L' h' FG' F' N' B' X' T'; (try dsimp only); (try k_lift B'); (try k_fold))
  k_steps
  all_goals (exact cb_retS hret rfl (by k_asm) (by first | k_asm | exact news_tl (by k_asm)))
set_option maxHeartbeats 8000000 in
theorem bare_ok (w : World) (x : Str) (t0 : Tok) (hS : SigS x) (hl : x.length ≤ 2000) : Ok w 135 [.ref 171, .str x t0] 2 20 (fun t => .str (subS mlBare cbX x) t) := by
  have _ := filled7
  unfold Ok
  dsimp only [CbRet]
  intros
  rename_i hret
  k_dflt (refine' code_def ?k1 ?k2 ?k3 ?k4 ?k5 ?kA ?kF ?kK ?k6 ?k7 ?k8 ?k9 ?kB ?_ ?c2 ?c3 ?c4 ?c5; (case kA => exact rfl); (case kF => exact rfl); (case kK => assumption); (case k1 => k_asm); (case k2 => k_asm); (case k3 => k_asm); (case k4 => k_asm); (case k5 => k_asm); (case k6 => k_is); (case k7 => k_is); (case k8 => ktr_room); (case k9 => exact binds_K (by k_in) rfl (by k_is) rfl rfl rfl); (case c5 => decide); (case kB => exact locs rfl); (case c2 => exact rfl); (case c3 => exact rfl); (case c4 => exact rfl); k_whole; intro g' L' h' FG' F' N' B' X' T'; (try dsimp only); (try k_lift B'); (try k_fold))
  k_steps
  all_goals (exact cb_retS hret rfl (by k_asm) (by first | k_asm | exact news_tl (by k_asm)))
set_option maxHeartbeats 8000000 in
theorem xmlq_ok (w : World) (x : Str) (t0 : Tok) (hS : SigS x) (hl : x.length ≤ 2000) (hl2 : (subS mlAmp cbX x).length ≤ 20000) : Ok w 124 [.ref 171, .str x t0, .bool true] 4 40 (fun t => .str (quotedS (subS mlAmp cbX x)) t) := by
  have _ := filled7
  unfold Ok
  dsimp only [CbRet]
  intros
  rename_i hret
  k_dflt (refine' code_def ?k1 ?k2 ?k3 ?k4 ?k5 ?kA ?kF ?kK ?k6 ?k7 ?k8 ?k9 ?kB ?_ ?c2 ?c3 ?c4 ?c5; (case kA => exact rfl); (case kF => exact rfl); (case kK => assumption); (case k1 => k_asm); (case k2 => k_asm); (case k3 => k_asm); (case k4 => k_asm); (case k5 => k_asm); (case k6 => k_is); (case k7 => k_is); (case k8 => ktr_room); (case k9 => exact binds_K (by k_in) rfl (by k_is) rfl rfl rfl); (case c5 => decide); (case kB => exact locs rfl); (case c2 => exact rfl); (case c3 => exact rfl); (case c4 => exact rfl); k_whole; intro g' L' h' FG' F' N' B' X' T'; (try dsimp only); (try k_lift B'); (try k_fold))
  k_steps
  all_goals (exact cb_retS hret rfl (by k_asm) (by first | k_asm | exact news_tl (by k_asm) | exact news_tl (news_tl (by k_asm))))
set_option maxHeartbeats 8000000 in
theorem bareq_ok (w : World) (x : Str) (t0 : Tok) (hS : SigS x) (hl : x.length ≤ 2000) (hl2 : (subS mlBare cbX x).length ≤ 20000) : Ok w 135 [.ref 171, .str x t0, .bool true] 4 40 (fun t => .str (quotedS (subS mlBare cbX x)) t) := by
  have _ := filled7
  unfold Ok
  dsimp only [CbRet]
  intros
  rename_i hret
  k_dflt (refine' code_def ?k1 ?k2 ?k3 ?k4 ?k5 ?kA ?kF ?kK ?k6 ?k7 ?k8 ?k9 ?kB ?_ ?c2 ?c3 ?c4 ?c5; (case kA => exact rfl); (case kF => exact rfl); (case kK => assumption); (case k1 => k_asm); (case k2 => k_asm); (case k3 => k_asm); (case k4 => k_asm); (case k5 => k_asm); (case k6 => k_is); (case k7 => k_is); (case k8 => ktr_room); (case k9 => exact binds_K (by k_in) rfl (by k_is) rfl rfl rfl); (case c5 => decide); (case kB => exact locs rfl); (case c2 => exact rfl); (case c3 => exact rfl); (case c4 => exact rfl); k_whole; intro g' L' h' FG' F' N' B' X' T'; (try dsimp only); (try k_lift B'); (try k_fold))
  k_steps
  all_goals (exact cb_retS hret rfl (by k_asm) (by first | k_asm | exact news_tl (by k_asm) | exact news_tl (news_tl (by k_asm))))
end Mine
end
section
open PySem PySem.Sre PyProof.Rows PyProof
namespace Mine
open PySem.Builtin.Str
theorem beq_list {x y : Str} : (x == y) = decide (x.cps.toList = y.cps.toList) := by
  rw [Bool.eq_iff_iff, beq_iff_eq, decide_eq_true_eq]
  constructor
  · rintro rfl; rfl
  · intro h
    cases x; cases y
    congr 1
    exact Array.toList_inj.mp h
theorem str_of {x : Str} {l : List Nat} (h : x.cps.toList = l) : x = ⟨l.toArray⟩ := by
  cases x; subst h; simp
theorem slice_idx (a b n : Nat) (hab : a ≤ b) : strSliceIndices (some (a : Int)) (some (b : Int)) 1 n = (List.range (min b n - min a n)).map (fun k => min a n + k) := by
  rw [← StrLaws.strSliceIndices_plain (a := min a n) (b := min b n) (len := n) (by omega) (by omega)]
  have h1 : ¬ ((a : Int) < 0) := by omega
  have h2 : ¬ ((b : Int) < 0) := by omega
  have h3 : ¬ (((min a n : Nat) : Int) < 0) := by omega
  have h4 : ¬ (((min b n : Nat) : Int) < 0) := by omega
  have e1 : max (0 : Int) (min (a : Int) (n : Int)) = max (0 : Int) (min ((min a n : Nat) : Int) (n : Int)) := by omega
  have e2 : max (0 : Int) (min (b : Int) (n : Int)) = max (0 : Int) (min ((min b n : Nat) : Int) (n : Int)) := by omega
  simp only [strSliceIndices, sliceRange, h1, h2, h3, h4, if_false, e1, e2, show ((1 : Int) > 0) = True from by simp, if_true]
theorem slice_list (x : Str) (a b : Nat) (hab : a ≤ b) : (Txt.slice x (some (a : Int)) (some (b : Int))).cps.toList = (x.cps.toList.drop a).take (b - a) := by
  have hx : x.length = x.cps.toList.length := by simp [Str.length]
  unfold Txt.slice
  rw [slice_idx a b x.length hab]
  split
  · rename_i h
    simp only [List.length_map, List.length_range, beq_self_eq_true, Bool.true_and, beq_iff_eq] at h
    rcases Nat.eq_zero_or_pos x.length with h0 | h0
    · have : x.cps.toList = [] := List.eq_nil_of_length_eq_zero (by omega)
      rw [this]; simp
    · have ha : a = 0 := by omega
      subst ha
      rw [List.drop_zero, List.take_of_length_le (by omega)]
  · have h := StrLaws.picks x.cps.toList (min b x.length - min a x.length) (min a x.length) (by omega)
    have e : (List.filterMap (fun i => x.cps[i]?) (List.map (fun k => min a x.length + k) (List.range (min b x.length - min a x.length)))) = (List.drop (min a x.length) x.cps.toList).take (min b x.length - min a x.length) := by
      simpa using h
    show (List.filterMap (fun i => x.cps[i]?) _).toArray.toList = _
    rw [e]
    rcases Nat.le_total a x.length with h1 | h1
    · rw [Nat.min_eq_left h1]
      rcases Nat.le_total b x.length with h2 | h2
      · rw [Nat.min_eq_left h2]
      · rw [Nat.min_eq_right h2, List.take_of_length_le (by rw [List.length_drop]; omega), List.take_of_length_le (by rw [List.length_drop]; omega)]
    · rw [Nat.min_eq_right h1, List.drop_of_length_le (by omega), List.drop_of_length_le (by omega)]
      simp
theorem slice_list' (x : Str) (i j : Int) (a b : Nat) (hi : i = a) (hj : j = b) (hab : a ≤ b) : (Txt.slice x (some i) (some j)).cps.toList = (x.cps.toList.drop a).take (b - a) := by
  subst hi; subst hj; exact slice_list x a b hab
theorem getD_list (x : Str) (i : Nat) : x.cps.getD i 0 = x.cps.toList.getD i 0 := by
  simp [Array.getD_eq_getD_getElem?, List.getD_eq_getElem?_getD]
theorem len_list (x : Str) : x.length = x.cps.toList.length := by simp [Str.length]
theorem take_oneL {L : List Nat} {a c : Nat} : (L.drop a).take 1 = [c] ↔ a < L.length ∧ L.getD a 0 = c := by
  rw [← head_drop]
  cases h : L.drop a with
  | nil => simp
  | cons d r => simp
/-- the walk down a reference: what its length is, and what was seen up to e -/
def RefAt (p : Nat → Bool) (x : Str) (k s : Nat) (e : Int) : Prop :=
  refLen (x.cps.toList.drop (k + 1)) = (if endOk p (x.cps.toList.drop (k + 1 + s)) = 0 then 0 else s + endOk p (x.cps.toList.drop (k + 1 + s))) ∧
  (((k + 1 + s : Nat) : Int) ≤ e ∧ e ≤ (x.length : Int) ∧ ∀ i : Nat, k + 1 + s ≤ i → (i : Int) < e → p (x.cps.toList.getD i 0) = true)
def Stop (p : Nat → Bool) (x : Str) (e : Int) : Prop := (x.length : Int) ≤ e ∨ p (x.cps.toList.getD e.toNat 0) = false
section
variable {p : Nat → Bool} {x : Str} {k s : Nat} {e : Int}
theorem ref_step (h : RefAt p x k s e) (h0 : e < x.length) (h1 : p (x.cps.toList.getD e.toNat 0) = true) : RefAt p x k s (e + 1) := by
  obtain ⟨hm, h2, h3, h4⟩ := h
  refine ⟨hm, by omega, by omega, fun i hi hl => ?_⟩
  by_cases he : (i : Int) < e
  · exact h4 i hi he
  · have : i = e.toNat := by omega
    rw [this]; exact h1
theorem run_len {L : List Nat} {a n : Nat} (hn : a + n ≤ L.length) (h : ∀ i, a ≤ i → i < a + n → p (L.getD i 0) = true) (hs : L.length ≤ a + n ∨ p (L.getD (a + n) 0) = false) : ((L.drop a).takeWhile p).length = n := by
  have ⟨h1, h2, h3⟩ := takeWhile_facts p (L.drop a)
  rw [List.length_drop] at h2 h3
  rcases Nat.lt_trichotomy ((L.drop a).takeWhile p).length n with hlt | he | hgt
  · have q := h3 (by omega)
    rw [getD_drop, h _ (by omega) (by omega)] at q
    cases q
  · exact he
  · have q := h1 n hgt
    rw [getD_drop] at q
    rcases hs with hs | hs
    · omega
    · rw [hs] at q; cases q
theorem ref_len (h : RefAt p x k s e) (hs : Stop p x e) : ((x.cps.toList.drop (k + 1 + s)).takeWhile p).length = e.toNat - (k + 1 + s) := by
  obtain ⟨hm, h2, h3, h4⟩ := h
  rw [len_list] at h3
  refine run_len (by omega) (fun i hi hl => h4 i hi (by omega)) ?_
  have e1 : k + 1 + s + (e.toNat - (k + 1 + s)) = e.toNat := by omega
  rw [e1]
  rcases hs with hs | hs
  · left; rw [len_list] at hs; omega
  · exact .inr hs
theorem ref_yes (h : RefAt p x k s e) (hs : Stop p x e) (h1 : ((k + 1 + s : Nat) : Int) < e) (h2 : (Txt.slice x (some e) (some (e + 1)) == Str.ofString ";") = true) :
    Txt.slice x (some ((k : Int) + 1)) (some e) = ⟨(refName (x.cps.toList.drop (k + 1))).toArray⟩ := by
  have hl := ref_len h hs
  obtain ⟨hm, -, h3, h4⟩ := h
  rw [beq_list, decide_eq_true_eq, slice_list' x e (e + 1) e.toNat (e.toNat + 1) (by omega) (by omega) (by omega)] at h2
  have e1 : e.toNat + 1 - e.toNat = 1 := by omega
  have e59 : (Str.ofString ";").cps.toList = [59] := rfl
  rw [e1, e59] at h2
  have hk : endOk p (x.cps.toList.drop (k + 1 + s)) = e.toNat - (k + 1 + s) := by
    unfold endOk
    rw [hl, List.drop_drop, show k + 1 + s + (e.toNat - (k + 1 + s)) = e.toNat by omega, if_pos]
    exact ⟨by omega, (head_drop _ _ _).mpr (take_oneL.mp h2)⟩
  refine str_of ?_
  rw [slice_list' x _ _ (k + 1) e.toNat (by omega) (by omega) (by omega)]
  unfold refName
  rw [hm, hk, if_neg (by omega)]
  congr 1
  omega
theorem ref_no {b : Str} (hb : b = Str.ofString "") (h : RefAt p x k s e) (hs : Stop p x e) (h2 : ((k + 1 + s : Nat) : Int) < e → (Txt.slice x (some e) (some (e + 1)) == Str.ofString ";") = false) :
    b = ⟨(refName (x.cps.toList.drop (k + 1))).toArray⟩ := by
  have hl := ref_len h hs
  obtain ⟨hm, h5, h3, h4⟩ := h
  have hk : endOk p (x.cps.toList.drop (k + 1 + s)) = 0 := by
    unfold endOk
    rw [hl, List.drop_drop, show k + 1 + s + (e.toNat - (k + 1 + s)) = e.toNat by omega]
    split
    · rename_i hh
      have q := h2 (by omega)
      rw [beq_list, decide_eq_false_iff_not, slice_list' x e (e + 1) e.toNat (e.toNat + 1) (by omega) (by omega) (by omega)] at q
      have e1 : e.toNat + 1 - e.toNat = 1 := by omega
      have e59 : (Str.ofString ";").cps.toList = [59] := rfl
      rw [e1, e59] at q
      exact absurd (take_oneL.mpr ((head_drop _ _ _).mp hh.2)) q
    · rfl
  rw [hk, if_pos rfl] at hm
  subst hb
  unfold refName
  rw [hm]
  rfl
theorem two_of (x : Str) (a : Nat) (i j : Int) (hi : i = a) (hj : j = a + 2) : (Txt.slice x (some i) (some j) == Str.ofString "#x") = decide ((x.cps.toList.drop a).take 2 = [35, 120]) := by
  rw [beq_list, slice_list' x i j a (a + 2) hi (by omega) (by omega), show a + 2 - a = 2 by omega]
  rfl
theorem one_of (x : Str) (a : Nat) (i j : Int) (hi : i = a) (hj : j = a + 1) : (Txt.slice x (some i) (some j) == Str.ofString "#") = decide ((x.cps.toList.drop a).take 1 = [35]) := by
  rw [beq_list, slice_list' x i j a (a + 1) hi (by omega) (by omega), show a + 1 - a = 1 by omega]
  rfl
theorem hx_room (h : (Txt.slice x (some ((k : Int) + 1)) (some ((k : Int) + 1 + 2)) == Str.ofString "#x") = true) : k + 3 ≤ x.length := by
  rw [two_of x (k + 1) _ _ (by omega) (by omega), decide_eq_true_eq] at h
  have := congrArg List.length h
  rw [List.length_take, List.length_drop] at this
  rw [len_list]
  rw [show ([35, 120] : List Nat).length = 2 from rfl] at this
  omega
theorem dg_room (h : (Txt.slice x (some ((k : Int) + 1)) (some ((k : Int) + 1 + 1)) == Str.ofString "#") = true) : k + 2 ≤ x.length := by
  rw [one_of x (k + 1) _ _ (by omega) (by omega), decide_eq_true_eq] at h
  have := congrArg List.length h
  rw [List.length_take, List.length_drop] at this
  rw [len_list]
  rw [show ([35] : List Nat).length = 1 from rfl] at this
  omega
theorem hx_init (h : (Txt.slice x (some ((k : Int) + 1)) (some ((k : Int) + 1 + 2)) == Str.ofString "#x") = true) (he : e = (k : Int) + 3) : RefAt isHx x k 2 e := by
  have hr := hx_room h
  rw [two_of x (k + 1) _ _ (by omega) (by omega), decide_eq_true_eq] at h
  refine ⟨?_, by omega, by omega, fun i h1 h2 => absurd h1 (by omega)⟩
  unfold refLen
  rw [if_pos h, List.drop_drop]
theorem dg_init (h' : (Txt.slice x (some ((k : Int) + 1)) (some ((k : Int) + 1 + 2)) == Str.ofString "#x") = false) (h : (Txt.slice x (some ((k : Int) + 1)) (some ((k : Int) + 1 + 1)) == Str.ofString "#") = true) (he : e = (k : Int) + 2) : RefAt isDg x k 1 e := by
  have hr := dg_room h
  rw [two_of x (k + 1) _ _ (by omega) (by omega), decide_eq_false_iff_not] at h'
  rw [one_of x (k + 1) _ _ (by omega) (by omega), decide_eq_true_eq] at h
  refine ⟨?_, by omega, by omega, fun i h1 h2 => absurd h1 (by omega)⟩
  unfold refLen
  rw [if_neg h', if_pos h, List.drop_drop]
theorem wd_init (hk : k < x.length) (h' : (Txt.slice x (some ((k : Int) + 1)) (some ((k : Int) + 1 + 2)) == Str.ofString "#x") = false) (h : (Txt.slice x (some ((k : Int) + 1)) (some ((k : Int) + 1 + 1)) == Str.ofString "#") = false) (he : e = (k : Int) + 1) : RefAt isWd x k 0 e := by
  rw [two_of x (k + 1) _ _ (by omega) (by omega), decide_eq_false_iff_not] at h'
  rw [one_of x (k + 1) _ _ (by omega) (by omega), decide_eq_false_iff_not] at h
  refine ⟨?_, by omega, by omega, fun i h1 h2 => absurd h1 (by omega)⟩
  unfold refLen
  rw [if_neg h', if_neg h]
  show _ = if endOk isWd (x.cps.toList.drop (k + 1)) = 0 then 0 else 0 + endOk isWd (x.cps.toList.drop (k + 1))
  split
  · assumption
  · omega
theorem sig_of (hS : SigS x) (h0 : 0 ≤ e) (h : e < x.length) : x.cps.toList.getD e.toNat 0 ∈ sig := by
  rw [len_list] at h
  have hl : e.toNat < x.cps.toList.length := by omega
  rw [List.getD_eq_getElem?_getD, List.getElem?_eq_getElem hl]
  exact hS _ (List.getElem_mem hl)
theorem item_at (h0 : 0 ≤ e) (h : e < x.length) : Txt.item x e = ⟨#[x.cps.toList.getD e.toNat 0]⟩ := by
  have h2 : e.toNat < x.cps.size := by unfold Str.length at h; omega
  rw [item_meets (n := x.cps.getD e.toNat 0) h0 (by simp [Array.getD_eq_getD_getElem?, h2]), getD_list]
theorem hx_set : ∀ c ∈ sig, decide (c ∈ (Str.ofString "0123456789abcdefABCDEF").cps.toList) = isHx c := by decide +kernel
theorem dg_set : ∀ c ∈ sig, decide (c ∈ (Str.ofString "0123456789").cps.toList) = isDg c := by decide +kernel
theorem in_one {y : Str} {c : Nat} {b : Bool} (h : (occurrences y ⟨#[c]⟩ 0 y.length 1).isEmpty = b) : decide (c ∈ y.cps.toList) = !b := by
  rw [← h, StrLaws.found_one]
theorem hx_in {b : Bool} (hS : SigS x) (h0 : 0 ≤ e) (hl : e < x.length) (h : (occurrences (Str.ofString "0123456789abcdefABCDEF") (Txt.item x e) 0 (Str.ofString "0123456789abcdefABCDEF").length 1).isEmpty = b) : isHx (x.cps.toList.getD e.toNat 0) = !b := by
  rw [item_at h0 hl] at h
  rw [← hx_set _ (sig_of hS h0 hl)]
  exact in_one h
theorem dg_in {b : Bool} (hS : SigS x) (h0 : 0 ≤ e) (hl : e < x.length) (h : (occurrences (Str.ofString "0123456789") (Txt.item x e) 0 (Str.ofString "0123456789").length 1).isEmpty = b) : isDg (x.cps.toList.getD e.toNat 0) = !b := by
  rw [item_at h0 hl] at h
  rw [← dg_set _ (sig_of hS h0 hl)]
  exact in_one h
theorem wd_one (c : Nat) : Txt.isalnum ⟨#[c]⟩ = Unicode.isAlnum c := by simp [Txt.isalnum, Str.length]
theorem us_one (c : Nat) : ((⟨#[c]⟩ : Str) == Str.ofString "_") = (c == 95) := by
  rw [beq_list]
  show decide ([c] = [95]) = (c == 95)
  rw [Bool.eq_iff_iff]
  simp
theorem wd_yes1 (hS : SigS x) (h0 : 0 ≤ e) (hl : e < x.length) (h : Txt.isalnum (Txt.item x e) = true) : isWd (x.cps.toList.getD e.toNat 0) = true := by
  rw [item_at h0 hl, wd_one] at h
  rw [← sig_word _ (sig_of hS h0 hl), isWordUni, h]; rfl
theorem wd_yes2 (hS : SigS x) (h0 : 0 ≤ e) (hl : e < x.length) (h : (Txt.item x e == Str.ofString "_") = true) : isWd (x.cps.toList.getD e.toNat 0) = true := by
  rw [item_at h0 hl, us_one] at h
  rw [← sig_word _ (sig_of hS h0 hl), isWordUni, h, Bool.or_true]
theorem wd_no (hS : SigS x) (h0 : 0 ≤ e) (hl : e < x.length) (h : Txt.isalnum (Txt.item x e) = false) (h' : (Txt.item x e == Str.ofString "_") = false) : isWd (x.cps.toList.getD e.toNat 0) = false := by
  rw [item_at h0 hl, wd_one] at h
  rw [item_at h0 hl, us_one] at h'
  rw [← sig_word _ (sig_of hS h0 hl), isWordUni, h, h']; rfl
end
end Mine
end
section
open PySem PySem.W PySem.Calls PyProof.Rows PyProof.V PySem.Spec
set_option maxRecDepth 100000
namespace Mine
theorem offRef : True := by
  w_top off
  trivial
theorem filled8 : True := by
  have hFill : (fun (_ : OpenLaw) (_ : Params → Frag) => True) PySem.Challenge.rw_fq0002_01 hd.heap_39 := by k_fill; trivial
  trivial
set_option maxHeartbeats 8000000 in
theorem ref_ok (w : World) (x : Str) (t0 t1 : Tok) (k : Nat) (hS : SigS x) (hl : x.length ≤ 2000) (hk : k < x.length) : Ok w 204 [.str x t0, .int k t1] 2 20 (fun t => .str ⟨(refName (x.cps.toList.drop (k + 1))).toArray⟩ t) := by
  have _ := filled8
  k_with_none
  (k_with "state" => first
    | (have hr := hx_room (by with_reducible assumption); exact ⟨by omega, by omega, hx_init (by with_reducible assumption) (by omega)⟩)
    | (have hr := dg_room (by with_reducible assumption); exact ⟨by omega, by omega, dg_init (by with_reducible assumption) (by with_reducible assumption) (by omega)⟩)
    | exact ⟨by omega, by omega, wd_init (by with_reducible assumption) (by with_reducible assumption) (by with_reducible assumption) (by omega)⟩
    | exact ⟨by omega, by omega, ref_step (by with_reducible assumption) (by with_reducible assumption) (hx_in (b := false) (by with_reducible assumption) (by with_reducible assumption) (by with_reducible assumption) (by with_reducible assumption))⟩
    | exact ⟨by omega, by omega, ref_step (by with_reducible assumption) (by with_reducible assumption) (dg_in (b := false) (by with_reducible assumption) (by with_reducible assumption) (by with_reducible assumption) (by with_reducible assumption))⟩
    | exact ⟨by omega, by omega, ref_step (by with_reducible assumption) (by with_reducible assumption) (wd_yes1 (by with_reducible assumption) (by with_reducible assumption) (by with_reducible assumption) (by with_reducible assumption))⟩
    | exact ⟨by omega, by omega, ref_step (by with_reducible assumption) (by with_reducible assumption) (wd_yes2 (by with_reducible assumption) (by with_reducible assumption) (by with_reducible assumption) (by with_reducible assumption))⟩)
  (k_with "exec While BoolOp cons nil" => first
    | k_while (fun script e => 0 ≤ e ∧ e ≤ (x.length : Int) ∧ RefAt isHx x k 2 e) (fun script e => ((x.length : Int) - e).toNat) "end"
    | k_while (fun script e => 0 ≤ e ∧ e ≤ (x.length : Int) ∧ RefAt isDg x k 1 e) (fun script e => ((x.length : Int) - e).toNat) "end"
    | k_while (fun script e => 0 ≤ e ∧ e ≤ (x.length : Int) ∧ RefAt isWd x k 0 e) (fun script e => ((x.length : Int) - e).toNat) "end")
  unfold Ok
  dsimp only [CbRet]
  intros
  rename_i hret
  k_dflt cell_enter
  k_steps
  all_goals first
    | (refine cb_retS hret ?_ (by k_asm) (by first | k_asm | exact news_tl (by k_asm)); refine ref_yes (by with_reducible assumption) ?_ (by omega) (by with_reducible assumption); first | exact .inl (by omega) | exact .inr (hx_in (b := true) (by with_reducible assumption) (by with_reducible assumption) (by with_reducible assumption) (by with_reducible assumption)) | exact .inr (dg_in (b := true) (by with_reducible assumption) (by with_reducible assumption) (by with_reducible assumption) (by with_reducible assumption)) | exact .inr (wd_no (by with_reducible assumption) (by with_reducible assumption) (by with_reducible assumption) (by with_reducible assumption) (by with_reducible assumption)))
    | (refine cb_retS hret ?_ (by k_asm) (by first | k_asm | exact news_tl (by k_asm)); refine ref_no rfl (by with_reducible assumption) ?_ (fun _ => by with_reducible assumption); first | exact .inl (by omega) | exact .inr (hx_in (b := true) (by with_reducible assumption) (by with_reducible assumption) (by with_reducible assumption) (by with_reducible assumption)) | exact .inr (dg_in (b := true) (by with_reducible assumption) (by with_reducible assumption) (by with_reducible assumption) (by with_reducible assumption)) | exact .inr (wd_no (by with_reducible assumption) (by with_reducible assumption) (by with_reducible assumption) (by with_reducible assumption) (by with_reducible assumption)))
    | (refine cb_retS hret ?_ (by k_asm) (by first | k_asm | exact news_tl (by k_asm)); refine ref_no rfl (by with_reducible assumption) ?_ (fun _ => absurd ‹_› (by omega)); first | exact .inl (by omega) | exact .inr (hx_in (b := true) (by with_reducible assumption) (by with_reducible assumption) (by with_reducible assumption) (by with_reducible assumption)) | exact .inr (dg_in (b := true) (by with_reducible assumption) (by with_reducible assumption) (by with_reducible assumption) (by with_reducible assumption)) | exact .inr (wd_no (by with_reducible assumption) (by with_reducible assumption) (by with_reducible assumption) (by with_reducible assumption) (by with_reducible assumption)))
end Mine
end
section
open PySem PySem.W PySem.Calls PyProof.Rows
set_option maxRecDepth 100000
namespace Mine
theorem offKn : True := by
  w_top off
  trivial
open PyProof.V PySem.Spec
local macro_rules | `(tactic| walk_at "pyIter ref") => `(tactic| (k_here; (with_reducible show wpAny _ _ (pyIter (Value.ref _)) (fun it s₂ => TurnsAt _ _ _ _ _ _ _ _ _ it s₂) _ _); (with_unfolding_all refine' iter_lstK ?h ?F ?N ?X ?k ?c ?d ?z ?_; (case h => with_unfolding_all rfl); (case F => k_asm); (case N => k_asm); (case X => k_asm); (case k => k_is); (case c => exact rfl); (case d => exact rfl); (case z => decide); k_whole); intro i' l1; (try k_lt l1)))
local macro_rules | `(tactic| walk_at "assign Tuple") => `(tactic| (k_here; (with_reducible show wpAny _ _ (assign (Expr.Tuple _ _ _) _ (Value.ref _)) _ _ _); k_dflt (refine' unpackLK ?F ?N ?X ?k ?c ?d ?k1 ?k2 ?k3 ?_; (case F => k_asm); (case N => k_asm); (case X => k_asm); (case k => k_is); (case c => exact rfl); (case d => exact rfl); (case k1 => exact rfl); (case k2 => exact rfl); (case k3 => exact rfl)); intro h' F' N'; (try k_sweep)))

local macro_rules | `(tactic| walk_at "UnrEndW") => `(tactic| (refine unrEndW_var (by k_asm) (by k_asm) (by assumption) ⟨trivial, ?_⟩))
def knownS (x : Str) : Str :=
  if (x == Str.ofString "amp") = true then Str.ofString "&"
  else if (Str.ofString "vnsub" == x) = true then Str.ofString "⊂⃒"
  else if (Str.ofString "nvlt" == x) = true then Str.ofString "<⃒"
  else if (Str.ofString "nvgt" == x) = true then Str.ofString ">⃒"
  else if (Str.ofString "lt" == x) = true then Str.ofString "<"
  else if (Str.ofString "gt" == x) = true then Str.ofString ">"
  else if (Str.ofString "sub" == x) = true then Str.ofString "⊂"
  else if (Str.ofString "eacute" == x) = true then Str.ofString "é"
  else Str.ofString ""

def signL (n : List Nat) : List Nat :=
  if n = [97, 109, 112] then [38] else if n = [118, 110, 115, 117, 98] then [8834, 8402] else if n = [110, 118, 108, 116] then [60, 8402] else if n = [110, 118, 103, 116] then [62, 8402]
  else if n = [108, 116] then [60] else if n = [103, 116] then [62] else if n = [115, 117, 98] then [8834] else if n = [101, 97, 99, 117, 116, 101] then [233] else []
theorem knownS_list (x : Str) : knownS x = ⟨(signL x.cps.toList).toArray⟩ := by
  unfold knownS signL
  simp only [beq_list, decide_eq_true_eq]
  have e (a b : List Nat) : (a = b) = (b = a) := propext eq_comm
  show (if x.cps.toList = [97, 109, 112] then _ else if [118, 110, 115, 117, 98] = x.cps.toList then _ else if [110, 118, 108, 116] = x.cps.toList then _ else if [110, 118, 103, 116] = x.cps.toList then _ else if [108, 116] = x.cps.toList then _ else if [103, 116] = x.cps.toList then _ else if [115, 117, 98] = x.cps.toList then _ else if [101, 97, 99, 117, 116, 101] = x.cps.toList then _ else _) = _
  simp only [eq_comm (b := x.cps.toList)]
  (repeat' split) <;> rfl
theorem filled9 : True := by
  have hFill : (fun (_ : OpenLaw) (_ : Params → Frag) => True) PySem.Challenge.rw_fq0002_01 hd.heap_39 := by k_fill; trivial
  trivial
set_option maxHeartbeats 8000000 in
theorem known_ok (w : World) (x : Str) (t0 : Tok) : Ok w 211 [.str x t0] 1 8 (fun t => .str ⟨(signL x.cps.toList).toArray⟩ t) := by
  have _ := filled9
  k_with_none
  rw [← knownS_list]
  unfold Ok
  dsimp only [CbRet]
  intros
  rename_i hret
  k_dflt cell_enter
  k_steps
  all_goals (refine cb_retS hret ?_ (by k_asm) (by first | k_asm | exact news_tl (by k_asm)); simp only [knownS, *, if_true, if_false, Bool.false_eq_true])
end Mine
end
section
open PySem PySem.Sre PyProof.Rows PyProof
namespace Mine
open PySem.Builtin.Str
def mlRd (u : List Nat) : Nat := if u.getD 0 0 = 38 ∧ signL (refName (u.drop 1)) ≠ [] then (refName (u.drop 1)).length + 2 else 0
def cbRd (u : List Nat) : List Nat := signL (refName (u.drop 1))
def signAt (u : List Nat) : List Nat × Nat :=
  if u.take 2 = [8834, 8402] then ([118, 110, 115, 117, 98], 2) else if u.take 2 = [60, 8402] then ([110, 118, 108, 116], 2) else if u.take 2 = [62, 8402] then ([110, 118, 103, 116], 2)
  else if u.take 1 = [60] then ([108, 116], 1) else if u.take 1 = [62] then ([103, 116], 1) else if u.take 1 = [8834] then ([115, 117, 98], 1) else if u.take 1 = [233] then ([101, 97, 99, 117, 116, 101], 1) else ([], 0)
def esc (m : Nat) (r : List Nat) : Bool :=
  if m = 0 then true else if m = 2 then true else if m = 1 then decide (refName r = []) else if m = 3 then decide (refName r ≠ []) else decide (refName r ≠ []) && decide (signL (refName r) = [])
def mlWr (m : Nat) (u : List Nat) : Nat := if u.getD 0 0 = 38 then 1 else if m ≤ 1 then (if u.getD 0 0 = 60 then 1 else if u.getD 0 0 = 62 then 1 else 0) else (signAt u).2
def cbWr (m : Nat) (u : List Nat) : List Nat :=
  if u.getD 0 0 = 38 then (if esc m (u.drop 1) = true then [38, 97, 109, 112, 59] else [38]) else if m ≤ 1 then (if u.getD 0 0 = 60 then [38, 108, 116, 59] else [38, 103, 116, 59]) else [38] ++ (signAt u).1 ++ [59]
def modeOf (way : Str) : Nat := if (way == Str.ofString "xml") = true then 0 else if (way == Str.ofString "containing") = true then 1 else if (way == Str.ofString "html") = true then 2 else if (way == Str.ofString "html5") = true then 3 else 4

/-- what is written of x up to e -/
def SubAt (ml : List Nat → Nat) (cb : List Nat → List Nat) (x out : Str) (e : Int) : Prop := subW ml cb x.cps.toList = out.cps.toList ++ subW ml cb (x.cps.toList.drop e.toNat)
section
variable {ml : List Nat → Nat} {cb : List Nat → List Nat} {x out : Str} {e : Int}
theorem cat_list (a b : Str) : (a ++ b).cps.toList = a.cps.toList ++ b.cps.toList := by
  show (a.cps ++ b.cps).toList = _
  simp
theorem drop_at (h0 : 0 ≤ e) (h : e < x.length) : x.cps.toList.drop e.toNat = x.cps.toList.getD e.toNat 0 :: x.cps.toList.drop (e.toNat + 1) := by
  rw [len_list] at h
  have hl : e.toNat < x.cps.toList.length := by omega
  rw [List.getD_eq_getElem?_getD, List.getElem?_eq_getElem hl]
  exact List.drop_eq_getElem_cons hl
theorem sub_init : SubAt ml cb x (Str.ofString "") 0 := by
  show _ = [] ++ subW ml cb (x.cps.toList.drop 0)
  simp
theorem sub_skip (h : SubAt ml cb x out e) (h0 : 0 ≤ e) (hl : e < x.length) (hm : ml (x.cps.toList.drop e.toNat) = 0) : SubAt ml cb x (out ++ Txt.item x e) (e + 1) := by
  unfold SubAt at h ⊢
  rw [h, cat_list, item_at h0 hl, List.append_assoc, show (e + 1).toNat = e.toNat + 1 by omega]
  congr 1
  rw [drop_at h0 hl] at hm ⊢
  rw [subW_skip1 hm]
  rfl
theorem sub_hit (h : SubAt ml cb x out e) (h0 : 0 ≤ e) (hl : e < x.length) {o : Str} {i : Int} (hm : ml (x.cps.toList.drop e.toNat) ≠ 0) (hi : i = e + (ml (x.cps.toList.drop e.toNat) : Nat)) (ho : o.cps.toList = out.cps.toList ++ cb (x.cps.toList.drop e.toNat)) : SubAt ml cb x o i := by
  unfold SubAt at h ⊢
  rw [h, ho, List.append_assoc, show i.toNat = e.toNat + ml (x.cps.toList.drop e.toNat) by omega]
  congr 1
  rw [subW_hit (by rw [drop_at h0 hl]; exact List.cons_ne_nil _ _) hm, List.drop_drop]
theorem sub_end (h : SubAt ml cb x out e) (hl : ¬ e < x.length) : out = ⟨(subW ml cb x.cps.toList).toArray⟩ := by
  refine str_of ?_
  unfold SubAt at h
  rw [len_list] at hl
  rw [h, List.drop_of_length_le (by omega), subW_nil, List.append_nil]
theorem item_is {c : Nat} {s : Str} {b : Bool} (h0 : 0 ≤ e) (hl : e < x.length) (h : (Txt.item x e == s) = b) (hs : s.cps.toList = [c]) : decide ((x.cps.toList.drop e.toNat).getD 0 0 = c) = b := by
  rw [item_at h0 hl, beq_list, hs] at h
  rw [← h, drop_at h0 hl, Bool.eq_iff_iff]
  simp
end
end Mine
end
section
open PySem PySem.Sre PyProof.Rows PyProof
namespace Mine
section
variable {x o : Str} {k : Int}
theorem signL_len (n : List Nat) : (signL n).length ≤ 2 := by unfold signL; (repeat' split) <;> decide
theorem signS_len (n : List Nat) : (⟨(signL n).toArray⟩ : Str).length ≤ 2 := signL_len n
def RdAt (x o : Str) (k : Int) : Prop := (o.length : Int) ≤ 2 * k ∧ SubAt mlRd cbRd x o k
theorem rd_init : RdAt x (Str.ofString "") 0 := ⟨by show (0 : Int) ≤ 2 * 0; omega, sub_init⟩
theorem rd_skip1 (h : RdAt x o k) (h0 : 0 ≤ k) (hl : k < x.length) (ha : (Txt.item x k == Str.ofString "&") = false) : RdAt x (o ++ Txt.item x k) (k + 1) := by
  refine ⟨?_, sub_skip h.2 h0 hl ?_⟩
  · have := h.1
    rw [len_list] at this ⊢
    rw [cat_list, List.length_append, item_at h0 hl]
    show ((o.cps.toList.length + 1 : Nat) : Int) ≤ _
    omega
  · have q := item_is (c := 38) h0 hl ha rfl
    rw [decide_eq_false_iff_not] at q
    unfold mlRd
    rw [if_neg (fun z => q z.1)]
theorem rd_skip2 (h : RdAt x o k) (h0 : 0 ≤ k) (hl : k < x.length) (hn : ((⟨(signL (refName ((x.cps.toList.drop k.toNat).drop 1))).toArray⟩ : Str) != Str.ofString "") = false) : RdAt x (o ++ Txt.item x k) (k + 1) := by
  refine ⟨?_, sub_skip h.2 h0 hl ?_⟩
  · have := h.1
    rw [len_list] at this ⊢
    rw [cat_list, List.length_append, item_at h0 hl]
    show ((o.cps.toList.length + 1 : Nat) : Int) ≤ _
    omega
  · have hs : ((⟨(signL (refName ((x.cps.toList.drop k.toNat).drop 1))).toArray⟩ : Str) == Str.ofString "") = true := by simpa [bne] using hn
    rw [beq_list, decide_eq_true_eq] at hs
    unfold mlRd
    rw [if_neg (fun z => z.2 hs)]
theorem rd_hit (h : RdAt x o k) (h0 : 0 ≤ k) (hl : k < x.length) (ha : (Txt.item x k == Str.ofString "&") = true) (hn : ((⟨(signL (refName ((x.cps.toList.drop k.toNat).drop 1))).toArray⟩ : Str) != Str.ofString "") = true) :
    RdAt x (o ++ ⟨(signL (refName ((x.cps.toList.drop k.toNat).drop 1))).toArray⟩) (k + ((⟨(refName ((x.cps.toList.drop k.toNat).drop 1)).toArray⟩ : Str).length : Int) + 2) ∧ k + ((⟨(refName ((x.cps.toList.drop k.toNat).drop 1)).toArray⟩ : Str).length : Int) + 2 ≤ x.length := by
  have q := item_is (c := 38) h0 hl ha rfl
  rw [decide_eq_true_eq] at q
  have hs : ((⟨(signL (refName ((x.cps.toList.drop k.toNat).drop 1))).toArray⟩ : Str) == Str.ofString "") = false := by simpa [bne] using hn
  rw [beq_list, decide_eq_false_iff_not] at hs
  have hs' : signL (refName ((x.cps.toList.drop k.toNat).drop 1)) ≠ [] := hs
  have e : mlRd (x.cps.toList.drop k.toNat) = (refName ((x.cps.toList.drop k.toNat).drop 1)).length + 2 := by unfold mlRd; rw [if_pos ⟨q, hs'⟩]
  have hr : refLen ((x.cps.toList.drop k.toNat).drop 1) ≠ 0 := by
    intro z
    apply hs'
    unfold refName
    rw [z]
    rfl
  have hb := refLen_room hr
  have hn : (refName ((x.cps.toList.drop k.toNat).drop 1)).length = refLen ((x.cps.toList.drop k.toNat).drop 1) := by
    unfold refName
    rw [List.length_take]
    omega
  rw [List.length_drop, List.length_drop] at hb
  have hl' := len_list x
  have e2 : ((⟨(refName ((x.cps.toList.drop k.toNat).drop 1)).toArray⟩ : Str).length : Int) = ((refName ((x.cps.toList.drop k.toNat).drop 1)).length : Nat) := rfl
  refine ⟨⟨?_, sub_hit h.2 h0 hl ?_ ?_ ?_⟩, ?_⟩
  · have := h.1
    rw [len_list] at this ⊢
    rw [cat_list, List.length_append, e2]
    have h2 := signL_len (refName ((x.cps.toList.drop k.toNat).drop 1))
    show ((o.cps.toList.length + (signL (refName ((x.cps.toList.drop k.toNat).drop 1))).length : Nat) : Int) ≤ _
    omega
  · rw [e]; omega
  · rw [e, e2]; omega
  · rw [cat_list]; rfl
  · rw [e2]; omega
theorem rd_end (h : RdAt x o k) (hl : ¬ k < x.length) : o = ⟨(subW mlRd cbRd x.cps.toList).toArray⟩ := sub_end h.2 hl
theorem refS_len (x : Str) (k : Int) : (⟨(refName ((x.cps.toList.drop k.toNat).drop 1)).toArray⟩ : Str).length ≤ x.length := by
  show (refName ((x.cps.toList.drop k.toNat).drop 1)).length ≤ _
  have := refName_len ((x.cps.toList.drop k.toNat).drop 1)
  rw [List.length_drop, List.length_drop] at this
  rw [len_list]
  omega
end
end Mine
end
section
open PySem PySem.W PySem.Calls PyProof.Rows PyProof.V PySem.Spec
set_option maxRecDepth 100000
namespace Mine
theorem offRd : True := by
  w_top off
  trivial
theorem ref_okI (w : World) (x : Str) (t0 t1 : Tok) (i : Int) (hS : SigS x) (hl : x.length ≤ 2000) (h0 : 0 ≤ i) (h1 : i < x.length) : Ok w 204 [.str x t0, .int i t1] 2 20 (fun t => .str ⟨(refName ((x.cps.toList.drop i.toNat).drop 1)).toArray⟩ t) := by
  have h := ref_ok w x t0 t1 i.toNat hS hl (by omega)
  have e : ((i.toNat : Nat) : Int) = i := Int.toNat_of_nonneg h0
  rw [e] at h
  rw [List.drop_drop]
  exact h
theorem known_okL (w : World) (l : List Nat) (t0 : Tok) : Ok w 211 [.str ⟨l.toArray⟩ t0] 1 8 (fun t => .str ⟨(signL l).toArray⟩ t) := known_ok w ⟨l.toArray⟩ t0
section
variable {w : World} {p : Program} {loose : List Str} {mean : ExcName → Option Value} {mg mb : Str → Option Value} {dp un : Nat} {gd : Option (List Code)} {cn : Str} {cs : Scope} {ca : Addr} {ccd : Value} {cl : List (Str × Addr)} {outer : List Env} {A₀ : Around} {base h₀ : Heap} {L : Addr} {m : Str → Option Value} {news : List (Addr × Obj)} {s : Shared} {Q E : Value → Shared → Prop}
theorem ref_call {x : Str} {t0 t1 : Tok} {i : Int} (hS : SigS x) (hl : x.length ≤ 2000) (h0 : 0 ≤ i) (h1 : i < x.length) (B : Below A₀ base outer h₀) (F : Fr h₀ L s.heap m) (X : (hd.heap_39 w.params).In h₀) (N : News h₀ L s.heap news) (T : Top p loose mean mg mb h₀) (hk : cs.kind = .function) (hd' : dp + 2 < recursionLimit) (hu : un + 20 < cLine)
    (ret : ∀ (t : Tok) (h' : Heap) (tk' : Nat), (⟨(refName ((x.cps.toList.drop i.toNat).drop 1)).toArray⟩ : Str).length ≤ x.length → Fr h₀ L h' m → News h₀ L h' news → Q (.str ⟨(refName ((x.cps.toList.drop i.toNat).drop 1)).toArray⟩ t) { s with heap := h', toks := tk' }) :
    wpAny (model PySem.Challenge.pw_fq0002_01 w) (ktrTop dp un gd cn cs L ca ccd cl outer) (call (.ref 204) [.str x t0, .int i t1]) Q E s :=
  ok_call (ref_okI w x t0 t1 i hS hl h0 h1) B F X N T hk hd' hu fun t h' tk' => ret t h' tk' (refS_len x i)
theorem known_call {l : List Nat} {t0 : Tok} (B : Below A₀ base outer h₀) (F : Fr h₀ L s.heap m) (X : (hd.heap_39 w.params).In h₀) (N : News h₀ L s.heap news) (T : Top p loose mean mg mb h₀) (hk : cs.kind = .function) (hd' : dp + 1 < recursionLimit) (hu : un + 8 < cLine)
    (ret : ∀ (t : Tok) (h' : Heap) (tk' : Nat), (⟨(signL l).toArray⟩ : Str).length ≤ 2 → Fr h₀ L h' m → News h₀ L h' news → Q (.str ⟨(signL l).toArray⟩ t) { s with heap := h', toks := tk' }) :
    wpAny (model PySem.Challenge.pw_fq0002_01 w) (ktrTop dp un gd cn cs L ca ccd cl outer) (call (.ref 211) [.str ⟨l.toArray⟩ t0]) Q E s :=
  ok_call (known_okL w l t0) B F X N T hk hd' hu fun t h' tk' => ret t h' tk' (signS_len l)
end
local macro_rules | `(tactic| walk_at "call ref") => `(tactic| (k_here; k_dflt (first
  | (with_reducible show wpAny _ _ (call (Value.ref 204) _) _ _ _); (refine' ref_call ?S ?l ?h0 ?h1 ?B ?F ?X ?N ?T ?k ?d ?u ?_; (case B => k_asm); (case F => k_asm); (case X => k_asm); (case N => k_asm); (case T => k_asm); (case k => first | rfl | assumption); (case d => ktr_room); (case u => ktr_units); (case S => with_reducible assumption); (case l => with_reducible assumption); (case h0 => first | with_reducible assumption | omega); (case h1 => first | with_reducible assumption | omega); intro t' h' tk' hl' F' N'; (try k_sweep))
  | (with_reducible show wpAny _ _ (call (Value.ref 211) _) _ _ _); (refine' known_call ?B ?F ?X ?N ?T ?k ?d ?u ?_; (case B => k_asm); (case F => k_asm); (case X => k_asm); (case N => k_asm); (case T => k_asm); (case k => first | rfl | assumption); (case d => ktr_room); (case u => ktr_units); intro t' h' tk' hl' F' N'; (try k_sweep)))))
local macro_rules | `(tactic| walk_at "binaryOp Add str str") => `(tactic| (k_here; (with_reducible show wpAny _ _ (binaryOp Operator.Add (Value.str _ _) (Value.str _ _)) _ _ _); (refine KOpn.add ?_ ?_; (focus (first | (refine Nat.le_trans (Nat.add_le_add_left (signS_len _) _) ?_; omega) | ((try simp only [Str.length_append]); omega))); intro _ _ _)))
theorem filledA : True := by
  have hFill : (fun (_ : OpenLaw) (_ : Params → Frag) => True) PySem.Challenge.rw_fq0002_01 hd.heap_39 := by k_fill; trivial
  trivial
set_option maxHeartbeats 8000000 in
theorem read_ok (w : World) (x : Str) (t0 : Tok) (hS : SigS x) (hl : x.length ≤ 2000) : Ok w 218 [.str x t0] 4 40 (fun t => .str ⟨(subW mlRd cbRd x.cps.toList).toArray⟩ t) := by
  have _ := filledA
  k_with_none
  (k_with "state" => first
    | exact ⟨by omega, by omega, rd_init.1, rd_init⟩
    | (have r := rd_skip1 (by with_reducible assumption) (by with_reducible assumption) (by with_reducible assumption) (by with_reducible assumption); exact ⟨by omega, by omega, r.1, r⟩)
    | (have r := rd_skip2 (by with_reducible assumption) (by with_reducible assumption) (by with_reducible assumption) (by with_reducible assumption); exact ⟨by omega, by omega, r.1, r⟩)
    | (have r := rd_hit (by with_reducible assumption) (by with_reducible assumption) (by with_reducible assumption) (by with_reducible assumption) (by with_reducible assumption); exact ⟨by omega, r.2, r.1.1, r.1⟩))
  (k_with "exec While Compare cons nil" => k_while (fun script k o => 0 ≤ k ∧ k ≤ (x.length : Int) ∧ (o.length : Int) ≤ 2 * k ∧ RdAt x o k) (fun script k o => ((x.length : Int) - k).toNat) "k" "out")
  unfold Ok
  dsimp only [CbRet]
  intros
  rename_i hret
  k_dflt cell_enter
  k_steps
  all_goals (refine cb_retS hret ?_ (by k_asm) (by first | k_asm | exact news_tl (by k_asm)); exact rd_end (by with_reducible assumption) (by with_reducible assumption))
end Mine
end
section
open PySem PySem.Sre PyProof.Rows PyProof
namespace Mine
def signPair (u : List Nat) : Str × Str := (⟨(u.take (signAt u).2).toArray⟩, ⟨(signAt u).1.toArray⟩)
section
variable {x : Str} {i : Int}
theorem sl_n (n : Nat) (h0 : 0 ≤ i) (s : Str) : (Txt.slice x (some i) (some (i + (n : Int))) == s) = decide ((x.cps.toList.drop i.toNat).take n = s.cps.toList) := by
  rw [beq_list, slice_list' x i (i + n) i.toNat (i.toNat + n) (by omega) (by omega) (by omega), show i.toNat + n - i.toNat = n by omega]
theorem sl_t {n : Nat} {s : Str} {l : List Nat} (h0 : 0 ≤ i) (h : (Txt.slice x (some i) (some (i + (n : Int))) == s) = true) (hs : s.cps.toList = l) : (x.cps.toList.drop i.toNat).take n = l := by
  rw [sl_n n h0, decide_eq_true_eq, hs] at h; exact h
theorem sl_f {n : Nat} {s : Str} {l : List Nat} (h0 : 0 ≤ i) (h : (Txt.slice x (some i) (some (i + (n : Int))) == s) = false) (hs : s.cps.toList = l) : ¬ (x.cps.toList.drop i.toNat).take n = l := by
  rw [sl_n n h0, decide_eq_false_iff_not, hs] at h; exact h
variable (h0 : 0 ≤ i)
include h0
theorem sg1 (a1 : (Txt.slice x (some i) (some (i + ((2 : Nat) : Int))) == Str.ofString "⊂⃒") = true) : signPair (x.cps.toList.drop i.toNat) = (Str.ofString "⊂⃒", Str.ofString "vnsub") := by
  have e1 := sl_t (l := [8834, 8402]) h0 a1 rfl
  have q : signAt (x.cps.toList.drop i.toNat) = ([118, 110, 115, 117, 98], 2) := by unfold signAt; rw [if_pos e1]
  unfold signPair; rw [q, e1]; rfl
theorem sg2 (a1 : (Txt.slice x (some i) (some (i + ((2 : Nat) : Int))) == Str.ofString "⊂⃒") = false) (a2 : (Txt.slice x (some i) (some (i + ((2 : Nat) : Int))) == Str.ofString "<⃒") = true) : signPair (x.cps.toList.drop i.toNat) = (Str.ofString "<⃒", Str.ofString "nvlt") := by
  have e1 := sl_f (l := [8834, 8402]) h0 a1 rfl
  have e2 := sl_t (l := [60, 8402]) h0 a2 rfl
  have q : signAt (x.cps.toList.drop i.toNat) = ([110, 118, 108, 116], 2) := by unfold signAt; rw [if_neg e1, if_pos e2]
  unfold signPair; rw [q, e2]; rfl
theorem sg3 (a1 : (Txt.slice x (some i) (some (i + ((2 : Nat) : Int))) == Str.ofString "⊂⃒") = false) (a2 : (Txt.slice x (some i) (some (i + ((2 : Nat) : Int))) == Str.ofString "<⃒") = false) (a3 : (Txt.slice x (some i) (some (i + ((2 : Nat) : Int))) == Str.ofString ">⃒") = true) : signPair (x.cps.toList.drop i.toNat) = (Str.ofString ">⃒", Str.ofString "nvgt") := by
  have e1 := sl_f (l := [8834, 8402]) h0 a1 rfl
  have e2 := sl_f (l := [60, 8402]) h0 a2 rfl
  have e3 := sl_t (l := [62, 8402]) h0 a3 rfl
  have q : signAt (x.cps.toList.drop i.toNat) = ([110, 118, 103, 116], 2) := by unfold signAt; rw [if_neg e1, if_neg e2, if_pos e3]
  unfold signPair; rw [q, e3]; rfl
variable (a1 : (Txt.slice x (some i) (some (i + ((2 : Nat) : Int))) == Str.ofString "⊂⃒") = false) (a2 : (Txt.slice x (some i) (some (i + ((2 : Nat) : Int))) == Str.ofString "<⃒") = false) (a3 : (Txt.slice x (some i) (some (i + ((2 : Nat) : Int))) == Str.ofString ">⃒") = false)
include a1 a2 a3
theorem sg4 (a4 : (Txt.slice x (some i) (some (i + ((1 : Nat) : Int))) == Str.ofString "<") = true) : signPair (x.cps.toList.drop i.toNat) = (Str.ofString "<", Str.ofString "lt") := by
  have e1 := sl_f (l := [8834, 8402]) h0 a1 rfl
  have e2 := sl_f (l := [60, 8402]) h0 a2 rfl
  have e3 := sl_f (l := [62, 8402]) h0 a3 rfl
  have e4 := sl_t (l := [60]) h0 a4 rfl
  have q : signAt (x.cps.toList.drop i.toNat) = ([108, 116], 1) := by unfold signAt; rw [if_neg e1, if_neg e2, if_neg e3, if_pos e4]
  unfold signPair; rw [q, e4]; rfl
theorem sg5 (a4 : (Txt.slice x (some i) (some (i + ((1 : Nat) : Int))) == Str.ofString "<") = false) (a5 : (Txt.slice x (some i) (some (i + ((1 : Nat) : Int))) == Str.ofString ">") = true) : signPair (x.cps.toList.drop i.toNat) = (Str.ofString ">", Str.ofString "gt") := by
  have e1 := sl_f (l := [8834, 8402]) h0 a1 rfl
  have e2 := sl_f (l := [60, 8402]) h0 a2 rfl
  have e3 := sl_f (l := [62, 8402]) h0 a3 rfl
  have e4 := sl_f (l := [60]) h0 a4 rfl
  have e5 := sl_t (l := [62]) h0 a5 rfl
  have q : signAt (x.cps.toList.drop i.toNat) = ([103, 116], 1) := by unfold signAt; rw [if_neg e1, if_neg e2, if_neg e3, if_neg e4, if_pos e5]
  unfold signPair; rw [q, e5]; rfl
theorem sg6 (a4 : (Txt.slice x (some i) (some (i + ((1 : Nat) : Int))) == Str.ofString "<") = false) (a5 : (Txt.slice x (some i) (some (i + ((1 : Nat) : Int))) == Str.ofString ">") = false) (a6 : (Txt.slice x (some i) (some (i + ((1 : Nat) : Int))) == Str.ofString "⊂") = true) : signPair (x.cps.toList.drop i.toNat) = (Str.ofString "⊂", Str.ofString "sub") := by
  have e1 := sl_f (l := [8834, 8402]) h0 a1 rfl
  have e2 := sl_f (l := [60, 8402]) h0 a2 rfl
  have e3 := sl_f (l := [62, 8402]) h0 a3 rfl
  have e4 := sl_f (l := [60]) h0 a4 rfl
  have e5 := sl_f (l := [62]) h0 a5 rfl
  have e6 := sl_t (l := [8834]) h0 a6 rfl
  have q : signAt (x.cps.toList.drop i.toNat) = ([115, 117, 98], 1) := by unfold signAt; rw [if_neg e1, if_neg e2, if_neg e3, if_neg e4, if_neg e5, if_pos e6]
  unfold signPair; rw [q, e6]; rfl
theorem sg7 (a4 : (Txt.slice x (some i) (some (i + ((1 : Nat) : Int))) == Str.ofString "<") = false) (a5 : (Txt.slice x (some i) (some (i + ((1 : Nat) : Int))) == Str.ofString ">") = false) (a6 : (Txt.slice x (some i) (some (i + ((1 : Nat) : Int))) == Str.ofString "⊂") = false) (a7 : (Txt.slice x (some i) (some (i + ((1 : Nat) : Int))) == Str.ofString "é") = true) : signPair (x.cps.toList.drop i.toNat) = (Str.ofString "é", Str.ofString "eacute") := by
  have e1 := sl_f (l := [8834, 8402]) h0 a1 rfl
  have e2 := sl_f (l := [60, 8402]) h0 a2 rfl
  have e3 := sl_f (l := [62, 8402]) h0 a3 rfl
  have e4 := sl_f (l := [60]) h0 a4 rfl
  have e5 := sl_f (l := [62]) h0 a5 rfl
  have e6 := sl_f (l := [8834]) h0 a6 rfl
  have e7 := sl_t (l := [233]) h0 a7 rfl
  have q : signAt (x.cps.toList.drop i.toNat) = ([101, 97, 99, 117, 116, 101], 1) := by unfold signAt; rw [if_neg e1, if_neg e2, if_neg e3, if_neg e4, if_neg e5, if_neg e6, if_pos e7]
  unfold signPair; rw [q, e7]; rfl
theorem sg8 (a4 : (Txt.slice x (some i) (some (i + ((1 : Nat) : Int))) == Str.ofString "<") = false) (a5 : (Txt.slice x (some i) (some (i + ((1 : Nat) : Int))) == Str.ofString ">") = false) (a6 : (Txt.slice x (some i) (some (i + ((1 : Nat) : Int))) == Str.ofString "⊂") = false) (a7 : (Txt.slice x (some i) (some (i + ((1 : Nat) : Int))) == Str.ofString "é") = false) : signPair (x.cps.toList.drop i.toNat) = (Str.ofString "", Str.ofString "") := by
  have e1 := sl_f (l := [8834, 8402]) h0 a1 rfl
  have e2 := sl_f (l := [60, 8402]) h0 a2 rfl
  have e3 := sl_f (l := [62, 8402]) h0 a3 rfl
  have e4 := sl_f (l := [60]) h0 a4 rfl
  have e5 := sl_f (l := [62]) h0 a5 rfl
  have e6 := sl_f (l := [8834]) h0 a6 rfl
  have e7 := sl_f (l := [233]) h0 a7 rfl
  have q : signAt (x.cps.toList.drop i.toNat) = ([], 0) := by unfold signAt; rw [if_neg e1, if_neg e2, if_neg e3, if_neg e4, if_neg e5, if_neg e6, if_neg e7]
  unfold signPair; rw [q]; rfl
end
end Mine
end
section
open PySem PySem.W PySem.Calls PyProof.Rows PyProof.V PySem.Spec
set_option maxRecDepth 100000
namespace Mine
theorem offSg : True := by
  w_top off
  trivial
local macro_rules | `(tactic| walk_at "pyIter ref") => `(tactic| (k_here; (with_reducible show wpAny _ _ (pyIter (Value.ref _)) (fun it s₂ => TurnsAt _ _ _ _ _ _ _ _ _ it s₂) _ _); (with_unfolding_all refine' iter_lstK ?h ?F ?N ?X ?k ?c ?d ?z ?_; (case h => with_unfolding_all rfl); (case F => k_asm); (case N => k_asm); (case X => k_asm); (case k => k_is); (case c => exact rfl); (case d => exact rfl); (case z => decide); k_whole); intro i' l1; (try k_lt l1)))
local macro_rules | `(tactic| walk_at "assign Tuple") => `(tactic| (k_here; (with_reducible show wpAny _ _ (assign (Expr.Tuple _ _ _) _ (Value.ref _)) _ _ _); k_dflt (refine' unpackLK ?F ?N ?X ?k ?c ?d ?k1 ?k2 ?k3 ?_; (case F => k_asm); (case N => k_asm); (case X => k_asm); (case k => k_is); (case c => exact rfl); (case d => exact rfl); (case k1 => exact rfl); (case k2 => exact rfl); (case k3 => exact rfl)); intro h' F' N'; (try k_sweep)))
local macro_rules | `(tactic| walk_at "UnrEndW") => `(tactic| (refine unrEndW_var (by k_asm) (by k_asm) (by assumption) ⟨trivial, ?_⟩))
theorem news_mid {h₀ h : Heap} {L : Addr} {a b : Addr × Obj} {l : List (Addr × Obj)} (N : News h₀ L h (a :: b :: l)) : News h₀ L h (a :: l) := fun p hp => N p (by rcases List.mem_cons.mp hp with rfl | hp; exact .head _; exact .tail _ (.tail _ hp))
def pairObj (q : Str × Str) (a b : Tok) : Obj := { cls := .type "tuple", data := .seq #[.str q.1 a, .str q.2 b] }
theorem filledB : True := by
  have hFill : (fun (_ : OpenLaw) (_ : Params → Frag) => True) PySem.Challenge.rw_fq0002_01 hd.heap_39 := by k_fill; trivial
  trivial
set_option maxHeartbeats 8000000 in
theorem signs_ok (w : World) (x : Str) (t0 t1 : Tok) (i : Int) (hl : x.length ≤ 2000) (h0 : 0 ≤ i) (h1 : i < x.length) :
  ∀ (p : Program) (loose : List Str) (mean : ExcName → Option Value) (mg mb : Str → Option Value) (dp un : Nat) (gd : Option (List Code)) (cn : Str) (cs : Scope) (a : Addr) (ccd : Value) (cl : List (Str × Addr)) (outer : List Env) (A₀ : Around) (base h₀ : Heap) (L : Addr) (m : Str → Option Value) (news : List (Addr × Obj)) (s : Shared) (Q E : Value → Shared → Prop),
    Below A₀ base outer h₀ → Fr h₀ L s.heap m → (hd.heap_39 w.params).In h₀ → News h₀ L s.heap news → Top p loose mean mg mb h₀ → cs.kind = .function →
    dp + 2 < recursionLimit → un + 20 < cLine → (∀ (D : Addr) (h' : Heap) (tk' : Nat) (a b : Tok), Fr h₀ L h' m → News h₀ L h' ((D, pairObj (signPair (x.cps.toList.drop i.toNat)) a b) :: news) → Q (.ref D) { s with heap := h', toks := tk' }) →
      codeAny (model PySem.Challenge.pw_fq0002_01 w) (ktrTop dp un gd cn cs L a ccd cl outer) (.call (.ref 225) ⟨[.str x t0, .int i t1], []⟩) (fun r s' => match r with | .ok (.ret v) => Q v s' | .ok _ => False | .error e => E e s') s := by
  have _ := filledB
  k_with_none
  intros
  rename_i hret
  k_dflt cell_enter
  k_steps
  all_goals first
    | (rw [sg1 h0 (by with_reducible assumption)] at hret; first | exact hret _ _ _ _ _ (by k_asm) (by k_asm) | exact hret _ _ _ _ _ (by k_asm) (news_mid (by k_asm)))
    | (rw [sg2 h0 (by with_reducible assumption) (by with_reducible assumption)] at hret; first | exact hret _ _ _ _ _ (by k_asm) (by k_asm) | exact hret _ _ _ _ _ (by k_asm) (news_mid (by k_asm)))
    | (rw [sg3 h0 (by with_reducible assumption) (by with_reducible assumption) (by with_reducible assumption)] at hret; first | exact hret _ _ _ _ _ (by k_asm) (by k_asm) | exact hret _ _ _ _ _ (by k_asm) (news_mid (by k_asm)))
    | (rw [sg4 h0 (by with_reducible assumption) (by with_reducible assumption) (by with_reducible assumption) (by with_reducible assumption)] at hret; first | exact hret _ _ _ _ _ (by k_asm) (by k_asm) | exact hret _ _ _ _ _ (by k_asm) (news_mid (by k_asm)))
    | (rw [sg5 h0 (by with_reducible assumption) (by with_reducible assumption) (by with_reducible assumption) (by with_reducible assumption) (by with_reducible assumption)] at hret; first | exact hret _ _ _ _ _ (by k_asm) (by k_asm) | exact hret _ _ _ _ _ (by k_asm) (news_mid (by k_asm)))
    | (rw [sg6 h0 (by with_reducible assumption) (by with_reducible assumption) (by with_reducible assumption) (by with_reducible assumption) (by with_reducible assumption) (by with_reducible assumption)] at hret; first | exact hret _ _ _ _ _ (by k_asm) (by k_asm) | exact hret _ _ _ _ _ (by k_asm) (news_mid (by k_asm)))
    | (rw [sg7 h0 (by with_reducible assumption) (by with_reducible assumption) (by with_reducible assumption) (by with_reducible assumption) (by with_reducible assumption) (by with_reducible assumption) (by with_reducible assumption)] at hret; first | exact hret _ _ _ _ _ (by k_asm) (by k_asm) | exact hret _ _ _ _ _ (by k_asm) (news_mid (by k_asm)))
    | (rw [sg8 h0 (by with_reducible assumption) (by with_reducible assumption) (by with_reducible assumption) (by with_reducible assumption) (by with_reducible assumption) (by with_reducible assumption) (by with_reducible assumption)] at hret; first | exact hret _ _ _ _ _ (by k_asm) (by k_asm) | exact hret _ _ _ _ _ (by k_asm) (news_mid (by k_asm)))
end Mine
end
section
open PySem PySem.Sre PyProof.Rows PyProof
namespace Mine
def WrAt (m : Nat) (x o : Str) (k : Int) : Prop := (o.length : Int) ≤ 8 * k ∧ SubAt (mlWr m) (cbWr m) x o k
section
variable {x o way : Str} {k : Int} {m : Nat}
theorem signAt_len (u : List Nat) : (signAt u).1.length ≤ 6 ∧ (signAt u).2 ≤ 2 := by unfold signAt; (repeat' split) <;> exact ⟨by decide, by decide⟩
theorem signAt_zero (u : List Nat) : ((signAt u).1 = [] ∧ (signAt u).2 = 0) ∨ ((signAt u).1 ≠ [] ∧ (signAt u).2 ≠ 0 ∧ (u.take (signAt u).2).length = (signAt u).2) := by
  unfold signAt
  (repeat' split) <;> first | exact .inl ⟨rfl, rfl⟩ | (right; refine ⟨List.cons_ne_nil _ _, by decide, ?_⟩; show (List.take _ u).length = _; rename_i h; first | (rw [h]; rfl) | skip)
theorem signAt_room (u : List Nat) : (signAt u).2 ≤ u.length := by
  rcases signAt_zero u with h | h
  · omega
  · have := h.2.2; rw [List.length_take] at this; omega
theorem wr_bnd (h : WrAt m x o k) : (o.length : Int) ≤ 8 * k := h.1
theorem wr_init : WrAt m x (Str.ofString "") 0 := ⟨by show (0 : Int) ≤ 8 * 0; omega, sub_init⟩
theorem wr_end (h : WrAt m x o k) (hl : ¬ k < x.length) : o = ⟨(subW (mlWr m) (cbWr m) x.cps.toList).toArray⟩ := sub_end h.2 hl
theorem wr_step {s : Str} {l : List Nat} (h : WrAt m x o k) (h0 : 0 ≤ k) (hl : k < x.length) (hs : s.cps.toList = l) (h5 : l.length ≤ 5) (hm : mlWr m (x.cps.toList.drop k.toNat) = 1) (hc : cbWr m (x.cps.toList.drop k.toNat) = l) : WrAt m x (o ++ s) (k + 1) := by
  refine ⟨?_, sub_hit h.2 h0 hl (by omega) (by rw [hm]; rfl) (by rw [cat_list, hc, hs])⟩
  have := h.1
  rw [len_list] at this ⊢
  rw [cat_list, List.length_append, hs]
  omega
theorem wr_copy (h : WrAt m x o k) (h0 : 0 ≤ k) (hl : k < x.length) (hm : mlWr m (x.cps.toList.drop k.toNat) = 0) : WrAt m x (o ++ Txt.item x k) (k + 1) := by
  refine ⟨?_, sub_skip h.2 h0 hl hm⟩
  have := h.1
  rw [len_list] at this ⊢
  rw [cat_list, List.length_append, item_at h0 hl]
  show ((o.cps.toList.length + 1 : Nat) : Int) ≤ _
  omega
theorem it_t {c : Nat} {s : Str} (h0 : 0 ≤ k) (hl : k < x.length) (h : (Txt.item x k == s) = true) (hs : s.cps.toList = [c]) : (x.cps.toList.drop k.toNat).getD 0 0 = c := by
  have := item_is h0 hl h hs; rwa [decide_eq_true_eq] at this
theorem it_f {c : Nat} {s : Str} (h0 : 0 ≤ k) (hl : k < x.length) (h : (Txt.item x k == s) = false) (hs : s.cps.toList = [c]) : ¬ (x.cps.toList.drop k.toNat).getD 0 0 = c := by
  have := item_is h0 hl h hs; rwa [decide_eq_false_iff_not] at this
theorem wr_amp1 (h : WrAt m x o k) (h0 : 0 ≤ k) (hl : k < x.length) (ha : (Txt.item x k == Str.ofString "&") = true) (he : esc m ((x.cps.toList.drop k.toNat).drop 1) = true) : WrAt m x (o ++ Str.ofString "&amp;") (k + 1) := by
  have e := it_t (c := 38) h0 hl ha rfl
  refine wr_step (l := [38, 97, 109, 112, 59]) h h0 hl rfl (by decide) ?_ ?_
  · unfold mlWr; rw [if_pos e]
  · unfold cbWr; rw [if_pos e, if_pos he]
theorem wr_amp0 (h : WrAt m x o k) (h0 : 0 ≤ k) (hl : k < x.length) (ha : (Txt.item x k == Str.ofString "&") = true) (he : esc m ((x.cps.toList.drop k.toNat).drop 1) = false) : WrAt m x (o ++ Str.ofString "&") (k + 1) := by
  have e := it_t (c := 38) h0 hl ha rfl
  refine wr_step (l := [38]) h h0 hl rfl (by decide) ?_ ?_
  · unfold mlWr; rw [if_pos e]
  · unfold cbWr; rw [if_pos e, if_neg (by rw [he]; exact Bool.false_ne_true)]
theorem wr_lt (h : WrAt m x o k) (h0 : 0 ≤ k) (hl : k < x.length) (hm : m ≤ 1) (ha : (Txt.item x k == Str.ofString "&") = false) (hb : (Txt.item x k == Str.ofString "<") = true) : WrAt m x (o ++ Str.ofString "&lt;") (k + 1) := by
  have e1 := it_f (c := 38) h0 hl ha rfl
  have e2 := it_t (c := 60) h0 hl hb rfl
  refine wr_step (l := [38, 108, 116, 59]) h h0 hl rfl (by decide) ?_ ?_
  · unfold mlWr; rw [if_neg e1, if_pos hm, if_pos e2]
  · unfold cbWr; rw [if_neg e1, if_pos hm, if_pos e2]
theorem wr_gt (h : WrAt m x o k) (h0 : 0 ≤ k) (hl : k < x.length) (hm : m ≤ 1) (ha : (Txt.item x k == Str.ofString "&") = false) (hb : (Txt.item x k == Str.ofString "<") = false) (hc : (Txt.item x k == Str.ofString ">") = true) : WrAt m x (o ++ Str.ofString "&gt;") (k + 1) := by
  have e1 := it_f (c := 38) h0 hl ha rfl
  have e2 := it_f (c := 60) h0 hl hb rfl
  have e3 := it_t (c := 62) h0 hl hc rfl
  refine wr_step (l := [38, 103, 116, 59]) h h0 hl rfl (by decide) ?_ ?_
  · unfold mlWr; rw [if_neg e1, if_pos hm, if_neg e2, if_pos e3]
  · unfold cbWr; rw [if_neg e1, if_pos hm, if_neg e2]
theorem wr_cp (h : WrAt m x o k) (h0 : 0 ≤ k) (hl : k < x.length) (hm : m ≤ 1) (ha : (Txt.item x k == Str.ofString "&") = false) (hb : (Txt.item x k == Str.ofString "<") = false) (hc : (Txt.item x k == Str.ofString ">") = false) : WrAt m x (o ++ Txt.item x k) (k + 1) := by
  have e1 := it_f (c := 38) h0 hl ha rfl
  have e2 := it_f (c := 60) h0 hl hb rfl
  have e3 := it_f (c := 62) h0 hl hc rfl
  refine wr_copy h h0 hl ?_
  unfold mlWr; rw [if_neg e1, if_pos hm, if_neg e2, if_neg e3]
theorem word_is {b : Bool} {u : List Nat} (h : ((signPair u).2 == Str.ofString "") = b) : decide ((signAt u).1 = []) = b := by
  rw [beq_list] at h; exact h
theorem wr_none (h : WrAt m x o k) (h0 : 0 ≤ k) (hl : k < x.length) (hm : ¬ m ≤ 1) (ha : (Txt.item x k == Str.ofString "&") = false) (hw : ((signPair (x.cps.toList.drop k.toNat)).2 == Str.ofString "") = true) : WrAt m x (o ++ Txt.item x k) (k + 1) := by
  have e1 := it_f (c := 38) h0 hl ha rfl
  have q := word_is hw
  rw [decide_eq_true_eq] at q
  refine wr_copy h h0 hl ?_
  unfold mlWr; rw [if_neg e1, if_neg hm]
  rcases signAt_zero (x.cps.toList.drop k.toNat) with z | z
  · exact z.2
  · exact absurd q z.1
theorem wr_sign (h : WrAt m x o k) (h0 : 0 ≤ k) (hl : k < x.length) (hm : ¬ m ≤ 1) (ha : (Txt.item x k == Str.ofString "&") = false) (hw : ((signPair (x.cps.toList.drop k.toNat)).2 == Str.ofString "") = false) :
    WrAt m x (o ++ Str.ofString "&" ++ (signPair (x.cps.toList.drop k.toNat)).2 ++ Str.ofString ";") (k + ((signPair (x.cps.toList.drop k.toNat)).1.length : Int)) ∧ k + ((signPair (x.cps.toList.drop k.toNat)).1.length : Int) ≤ x.length ∧ 0 < ((signPair (x.cps.toList.drop k.toNat)).1.length : Int) := by
  have e1 := it_f (c := 38) h0 hl ha rfl
  have q := word_is hw
  rw [decide_eq_false_iff_not] at q
  have hr := signAt_room (x.cps.toList.drop k.toNat)
  have h6 := signAt_len (x.cps.toList.drop k.toNat)
  rw [List.length_drop] at hr
  have hlx := len_list x
  have z : (signAt (x.cps.toList.drop k.toNat)).2 ≠ 0 ∧ ((x.cps.toList.drop k.toNat).take (signAt (x.cps.toList.drop k.toNat)).2).length = (signAt (x.cps.toList.drop k.toNat)).2 := by
    rcases signAt_zero (x.cps.toList.drop k.toNat) with z | z
    · exact absurd z.1 q
    · exact z.2
  have el : ((signPair (x.cps.toList.drop k.toNat)).1.length : Int) = ((signAt (x.cps.toList.drop k.toNat)).2 : Nat) := by
    show ((((x.cps.toList.drop k.toNat).take (signAt (x.cps.toList.drop k.toNat)).2).length : Nat) : Int) = _
    rw [z.2]
  have em : mlWr m (x.cps.toList.drop k.toNat) = (signAt (x.cps.toList.drop k.toNat)).2 := by unfold mlWr; rw [if_neg e1, if_neg hm]
  have ec : cbWr m (x.cps.toList.drop k.toNat) = [38] ++ (signAt (x.cps.toList.drop k.toNat)).1 ++ [59] := by unfold cbWr; rw [if_neg e1, if_neg hm]
  have eo : (o ++ Str.ofString "&" ++ (signPair (x.cps.toList.drop k.toNat)).2 ++ Str.ofString ";").cps.toList = o.cps.toList ++ ([38] ++ (signAt (x.cps.toList.drop k.toNat)).1 ++ [59]) := by
    rw [cat_list, cat_list, cat_list, List.append_assoc, List.append_assoc]
    rfl
  refine ⟨⟨?_, sub_hit h.2 h0 hl (by rw [em]; exact z.1) (by rw [em, el]) (by rw [eo, ec])⟩, by rw [el]; omega, by rw [el]; omega⟩
  have := h.1
  rw [len_list] at this ⊢
  rw [eo, List.length_append, List.length_append, List.length_append, el]
  show ((o.cps.toList.length + (1 + (signAt (x.cps.toList.drop k.toNat)).1.length + 1) : Nat) : Int) ≤ _
  omega
theorem md_xml (h : (way == Str.ofString "xml") = true) : modeOf way = 0 := by unfold modeOf; rw [if_pos h]
theorem md_of {s : Str} (n : Nat) (h : (way == s) = true) (e : modeOf s = n) : modeOf way = n := by rw [eq_of_beq h]; exact e
theorem md_hi (h1 : (way == Str.ofString "xml") = false) (h2 : (way == Str.ofString "containing") = false) : ¬ modeOf way ≤ 1 := by
  unfold modeOf
  rw [if_neg (by rw [h1]; exact Bool.false_ne_true), if_neg (by rw [h2]; exact Bool.false_ne_true)]
  split
  · decide
  · split <;> decide
theorem md_raw (h1 : (way == Str.ofString "xml") = false) (h3 : (way == Str.ofString "html") = false) (h2 : (way == Str.ofString "containing") = false) (h4 : (way == Str.ofString "html5") = false) : modeOf way = 4 := by
  unfold modeOf
  rw [if_neg (by rw [h1]; exact Bool.false_ne_true), if_neg (by rw [h2]; exact Bool.false_ne_true), if_neg (by rw [h3]; exact Bool.false_ne_true), if_neg (by rw [h4]; exact Bool.false_ne_true)]
theorem md_html (h : (way == Str.ofString "html") = true) : modeOf way = 2 := md_of 2 h (by decide +kernel)
theorem md_cont (h : (way == Str.ofString "containing") = true) : modeOf way = 1 := md_of 1 h (by decide +kernel)
theorem md_html5 (h : (way == Str.ofString "html5") = true) : modeOf way = 3 := md_of 3 h (by decide +kernel)
theorem md_lo1 (h : (way == Str.ofString "xml") = true) : modeOf way ≤ 1 := by rw [md_xml h]; decide
theorem md_lo2 (h : (way == Str.ofString "containing") = true) : modeOf way ≤ 1 := by rw [md_cont h]; exact Nat.le_refl _
variable {r : List Nat}
theorem es_xml (h : (way == Str.ofString "xml") = true) : esc (modeOf way) r = true := by rw [md_xml h]; rfl
theorem es_html (h : (way == Str.ofString "html") = true) : esc (modeOf way) r = true := by rw [md_html h]; rfl
theorem nm_eq {b : Bool} {l : List Nat} (h : ((⟨l.toArray⟩ : Str) == Str.ofString "") = b) : decide (l = []) = b := by rw [beq_list] at h; exact h
theorem nm_ne {b : Bool} {l : List Nat} (h : ((⟨l.toArray⟩ : Str) != Str.ofString "") = b) : decide (l ≠ []) = b := by
  have e : ((⟨l.toArray⟩ : Str) != Str.ofString "") = !((⟨l.toArray⟩ : Str) == Str.ofString "") := rfl
  rw [e, beq_list] at h
  rw [← h]
  show _ = !decide (l = [])
  simp
theorem es_cont {b : Bool} (h : (way == Str.ofString "containing") = true) (hn : ((⟨(refName r).toArray⟩ : Str) == Str.ofString "") = b) : esc (modeOf way) r = b := by rw [md_cont h]; exact nm_eq hn
theorem es_html5 {b : Bool} (h : (way == Str.ofString "html5") = true) (hn : ((⟨(refName r).toArray⟩ : Str) != Str.ofString "") = b) : esc (modeOf way) r = b := by rw [md_html5 h]; exact nm_ne hn
theorem es_raw0 (h1 : (way == Str.ofString "xml") = false) (h3 : (way == Str.ofString "html") = false) (h2 : (way == Str.ofString "containing") = false) (h4 : (way == Str.ofString "html5") = false) (hn : ((⟨(refName r).toArray⟩ : Str) != Str.ofString "") = false) : esc (modeOf way) r = false := by
  rw [md_raw h1 h3 h2 h4]
  show (decide (refName r ≠ []) && decide (signL (refName r) = [])) = false
  rw [nm_ne hn]; rfl
theorem es_raw1 {b : Bool} (h1 : (way == Str.ofString "xml") = false) (h3 : (way == Str.ofString "html") = false) (h2 : (way == Str.ofString "containing") = false) (h4 : (way == Str.ofString "html5") = false) (hn : ((⟨(refName r).toArray⟩ : Str) != Str.ofString "") = true) (hk : ((⟨(signL (refName r)).toArray⟩ : Str) == Str.ofString "") = b) : esc (modeOf way) r = b := by
  rw [md_raw h1 h3 h2 h4]
  show (decide (refName r ≠ []) && decide (signL (refName r) = [])) = b
  rw [nm_ne hn, nm_eq hk]; rfl
theorem pair_len (u : List Nat) : (signPair u).1.length ≤ 2 ∧ (signPair u).2.length ≤ 6 := by
  have := signAt_len u
  refine ⟨?_, ?_⟩
  · show (u.take (signAt u).2).length ≤ 2
    rw [List.length_take]; omega
  · show (signAt u).1.length ≤ 6
    omega
end
end Mine
end
section
open PySem PySem.W PySem.Calls PyProof.Rows PyProof.V PySem.Spec
set_option maxRecDepth 100000
namespace Mine
theorem offWr : True := by
  w_top off
  trivial
section
variable {w : World} {p : Program} {loose : List Str} {mean : ExcName → Option Value} {mg mb : Str → Option Value} {dp un : Nat} {gd : Option (List Code)} {cn : Str} {cs : Scope} {ca : Addr} {ccd : Value} {cl : List (Str × Addr)} {outer : List Env} {A₀ : Around} {base h₀ : Heap} {L : Addr} {m : Str → Option Value} {news : List (Addr × Obj)} {s : Shared} {Q E : Value → Shared → Prop}
theorem signs_call {x : Str} {t0 t1 : Tok} {i : Int} (hl : x.length ≤ 2000) (h0 : 0 ≤ i) (h1 : i < x.length) (B : Below A₀ base outer h₀) (F : Fr h₀ L s.heap m) (X : (hd.heap_39 w.params).In h₀) (N : News h₀ L s.heap news) (T : Top p loose mean mg mb h₀) (hk : cs.kind = .function) (hd' : dp + 2 < recursionLimit) (hu : un + 20 < cLine)
    (ret : ∀ (D : Addr) (h' : Heap) (tk' : Nat) (a b : Tok), (signPair (x.cps.toList.drop i.toNat)).1.length ≤ 2 → (signPair (x.cps.toList.drop i.toNat)).2.length ≤ 6 → Fr h₀ L h' m → News h₀ L h' ((D, { cls := .type "tuple", data := .seq #[.str (signPair (x.cps.toList.drop i.toNat)).1 a, .str (signPair (x.cps.toList.drop i.toNat)).2 b] }) :: news) → Q (.ref D) { s with heap := h', toks := tk' }) :
    wpAny (model PySem.Challenge.pw_fq0002_01 w) (ktrTop dp un gd cn cs L ca ccd cl outer) (call (.ref 225) [.str x t0, .int i t1]) Q E s :=
  wpAny_call (signs_ok w x t0 t1 i hl h0 h1 p loose mean mg mb dp un gd cn cs ca ccd cl outer A₀ base h₀ L m news s Q E B F X N T hk hd' hu fun D h' tk' a b => ret D h' tk' a b (pair_len _).1 (pair_len _).2)
end
local macro_rules | `(tactic| walk_at "call ref") => `(tactic| (k_here; k_dflt (first
  | (with_reducible show wpAny _ _ (call (Value.ref 225) _) _ _ _); (refine' signs_call ?l ?h0 ?h1 ?B ?F ?X ?N ?T ?k ?d ?u ?_; (case B => k_asm); (case F => k_asm); (case X => k_asm); (case N => k_asm); (case T => k_asm); (case k => first | rfl | assumption); (case d => ktr_room); (case u => ktr_units); (case l => with_reducible assumption); (case h0 => first | with_reducible assumption | omega); (case h1 => first | with_reducible assumption | omega); intro D' h' tk' a' b' hl1' hl2' F' N'; (try k_sweep))
  | (with_reducible show wpAny _ _ (call (Value.ref 204) _) _ _ _); (refine' ref_call ?S ?l ?h0 ?h1 ?B ?F ?X ?N ?T ?k ?d ?u ?_; (case B => k_asm); (case F => k_asm); (case X => k_asm); (case N => k_asm); (case T => k_asm); (case k => first | rfl | assumption); (case d => ktr_room); (case u => ktr_units); (case S => with_reducible assumption); (case l => with_reducible assumption); (case h0 => first | with_reducible assumption | omega); (case h1 => first | with_reducible assumption | omega); intro t' h' tk' hl' F' N'; (try k_sweep))
  | (with_reducible show wpAny _ _ (call (Value.ref 211) _) _ _ _); (refine' known_call ?B ?F ?X ?N ?T ?k ?d ?u ?_; (case B => k_asm); (case F => k_asm); (case X => k_asm); (case N => k_asm); (case T => k_asm); (case k => first | rfl | assumption); (case d => ktr_room); (case u => ktr_units); intro t' h' tk' hl' F' N'; (try k_sweep)))))
local macro_rules | `(tactic| walk_at "binaryOp Add str str") => `(tactic| (k_here; (with_reducible show wpAny _ _ (binaryOp Operator.Add (Value.str _ _) (Value.str _ _)) _ _ _); (refine KOpn.add ?_ ?_; (focus (first | (refine Nat.le_trans (Nat.add_le_add_left (signS_len _) _) ?_; omega) | ((try simp only [Str.length_append]); omega))); intro _ _ _)))
theorem filledC : True := by
  have hFill : (fun (_ : OpenLaw) (_ : Params → Frag) => True) PySem.Challenge.rw_fq0002_01 hd.heap_39 := by k_fill; trivial
  trivial
set_option maxHeartbeats 8000000 in
theorem written_ok (w : World) (x way : Str) (t0 t1 : Tok) (hS : SigS x) (hl : x.length ≤ 2000) (hw : way.length ≤ 20) : Ok w 232 [.str x t0, .str way t1] 4 40 (fun t => .str ⟨(subW (mlWr (modeOf way)) (cbWr (modeOf way)) x.cps.toList).toArray⟩ t) := by
  have _ := filledC
  k_with_none
  (k_with "state" => first
    | (have r := wr_init (m := modeOf way) (x := x); exact ⟨by omega, by omega, wr_bnd r, r⟩)
    | (have r := wr_amp1 (by with_reducible assumption) (by with_reducible assumption) (by with_reducible assumption) (by with_reducible assumption) (es_xml (by with_reducible assumption)); exact ⟨by omega, by omega, wr_bnd r, r⟩)
    | (have r := wr_amp1 (by with_reducible assumption) (by with_reducible assumption) (by with_reducible assumption) (by with_reducible assumption) (es_html (by with_reducible assumption)); exact ⟨by omega, by omega, wr_bnd r, r⟩)
    | (have r := wr_amp1 (by with_reducible assumption) (by with_reducible assumption) (by with_reducible assumption) (by with_reducible assumption) (es_cont (by with_reducible assumption) (by with_reducible assumption)); exact ⟨by omega, by omega, wr_bnd r, r⟩)
    | (have r := wr_amp1 (by with_reducible assumption) (by with_reducible assumption) (by with_reducible assumption) (by with_reducible assumption) (es_html5 (by with_reducible assumption) (by with_reducible assumption)); exact ⟨by omega, by omega, wr_bnd r, r⟩)
    | (have r := wr_amp1 (by with_reducible assumption) (by with_reducible assumption) (by with_reducible assumption) (by with_reducible assumption) (es_raw1 (by with_reducible assumption) (by with_reducible assumption) (by with_reducible assumption) (by with_reducible assumption) (by with_reducible assumption) (by with_reducible assumption)); exact ⟨by omega, by omega, wr_bnd r, r⟩)
    | (have r := wr_amp0 (by with_reducible assumption) (by with_reducible assumption) (by with_reducible assumption) (by with_reducible assumption) (es_cont (by with_reducible assumption) (by with_reducible assumption)); exact ⟨by omega, by omega, wr_bnd r, r⟩)
    | (have r := wr_amp0 (by with_reducible assumption) (by with_reducible assumption) (by with_reducible assumption) (by with_reducible assumption) (es_html5 (by with_reducible assumption) (by with_reducible assumption)); exact ⟨by omega, by omega, wr_bnd r, r⟩)
    | (have r := wr_amp0 (by with_reducible assumption) (by with_reducible assumption) (by with_reducible assumption) (by with_reducible assumption) (es_raw0 (by with_reducible assumption) (by with_reducible assumption) (by with_reducible assumption) (by with_reducible assumption) (by with_reducible assumption)); exact ⟨by omega, by omega, wr_bnd r, r⟩)
    | (have r := wr_amp0 (by with_reducible assumption) (by with_reducible assumption) (by with_reducible assumption) (by with_reducible assumption) (es_raw1 (by with_reducible assumption) (by with_reducible assumption) (by with_reducible assumption) (by with_reducible assumption) (by with_reducible assumption) (by with_reducible assumption)); exact ⟨by omega, by omega, wr_bnd r, r⟩)
    | (have r := wr_lt (by with_reducible assumption) (by with_reducible assumption) (by with_reducible assumption) (md_lo1 (by with_reducible assumption)) (by with_reducible assumption) (by with_reducible assumption); exact ⟨by omega, by omega, wr_bnd r, r⟩)
    | (have r := wr_gt (by with_reducible assumption) (by with_reducible assumption) (by with_reducible assumption) (md_lo1 (by with_reducible assumption)) (by with_reducible assumption) (by with_reducible assumption) (by with_reducible assumption); exact ⟨by omega, by omega, wr_bnd r, r⟩)
    | (have r := wr_cp (by with_reducible assumption) (by with_reducible assumption) (by with_reducible assumption) (md_lo1 (by with_reducible assumption)) (by with_reducible assumption) (by with_reducible assumption) (by with_reducible assumption); exact ⟨by omega, by omega, wr_bnd r, r⟩)
    | (have r := wr_lt (by with_reducible assumption) (by with_reducible assumption) (by with_reducible assumption) (md_lo2 (by with_reducible assumption)) (by with_reducible assumption) (by with_reducible assumption); exact ⟨by omega, by omega, wr_bnd r, r⟩)
    | (have r := wr_gt (by with_reducible assumption) (by with_reducible assumption) (by with_reducible assumption) (md_lo2 (by with_reducible assumption)) (by with_reducible assumption) (by with_reducible assumption) (by with_reducible assumption); exact ⟨by omega, by omega, wr_bnd r, r⟩)
    | (have r := wr_cp (by with_reducible assumption) (by with_reducible assumption) (by with_reducible assumption) (md_lo2 (by with_reducible assumption)) (by with_reducible assumption) (by with_reducible assumption) (by with_reducible assumption); exact ⟨by omega, by omega, wr_bnd r, r⟩)
    | (have r := wr_none (by with_reducible assumption) (by with_reducible assumption) (by with_reducible assumption) (md_hi (by with_reducible assumption) (by with_reducible assumption)) (by with_reducible assumption) (by with_reducible assumption); exact ⟨by omega, by omega, wr_bnd r, r⟩)
    | (have r := wr_sign (by with_reducible assumption) (by with_reducible assumption) (by with_reducible assumption) (md_hi (by with_reducible assumption) (by with_reducible assumption)) (by with_reducible assumption) (by with_reducible assumption); exact ⟨by omega, r.2.1, wr_bnd r.1, r.1⟩))
  (k_with "measure" => first | omega | (have r := wr_sign (by with_reducible assumption) (by with_reducible assumption) (by with_reducible assumption) (md_hi (by with_reducible assumption) (by with_reducible assumption)) (by with_reducible assumption) (by with_reducible assumption); have r2 := r.2; omega))
  (k_with "exec While Compare cons nil" => k_while (fun script k o => 0 ≤ k ∧ k ≤ (x.length : Int) ∧ (o.length : Int) ≤ 8 * k ∧ WrAt (modeOf way) x o k) (fun script k o => ((x.length : Int) - k).toNat) "k" "out")
  unfold Ok
  dsimp only [CbRet]
  intros
  rename_i hret
  k_dflt cell_enter
  k_steps
  all_goals (refine cb_retS hret ?_ (by k_asm) (by first | k_asm | exact news_tl (by k_asm)); exact wr_end (by with_reducible assumption) (by with_reducible assumption))
end Mine
end
section
open PySem PySem.W PySem.Calls PyProof.Rows PyProof.V PySem.Spec
set_option maxRecDepth 100000
namespace Mine
theorem offQt : True := by
  w_top off
  trivial
def QtAt (pre : List Int) (o : Str) : Prop := o.cps.toList = mapC 34 [38, 113, 117, 111, 116, 59] (pre.map Int.toNat)
section
variable {pre : List Int} {o x : Str} {n : Nat}
theorem qt_nil : QtAt [] (Str.ofString "") := rfl
theorem qt_app (l : List Nat) (c : Nat) : mapC 34 [38, 113, 117, 111, 116, 59] (l ++ [c]) = mapC 34 [38, 113, 117, 111, 116, 59] l ++ (if c = 34 then [38, 113, 117, 111, 116, 59] else [c]) := by
  unfold mapC
  rw [List.flatMap_append]
  simp
theorem one_sign (c d : Nat) : ((⟨#[c]⟩ : Str) == ⟨#[d]⟩) = decide (c = d) := by
  rw [beq_list, Bool.eq_iff_iff, decide_eq_true_eq, decide_eq_true_eq]
  show [c] = [d] ↔ _
  simp
theorem qt_q (h : QtAt pre o) (hb : o.length ≤ 6 * pre.length) (hn : ((⟨#[n]⟩ : Str) == Str.ofString "\"") = true) : (o ++ Str.ofString "&quot;").length ≤ 6 * (pre ++ [(n : Int)]).length ∧ QtAt (pre ++ [(n : Int)]) (o ++ Str.ofString "&quot;") := by
  rw [q_is, one_sign, decide_eq_true_eq] at hn
  have e : (o ++ Str.ofString "&quot;").cps.toList = o.cps.toList ++ [38, 113, 117, 111, 116, 59] := by rw [cat_list, quot_is]
  refine ⟨?_, ?_⟩
  · rw [len_list] at hb ⊢
    rw [e, List.length_append, List.length_append]
    show o.cps.toList.length + 6 ≤ 6 * (pre.length + 1)
    omega
  · unfold QtAt at h ⊢
    rw [e, h, List.map_append]
    show _ = mapC 34 _ (pre.map Int.toNat ++ [n])
    rw [qt_app, if_pos hn]
theorem qt_c (h : QtAt pre o) (hb : o.length ≤ 6 * pre.length) (hn : ((⟨#[n]⟩ : Str) == Str.ofString "\"") = false) : (o ++ (⟨#[n]⟩ : Str)).length ≤ 6 * (pre ++ [(n : Int)]).length ∧ QtAt (pre ++ [(n : Int)]) (o ++ (⟨#[n]⟩ : Str)) := by
  rw [q_is, one_sign, decide_eq_false_iff_not] at hn
  have e : (o ++ (⟨#[n]⟩ : Str)).cps.toList = o.cps.toList ++ [n] := by rw [cat_list]
  refine ⟨?_, ?_⟩
  · rw [len_list] at hb ⊢
    rw [e, List.length_append, List.length_append]
    show o.cps.toList.length + 1 ≤ 6 * (pre.length + 1)
    omega
  · unfold QtAt at h ⊢
    rw [e, h, List.map_append]
    show _ = mapC 34 _ (pre.map Int.toNat ++ [n])
    rw [qt_app, if_neg hn]
theorem qt_end (h : QtAt (KStt.codes x) o) (h1 : (Builtin.Str.occurrences x (Str.ofString "\"") 0 x.length 1).isEmpty = false) (h2 : (Builtin.Str.occurrences x (Str.ofString "'") 0 x.length 1).isEmpty = false) : Str.ofString "\"" ++ o ++ Str.ofString "\"" = quotedS x := by
  rw [q_is] at *
  rw [a_is] at h2
  unfold quotedS quotedL
  rw [if_pos (is_in h1), if_pos (is_in h2), cat3]
  unfold QtAt at h
  rw [h]
  have e : (KStt.codes x).map Int.toNat = x.cps.toList := by
    unfold KStt.codes
    rw [List.map_map]
    exact (List.map_congr_left (g := id) fun a _ => rfl).trans (List.map_id _)
  rw [e]
end
local macro_rules | `(tactic| walk_at "binaryOp Add str str") => `(tactic| (k_here; (with_reducible show wpAny _ _ (binaryOp Operator.Add (Value.str _ _) (Value.str _ _)) _ _ _); (refine KOpn.add ?_ ?_; (focus ((try simp only [Str.length_append]); omega)); intro _ _ _)))
theorem filledD : True := by
  have hFill : (fun (_ : OpenLaw) (_ : Params → Frag) => True) PySem.Challenge.rw_fq0002_01 hd.heap_39 := by k_fill; trivial
  trivial
set_option maxHeartbeats 8000000 in
theorem lawq_ok (w : World) (x : Str) (t0 : Tok) (hl : x.length ≤ 20000) : Ok w 239 [.str x t0] 2 20 (fun t => .str (quotedS x) t) := by
  have _ := filledD
  k_with_none
  (k_with "state" => first | exact ⟨by decide, qt_nil⟩ | exact qt_q (by with_reducible assumption) (by with_reducible assumption) (by with_reducible assumption) | exact qt_c (by with_reducible assumption) (by with_reducible assumption) (by with_reducible assumption))
  (k_with "pyIter str" => k_state (fun pre o => o.length ≤ 6 * pre.length ∧ QtAt pre o) "out")
  unfold Ok
  dsimp only [CbRet]
  intros
  rename_i hret
  k_dflt cell_enter
  k_steps
  all_goals first
    | exact cb_retS hret (quoted_a (by with_reducible assumption)) (by k_asm) (by first | k_asm | exact news_tl (by k_asm))
    | exact cb_retS hret (quoted_b (by with_reducible assumption) (by with_reducible assumption)) (by k_asm) (by first | k_asm | exact news_tl (by k_asm))
    | exact cb_retS hret (qt_end (by with_reducible assumption) (by with_reducible assumption) (by with_reducible assumption)) (by k_asm) (by first | k_asm | exact news_tl (by k_asm))
end Mine
end
section
open PySem PySem.W PySem.Calls PyProof.Rows PyProof.V PySem.Spec
set_option maxRecDepth 100000
namespace Mine
theorem offAt : True := by
  w_top off
  trivial
theorem list_up {h₀ g : Heap} {L l : Addr} {m : Str → Option Value} {xs : Array Value} (F : Fr h₀ L g m) (h : h₀.IsList l xs) : g.IsList l xs := by
  obtain ⟨o, ho, r⟩ := h
  exact ⟨o, F.keep _ _ ho, r⟩
theorem filledE : True := by
  have hFill : (fun (_ : OpenLaw) (_ : Params → Frag) => True) PySem.Challenge.rw_fq0002_01 hd.heap_39 := by k_fill; trivial
  trivial
set_option maxHeartbeats 8000000 in
theorem at_ok (w : World) (l : Addr) (vs : List Value) (ns : List Int) (k : Int) (t1 : Tok) (hi : IntsAre vs ns) (hn : ns.length ≤ 63) (h0 : 0 ≤ k) (h1 : k ≤ 100) :
  ∀ (p : Program) (loose : List Str) (mean : ExcName → Option Value) (mg mb : Str → Option Value) (dp un : Nat) (gd : Option (List Code)) (cn : Str) (cs : Scope) (a : Addr) (ccd : Value) (cl : List (Str × Addr)) (outer : List Env) (A₀ : Around) (base h₀ : Heap) (L : Addr) (m : Str → Option Value) (news : List (Addr × Obj)) (s : Shared) (Q E : Value → Shared → Prop),
    Below A₀ base outer h₀ → Fr h₀ L s.heap m → (hd.heap_39 w.params).In h₀ → News h₀ L s.heap news → Top p loose mean mg mb h₀ → cs.kind = .function → h₀.IsList l vs.toArray →
    dp + 2 < recursionLimit → un + 20 < cLine → (∀ (v : Int) (t : Tok) (h' : Heap) (tk' : Nat), Fr h₀ L h' m → News h₀ L h' news → Q (.int v t) { s with heap := h', toks := tk' }) →
      codeAny (model PySem.Challenge.pw_fq0002_01 w) (ktrTop dp un gd cn cs L a ccd cl outer) (.call (.ref 197) ⟨[.ref l, .int k t1], []⟩) (fun r s' => match r with | .ok (.ret v) => Q v s' | .ok _ => False | .error e => E e s') s := by
  have _ := filledE
  k_with_none
  intro p loose mean mg mb dp un gd cn cs a ccd cl outer A₀ base h₀ L m news s Q E hB hF hX hN hT hk hlst hd' hu hret
  k_dflt cell_enter
  have hlG := list_up (by assumption : Fr h₀ L _ m) hlst
  k_steps
  all_goals exact hret _ _ _ _ (by k_asm) (by first | k_asm | exact news_tl (by k_asm))
end Mine
end
section
open PySem PySem.Sre PyProof.Rows PyProof
namespace Mine
section
variable {ml ml' : List Nat → Nat} {cb cb' : List Nat → List Nat}
theorem subW_eq (h : ∀ c r, (ml (c :: r) = 0 ∧ ml' (c :: r) = 0) ∨ (ml (c :: r) ≠ 0 ∧ ml' (c :: r) = ml (c :: r) ∧ cb' (c :: r) = cb (c :: r)) ∨ (ml (c :: r) = 0 ∧ ml' (c :: r) = 1 ∧ cb' (c :: r) = [c])) : ∀ (n : Nat) (u : List Nat), u.length ≤ n → subW ml' cb' u = subW ml cb u
  | _, [], _ => rfl
  | 0, _ :: _, hn => absurd hn (by simp)
  | n + 1, c :: r, hn => by
    have hn' : r.length ≤ n := by simpa using hn
    rcases h c r with ⟨h1, h2⟩ | ⟨h1, h2, h3⟩ | ⟨h1, h2, h3⟩
    · rw [subW_skip1 h1, subW_skip1 h2, subW_eq h n r hn']
    · rw [subW_hit (List.cons_ne_nil _ _) h1, subW_hit (List.cons_ne_nil _ _) (h2 ▸ h1), h3, h2, subW_eq h n _ (by rw [List.length_drop, List.length_cons]; omega)]
    · rw [subW_skip1 h1, subW_hit (List.cons_ne_nil _ _) (by rw [h2]; decide), h3, h2, List.drop_one, List.tail_cons, subW_eq h n r hn']
      rfl
theorem name_nil (r : List Nat) : refName r = [] ↔ refLen r = 0 := by
  constructor
  · intro h
    by_cases hz : refLen r = 0
    · exact hz
    · have := refLen_room hz
      have e := congrArg List.length h
      unfold refName at e
      rw [List.length_take, List.length_nil] at e
      omega
  · intro h; unfold refName; rw [h]; rfl
theorem mlBare_at (c : Nat) (r : List Nat) : mlBare (c :: r) = if (c = 60 ∨ c = 62 ∨ (c = 38 ∧ refLen r = 0)) then 1 else 0 := rfl
theorem mlAmp_at (c : Nat) (r : List Nat) : mlAmp (c :: r) = if inAmp c = true then 1 else 0 := rfl
theorem w0_eq (u : List Nat) : subW (mlWr 0) (cbWr 0) u = subW mlAmp cbX u := by
  refine subW_eq (fun c r => ?_) u.length u (Nat.le_refl _)
  by_cases h1 : c = 38
  · subst h1; right; left; exact ⟨by rw [mlAmp_at]; decide, rfl, rfl⟩
  by_cases h2 : c = 60
  · subst h2; right; left; exact ⟨by rw [mlAmp_at]; decide, rfl, rfl⟩
  by_cases h3 : c = 62
  · subst h3; right; left; exact ⟨by rw [mlAmp_at]; decide, rfl, rfl⟩
  left
  constructor
  · rw [mlAmp_at, if_neg]
    unfold inAmp
    simp [h1, h2, h3]
  · show (if c = 38 then 1 else if 0 ≤ 1 then (if c = 60 then 1 else if c = 62 then 1 else 0) else _) = 0
    rw [if_neg h1, if_pos (by decide), if_neg h2, if_neg h3]
theorem w1_eq (u : List Nat) : subW (mlWr 1) (cbWr 1) u = subW mlBare cbX u := by
  refine subW_eq (fun c r => ?_) u.length u (Nat.le_refl _)
  by_cases h1 : c = 38
  · subst h1
    by_cases hz : refLen r = 0
    · right; left
      have e : mlBare (38 :: r) = 1 := by
        rw [mlBare_at, if_pos (.inr (.inr ⟨rfl, hz⟩))]
      refine ⟨by rw [e]; decide, by rw [e]; rfl, ?_⟩
      show (if decide (refName r = []) = true then _ else _) = [38, 97, 109, 112, 59]
      rw [if_pos (decide_eq_true ((name_nil r).mpr hz))]
    · right; right
      refine ⟨?_, rfl, ?_⟩
      · rw [mlBare_at, if_neg]
        rintro (h | h | h)
        · cases h
        · cases h
        · exact hz h.2
      · show (if decide (refName r = []) = true then _ else _) = [38]
        rw [if_neg]
        rw [decide_eq_true_eq, name_nil]
        exact hz
  by_cases h2 : c = 60
  · subst h2; right; left; exact ⟨by rw [mlBare_at, if_pos (.inl rfl)]; decide, by rw [mlBare_at, if_pos (.inl rfl)]; rfl, rfl⟩
  by_cases h3 : c = 62
  · subst h3; right; left; exact ⟨by rw [mlBare_at, if_pos (.inr (.inl rfl))]; decide, by rw [mlBare_at, if_pos (.inr (.inl rfl))]; rfl, rfl⟩
  left
  constructor
  · rw [mlBare_at, if_neg]
    rintro (h | h | h)
    · exact h2 h
    · exact h3 h
    · exact h1 h.1
  · show (if c = 38 then 1 else if 1 ≤ 1 then (if c = 60 then 1 else if c = 62 then 1 else 0) else _) = 0
    rw [if_neg h1, if_pos (by decide), if_neg h2, if_neg h3]
theorem sign_sgl (c : Nat) (r : List Nat) : (signAt (c :: r)).2 = sgl c (r.getD 0 0) ∧ (sgl c (r.getD 0 0) ≠ 0 → [38] ++ (signAt (c :: r)).1 ++ [59] = sgText c (r.getD 0 0)) := by
  cases r with
  | nil =>
    unfold signAt sgl sgText
    by_cases h1 : c = 233
    · subst h1; simp
    by_cases h2 : c = 8834
    · subst h2; simp
    by_cases h3 : c = 60
    · subst h3; simp
    by_cases h4 : c = 62
    · subst h4; simp
    simp [h1, h2, h3, h4]
  | cons d r =>
    unfold signAt sgl sgText
    by_cases h5 : d = 8402
    · subst h5
      by_cases h1 : c = 233
      · subst h1; simp
      by_cases h2 : c = 8834
      · subst h2; simp
      by_cases h3 : c = 60
      · subst h3; simp
      by_cases h4 : c = 62
      · subst h4; simp
      simp [h1, h2, h3, h4]
    · by_cases h1 : c = 233
      · subst h1; simp
      by_cases h2 : c = 8834
      · subst h2; simp [h5]
      by_cases h3 : c = 60
      · subst h3; simp [h5]
      by_cases h4 : c = 62
      · subst h4; simp [h5]
      simp [h1, h2, h3, h4]
theorem mlWr_hi {m c : Nat} {r : List Nat} (hm : 1 < m) (h : c ≠ 38) : mlWr m (c :: r) = sgl c (r.getD 0 0) := by
  show (if c = 38 then 1 else if m ≤ 1 then _ else (signAt (c :: r)).2) = _
  rw [if_neg h, if_neg (by omega), (sign_sgl c r).1]
theorem cbWr_hi {m c : Nat} {r : List Nat} (hm : 1 < m) (h : c ≠ 38) (hs : sgl c (r.getD 0 0) ≠ 0) : cbWr m (c :: r) = sgText c (r.getD 0 0) := by
  show (if c = 38 then _ else if m ≤ 1 then _ else [38] ++ (signAt (c :: r)).1 ++ [59]) = _
  rw [if_neg h, if_neg (by omega), (sign_sgl c r).2 hs]
theorem w2_eq (u : List Nat) : subW (mlWr 2) (cbWr 2) u = subW mlChA cbH u := by
  refine subW_eq (fun c r => ?_) u.length u (Nat.le_refl _)
  by_cases h1 : c = 38
  · subst h1; right; left; exact ⟨by show sgA 38 _ ≠ 0; unfold sgA; rw [if_pos rfl]; decide, by show 1 = sgA 38 _; unfold sgA; rw [if_pos rfl], rfl⟩
  · have e : mlChA (c :: r) = sgl c (r.getD 0 0) := by show sgA c (r.getD 0 0) = _; unfold sgA; rw [if_neg h1]
    have e2 : cbH (c :: r) = sgText c (r.getD 0 0) := by show (if c = 38 then _ else sgText c (r.getD 0 0)) = _; rw [if_neg h1]
    by_cases hs : sgl c (r.getD 0 0) = 0
    · left; exact ⟨by rw [e, hs], by rw [mlWr_hi (by decide) h1, hs]⟩
    · right; left; exact ⟨by rw [e]; exact hs, by rw [e, mlWr_hi (by decide) h1], by rw [e2, cbWr_hi (by decide) h1 hs]⟩
end
end Mine
end
section
open PySem PySem.Sre PyProof.Rows PyProof
namespace Mine
/-- what a reference may hold -/
def IsRef (a : List Nat) : Prop := (∃ h : List Nat, h ≠ [] ∧ (∀ c ∈ h, isHx c = true) ∧ a = 35 :: 120 :: h) ∨ (∃ d : List Nat, d ≠ [] ∧ (∀ c ∈ d, isDg c = true) ∧ a = 35 :: d) ∨ (a ≠ [] ∧ ∀ c ∈ a, isWd c = true)
def okC (c : Nat) : Prop := c ≠ 38 ∧ c ≠ 59 ∧ c ≠ 60 ∧ c ≠ 62 ∧ c ≠ 8402 ∧ c ≠ 8834
section
variable {p : Nat → Bool}
theorem drop_tw : ∀ u : List Nat, u.drop (u.takeWhile p).length = u.dropWhile p
  | [] => rfl
  | c :: r => by
    by_cases h : p c = true
    · rw [List.takeWhile_cons, if_pos h, List.dropWhile_cons, if_pos h, List.length_cons, List.drop_succ_cons, drop_tw r]
    · rw [List.takeWhile_cons, if_neg h, List.dropWhile_cons, if_neg h]; rfl
theorem all_tw : ∀ (u : List Nat), ∀ c ∈ u.takeWhile p, p c = true
  | [], _, h => by cases h
  | d :: r, c, hc => by
    by_cases h : p d = true
    · rw [List.takeWhile_cons, if_pos h] at hc
      rcases List.mem_cons.mp hc with rfl | hc
      · exact h
      · exact all_tw r c hc
    · rw [List.takeWhile_cons, if_neg h] at hc; cases hc
theorem endOk_split {u : List Nat} (h : endOk p u ≠ 0) : ∃ a v, u = a ++ 59 :: v ∧ a ≠ [] ∧ (∀ c ∈ a, p c = true) ∧ a.length = endOk p u := by
  have e := h
  unfold endOk at h e ⊢
  split at h
  · rename_i hh
    rw [if_pos hh]
    obtain ⟨h1, h2⟩ := hh
    have ht : u.takeWhile p ++ u.dropWhile p = u := List.takeWhile_append_dropWhile
    have hd := drop_tw (p := p) u
    rw [hd] at h2
    cases hw : u.dropWhile p with
    | nil => rw [hw] at h2; cases h2
    | cons x v =>
      rw [hw] at h2 ht
      injection h2 with h2
      subst h2
      exact ⟨u.takeWhile p, v, ht.symm, fun z => by rw [z] at h1; exact absurd h1 (Nat.lt_irrefl _), all_tw u, rfl⟩
  · exact absurd rfl h
theorem endOk_of {a v : List Nat} (h59 : p 59 = false) (hne : a ≠ []) (ha : ∀ c ∈ a, p c = true) : endOk p (a ++ 59 :: v) = a.length := by
  have e : (a ++ 59 :: v).takeWhile p = a := by
    rw [List.takeWhile_append_of_pos ha, List.takeWhile_cons, if_neg (by rw [h59]; exact Bool.false_ne_true), List.append_nil]
  unfold endOk
  rw [e, if_pos]
  refine ⟨List.length_pos_iff.mpr hne, ?_⟩
  rw [List.drop_append_of_le_length (Nat.le_refl _), List.drop_length]
  rfl
theorem ref_of {a : List Nat} (h : IsRef a) (v : List Nat) : refLen (a ++ 59 :: v) = a.length := by
  rcases h with ⟨h, h1, h2, rfl⟩ | ⟨d, h1, h2, rfl⟩ | ⟨h1, h2⟩
  · unfold refLen
    rw [if_pos (by rfl)]
    have e : endOk isHx ((35 :: 120 :: h ++ 59 :: v).drop 2) = h.length := endOk_of (by decide) h1 h2
    rw [e, if_neg (fun z => h1 (List.length_eq_zero_iff.mp z))]
    simp only [List.length_cons]; omega
  · unfold refLen
    have e : endOk isDg ((35 :: d ++ 59 :: v).drop 1) = d.length := endOk_of (by decide) h1 h2
    rw [if_neg, if_pos (by rfl), e, if_neg (fun z => h1 (List.length_eq_zero_iff.mp z))]
    · simp only [List.length_cons]; omega
    · intro z
      cases d with
      | nil => exact h1 rfl
      | cons x d =>
        have z' : [35, x] = [35, 120] := z
        injection z' with _ z'
        injection z' with z' _
        subst z'
        exact absurd (h2 120 (List.mem_cons_self ..)) (by decide)
  · cases a with
    | nil => exact absurd rfl h1
    | cons x a =>
      have hx : x ≠ 35 := fun z => by subst z; exact absurd (h2 35 (List.mem_cons_self ..)) (by decide)
      unfold refLen
      rw [if_neg, if_neg, endOk_of (by decide) h1 h2]
      · intro z
        have z' : [x] = [35] := z
        injection z' with z' _
        exact hx z'
      · intro z
        have z2 := congrArg (List.take 1) z
        rw [List.take_take] at z2
        have z' : [x] = [35] := z2
        injection z' with z' _
        exact hx z'
theorem name_of {a : List Nat} (h : IsRef a) (v : List Nat) : refName (a ++ 59 :: v) = a := by
  unfold refName
  rw [ref_of h v, List.take_left' rfl]
theorem ref_split {r : List Nat} (h : refLen r ≠ 0) : ∃ a v, r = a ++ 59 :: v ∧ IsRef a := by
  unfold refLen at h
  split at h
  · rename_i h1
    split at h
    · exact absurd rfl h
    · rename_i h2
      obtain ⟨a, v, e1, e2, e3, _⟩ := endOk_split h2
      refine ⟨35 :: 120 :: a, v, ?_, .inl ⟨a, e2, e3, rfl⟩⟩
      have := List.take_append_drop 2 r
      rw [h1, e1] at this
      exact this.symm
  · split at h
    · rename_i h1
      split at h
      · exact absurd rfl h
      · rename_i h2
        obtain ⟨a, v, e1, e2, e3, _⟩ := endOk_split h2
        refine ⟨35 :: a, v, ?_, .inr (.inl ⟨a, e2, e3, rfl⟩)⟩
        have := List.take_append_drop 1 r
        rw [h1, e1] at this
        exact this.symm
    · obtain ⟨a, v, e1, e2, e3, _⟩ := endOk_split h
      exact ⟨a, v, e1, .inr (.inr ⟨e2, e3⟩)⟩
theorem ok_wd {c : Nat} (h : isWd c = true) : okC c := by
  unfold isWd at h
  simp only [Bool.or_eq_true, Bool.and_eq_true, decide_eq_true_eq, beq_iff_eq] at h
  refine ⟨?_, ?_, ?_, ?_, ?_, ?_⟩ <;> omega
theorem ok_hx {c : Nat} (h : isHx c = true) : okC c := by
  unfold isHx at h
  simp only [Bool.or_eq_true, Bool.and_eq_true, decide_eq_true_eq] at h
  refine ⟨?_, ?_, ?_, ?_, ?_, ?_⟩ <;> omega
theorem ok_dg {c : Nat} (h : isDg c = true) : okC c := by
  unfold isDg at h
  simp only [Bool.and_eq_true, decide_eq_true_eq] at h
  refine ⟨?_, ?_, ?_, ?_, ?_, ?_⟩ <;> omega
theorem ok_ref {a : List Nat} (h : IsRef a) : ∀ c ∈ a, okC c := by
  have h35 : okC 35 := by unfold okC; decide
  have h120 : okC 120 := by unfold okC; decide
  rcases h with ⟨h, h1, h2, rfl⟩ | ⟨d, h1, h2, rfl⟩ | ⟨h1, h2⟩
  · intro c hc
    rcases List.mem_cons.mp hc with rfl | hc
    · exact h35
    rcases List.mem_cons.mp hc with rfl | hc
    · exact h120
    · exact ok_hx (h2 c hc)
  · intro c hc
    rcases List.mem_cons.mp hc with rfl | hc
    · exact h35
    · exact ok_dg (h2 c hc)
  · exact fun c hc => ok_wd (h2 c hc)
theorem ref_ne {a : List Nat} (h : IsRef a) : a ≠ [] := by
  rcases h with ⟨h, h1, h2, rfl⟩ | ⟨d, h1, h2, rfl⟩ | ⟨h1, h2⟩
  · exact List.cons_ne_nil _ _
  · exact List.cons_ne_nil _ _
  · exact h1
end
end Mine
end
section
open PySem PySem.Sre PyProof.Rows PyProof
namespace Mine
section
variable {m : Nat}
theorem sgl_ok {c : Nat} (h : okC c) (d : Nat) : sgl c d = if c = 233 then 1 else 0 := by
  obtain ⟨h1, h2, h3, h4, h5, h6⟩ := h
  unfold sgl
  by_cases e : c = 233
  · rw [if_pos e, if_pos e]
  · rw [if_neg e, if_neg e, if_neg (by rintro (h | h | h); exact h6 h; exact h3 h; exact h4 h)]
theorem chr_at (c : Nat) (r : List Nat) : mlChr (c :: r) = sgl c (r.getD 0 0) := rfl
theorem cbC_at (c : Nat) (r : List Nat) : cbC (c :: r) = sgText c (r.getD 0 0) := rfl
theorem sgl_59 (d : Nat) : sgl 59 d = 0 := by unfold sgl; simp
/-- what is written of one sign that opens no pair -/
def one (c : Nat) : List Nat := if c = 233 then [38, 101, 97, 99, 117, 116, 101, 59] else [c]
def solo (c : Nat) : Prop := okC c ∨ c = 59
theorem sgl_solo {c : Nat} (h : solo c) (d : Nat) : sgl c d = if c = 233 then 1 else 0 := by
  rcases h with h | rfl
  · exact sgl_ok h d
  · rw [sgl_59, if_neg (by decide)]
theorem solo_38 {c : Nat} (h : solo c) : c ≠ 38 := by
  rcases h with h | rfl
  · exact h.1
  · decide
theorem sgText_233 (d : Nat) : sgText 233 d = [38, 101, 97, 99, 117, 116, 101, 59] := rfl
theorem O_solo {c : Nat} (h : solo c) (r : List Nat) : subW mlChr cbC (c :: r) = one c ++ subW mlChr cbC r := by
  have e := sgl_solo h (r.getD 0 0)
  by_cases h2 : c = 233
  · rw [if_pos h2] at e
    subst h2
    rw [subW_hit (List.cons_ne_nil _ _) (by rw [chr_at, e]; decide), chr_at, e, cbC_at, sgText_233]
    rfl
  · rw [if_neg h2] at e
    rw [subW_skip1 (by rw [chr_at, e])]
    unfold one
    rw [if_neg h2]
    rfl
theorem W_solo (hm : 1 < m) {c : Nat} (h : solo c) (r : List Nat) : subW (mlWr m) (cbWr m) (c :: r) = one c ++ subW (mlWr m) (cbWr m) r := by
  have e := sgl_solo h (r.getD 0 0)
  have h38 := solo_38 h
  by_cases h2 : c = 233
  · rw [if_pos h2] at e
    subst h2
    rw [subW_hit (List.cons_ne_nil _ _) (by rw [mlWr_hi hm h38, e]; decide), mlWr_hi hm h38, e, cbWr_hi hm h38 (by rw [e]; decide), sgText_233]
    rfl
  · rw [if_neg h2] at e
    rw [subW_skip1 (by rw [mlWr_hi hm h38, e])]
    unfold one
    rw [if_neg h2]
    rfl
theorem O_flat : ∀ (a : List Nat), (∀ c ∈ a, solo c) → ∀ r, subW mlChr cbC (a ++ r) = a.flatMap one ++ subW mlChr cbC r
  | [], _, _ => rfl
  | c :: a, h, r => by
    rw [List.cons_append, O_solo (h c (List.mem_cons_self ..)), O_flat a (fun d hd => h d (List.mem_cons_of_mem _ hd)) r, List.flatMap_cons, List.append_assoc]
theorem W_flat (hm : 1 < m) : ∀ (a : List Nat), (∀ c ∈ a, solo c) → ∀ r, subW (mlWr m) (cbWr m) (a ++ r) = a.flatMap one ++ subW (mlWr m) (cbWr m) r
  | [], _, _ => rfl
  | c :: a, h, r => by
    rw [List.cons_append, W_solo hm (h c (List.mem_cons_self ..)), W_flat hm a (fun d hd => h d (List.mem_cons_of_mem _ hd)) r, List.flatMap_cons, List.append_assoc]
theorem solo_ref {a : List Nat} (h : IsRef a) : ∀ c ∈ a ++ [59], solo c := by
  intro c hc
  rcases List.mem_append.mp hc with hc | hc
  · exact .inl (ok_ref h c hc)
  · exact .inr (List.mem_singleton.mp hc)
theorem O_38 (r : List Nat) : subW mlChr cbC (38 :: r) = 38 :: subW mlChr cbC r := subW_skip1 (by rw [chr_at]; unfold sgl; simp)
theorem O_amp5 (r : List Nat) : subW mlChr cbC ([38, 97, 109, 112, 59] ++ r) = [38, 97, 109, 112, 59] ++ subW mlChr cbC r := by
  show subW mlChr cbC (38 :: ([97, 109, 112, 59] ++ r)) = _
  rw [O_38, O_flat [97, 109, 112, 59] (by
    intro c hc
    simp only [List.mem_cons, List.not_mem_nil, or_false] at hc
    rcases hc with rfl | rfl | rfl | rfl
    · left; unfold okC; decide
    · left; unfold okC; decide
    · left; unfold okC; decide
    · right; rfl)]
  rfl
theorem W_38 (r : List Nat) : subW (mlWr m) (cbWr m) (38 :: r) = (if esc m r = true then [38, 97, 109, 112, 59] else [38]) ++ subW (mlWr m) (cbWr m) r := by
  rw [subW_hit (List.cons_ne_nil _ _) (by show (1 : Nat) ≠ 0; decide)]
  rfl
theorem any_at (c : Nat) (r : List Nat) : mlAny (c :: r) = if c = 38 ∧ refLen r ≠ 0 then refLen r + 2 else 0 := rfl
theorem esc_no (h3 : 3 ≤ m) {r : List Nat} (h : refLen r = 0) : esc m r = false := by
  have e := (name_nil r).mpr h
  unfold esc
  rw [if_neg (by omega), if_neg (by omega), if_neg (by omega), e]
  split <;> rfl
theorem sgl_cases (c d : Nat) : sgl c d = 0 ∨ sgl c d = 1 ∨ (sgl c d = 2 ∧ d = 8402) := by
  unfold sgl
  split
  · exact .inr (.inl rfl)
  · split
    · split
      · rename_i h; exact .inr (.inr ⟨rfl, h⟩)
      · exact .inr (.inl rfl)
    · exact .inl rfl
variable {cb : List Nat → List Nat}
theorem I_head (hcb : ∀ u, (cb u).getD 0 0 = 38 ∧ cb u ≠ []) (r : List Nat) : (subW mlAny cb r).getD 0 0 = r.getD 0 0 := by
  cases r with
  | nil => rfl
  | cons d r =>
    by_cases h : mlAny (d :: r) = 0
    · rw [subW_skip1 h]; rfl
    · have hd : d = 38 := by
        rw [any_at] at h
        split at h
        · rename_i q; exact q.1
        · exact absurd rfl h
      rw [subW_hit (List.cons_ne_nil _ _) h, hd]
      have ⟨h1, h2⟩ := hcb (38 :: r)
      cases e : cb (38 :: r) with
      | nil => exact absurd e h2
      | cons x w => rw [e] at h1; exact h1
theorem sub5_eq (h3 : 3 ≤ m) (hcb : ∀ u, (cb u).getD 0 0 = 38 ∧ cb u ≠ []) (hc : ∀ a v, IsRef a → cb (38 :: (a ++ 59 :: v)) = (if esc m (a ++ 59 :: v) = true then [38, 97, 109, 112, 59] else [38]) ++ (a ++ [59])) :
    ∀ (n : Nat) (u : List Nat), u.length ≤ n → subW mlChr cbC (subW mlAny cb u) = subW (mlWr m) (cbWr m) u
  | _, [], _ => rfl
  | 0, _ :: _, hn => absurd hn (by simp)
  | n + 1, c :: r, hn => by
    have hn' : r.length ≤ n := by simpa using hn
    by_cases h38 : c = 38
    · subst h38
      rw [W_38]
      by_cases hz : refLen r = 0
      · rw [subW_skip1 (by rw [any_at, if_neg (fun q => q.2 hz)]), O_38, sub5_eq h3 hcb hc n r hn', esc_no h3 hz, if_neg Bool.false_ne_true]
        rfl
      · obtain ⟨a, v, rfl, ha⟩ := ref_split hz
        have el : mlAny (38 :: (a ++ 59 :: v)) = a.length + 2 := by rw [any_at, if_pos ⟨rfl, hz⟩, ref_of ha]
        rw [subW_hit (List.cons_ne_nil _ _) (by rw [el]; omega), el, hc a v ha]
        have ed : (38 :: (a ++ 59 :: v)).drop (a.length + 2) = v := by
          rw [show a.length + 2 = (a.length + 1) + 1 by omega, List.drop_succ_cons, List.drop_append, List.drop_of_length_le (by omega), show a.length + 1 - a.length = 1 by omega]
          rfl
        rw [ed]
        have eW : subW (mlWr m) (cbWr m) (a ++ 59 :: v) = (a ++ [59]).flatMap one ++ subW (mlWr m) (cbWr m) v := by
          rw [← W_flat (by omega) _ (solo_ref ha), List.append_assoc]; rfl
        have ih := sub5_eq h3 hcb hc n v (by rw [List.length_append, List.length_cons] at hn'; omega)
        rw [eW, ← ih, List.append_assoc]
        cases esc m (a ++ 59 :: v) with
        | true =>
          rw [if_pos rfl, O_amp5, O_flat _ (solo_ref ha)]
        | false =>
          rw [if_neg Bool.false_ne_true]
          show subW mlChr cbC (38 :: (a ++ [59] ++ subW mlAny cb v)) = _
          rw [O_38, O_flat _ (solo_ref ha)]
          rfl
    · have e1 : subW mlAny cb (c :: r) = c :: subW mlAny cb r := subW_skip1 (by rw [any_at, if_neg (fun q => h38 q.1)])
      have hh := I_head hcb r
      rw [e1]
      rcases sgl_cases c (r.getD 0 0) with h | h | ⟨h, h2⟩
      · rw [subW_skip1 (by rw [chr_at, hh, h]), subW_skip1 (by rw [mlWr_hi (by omega) h38, h]), sub5_eq h3 hcb hc n r hn']
      · rw [subW_hit (List.cons_ne_nil _ _) (by rw [chr_at, hh, h]; decide), subW_hit (u := c :: r) (List.cons_ne_nil _ _) (by rw [mlWr_hi (by omega) h38, h]; decide), cbWr_hi (by omega) h38 (by rw [h]; decide), cbC_at, chr_at, mlWr_hi (by omega) h38, hh, h]
        show _ ++ subW mlChr cbC (subW mlAny cb r) = _ ++ subW (mlWr m) (cbWr m) r
        rw [sub5_eq h3 hcb hc n r hn']
      · rw [subW_hit (List.cons_ne_nil _ _) (by rw [chr_at, hh, h]; decide), subW_hit (u := c :: r) (List.cons_ne_nil _ _) (by rw [mlWr_hi (by omega) h38, h]; decide), cbWr_hi (by omega) h38 (by rw [h]; decide), cbC_at, chr_at, mlWr_hi (by omega) h38, hh, h]
        cases r with
        | nil => cases h2
        | cons d r2 =>
          have hd : d = 8402 := h2
          subst hd
          have e2 : subW mlAny cb (8402 :: r2) = 8402 :: subW mlAny cb r2 := subW_skip1 (by rw [any_at, if_neg (fun q => absurd q.1 (by decide))])
          rw [e2]
          show _ ++ subW mlChr cbC (subW mlAny cb r2) = _ ++ subW (mlWr m) (cbWr m) r2
          rw [sub5_eq h3 hcb hc n r2 (by simp at hn'; omega)]
theorem known_sign (a : List Nat) : isKnown ⟨a.toArray⟩ = decide (signL a ≠ []) := by
  have e (l : List Nat) : (⟨a.toArray⟩ = (⟨l.toArray⟩ : Str)) = (a = l) := by
    apply propext
    constructor
    · intro h; injection h with h; exact congrArg Array.toList h
    · rintro rfl; rfl
  unfold isKnown signL
  simp only [e]
  by_cases h1 : a = [97, 109, 112]
  · subst h1; rfl
  by_cases h2 : a = [118, 110, 115, 117, 98]
  · subst h2; rfl
  by_cases h3 : a = [110, 118, 108, 116]
  · subst h3; rfl
  by_cases h4 : a = [110, 118, 103, 116]
  · subst h4; rfl
  by_cases h5 : a = [108, 116]
  · subst h5; rfl
  by_cases h6 : a = [103, 116]
  · subst h6; rfl
  by_cases h7 : a = [115, 117, 98]
  · subst h7; rfl
  by_cases h8 : a = [101, 97, 99, 117, 116, 101]
  · subst h8; rfl
  simp [h1, h2, h3, h4, h5, h6, h7, h8]
theorem w3_eq (u : List Nat) : subW mlChr cbC (subW mlAny cbE u) = subW (mlWr 3) (cbWr 3) u := by
  refine sub5_eq (cb := cbE) (m := 3) (by decide) (fun u => by unfold cbE; exact ⟨rfl, List.cons_ne_nil _ _⟩) (fun a v ha => ?_) u.length u (Nat.le_refl _)
  have e : cbE (38 :: (a ++ 59 :: v)) = [38, 97, 109, 112, 59] ++ refName (a ++ 59 :: v) ++ [59] := rfl
  have e2 : esc 3 (a ++ 59 :: v) = true := by
    show decide (refName (a ++ 59 :: v) ≠ []) = true
    rw [name_of ha]; exact decide_eq_true (ref_ne ha)
  rw [e, e2, if_pos rfl, name_of ha, List.append_assoc]
theorem w4_eq (u : List Nat) : subW mlChr cbC (subW mlAny cbR u) = subW (mlWr 4) (cbWr 4) u := by
  refine sub5_eq (cb := cbR) (m := 4) (by decide) (fun u => ?_) (fun a v ha => ?_) u.length u (Nat.le_refl _)
  · unfold cbR; split <;> exact ⟨rfl, List.cons_ne_nil _ _⟩
  have e : cbR (38 :: (a ++ 59 :: v)) = if isKnown ⟨(refName (a ++ 59 :: v)).toArray⟩ = true then [38] ++ refName (a ++ 59 :: v) ++ [59] else [38, 97, 109, 112, 59] ++ refName (a ++ 59 :: v) ++ [59] := rfl
  have e2 : esc 4 (a ++ 59 :: v) = decide (signL a = []) := by
    show (decide (refName (a ++ 59 :: v) ≠ []) && decide (signL (refName (a ++ 59 :: v)) = [])) = _
    rw [name_of ha, decide_eq_true (ref_ne ha)]; rfl
  rw [e, e2, name_of ha, known_sign]
  by_cases h : signL a = []
  · rw [if_neg (by rw [decide_eq_true_eq]; exact fun z => z h), if_pos (decide_eq_true h), List.append_assoc]
  · rw [if_pos (decide_eq_true h), if_neg (by rw [decide_eq_true_eq]; exact h), List.append_assoc]
end
end Mine
end
section
open PySem PySem.Sre PyProof.Rows PyProof
namespace Mine
section
variable {m : Nat}
theorem rd_at (c : Nat) (r : List Nat) : mlRd (c :: r) = if c = 38 ∧ signL (refName r) ≠ [] then (refName r).length + 2 else 0 := rfl
theorem R_plain {c : Nat} (h : c ≠ 38) (r : List Nat) : subW mlRd cbRd (c :: r) = c :: subW mlRd cbRd r := subW_skip1 (by rw [rd_at, if_neg (fun q => h q.1)])
theorem R_unk {r : List Nat} (h : signL (refName r) = []) : subW mlRd cbRd (38 :: r) = 38 :: subW mlRd cbRd r := subW_skip1 (by rw [rd_at, if_neg (fun q => q.2 h)])
theorem R_nor {r : List Nat} (h : refLen r = 0) : subW mlRd cbRd (38 :: r) = 38 :: subW mlRd cbRd r := R_unk (by rw [(name_nil r).mpr h]; rfl)
theorem drop_ref (a v : List Nat) : (38 :: (a ++ 59 :: v)).drop (a.length + 2) = v := by
  rw [show a.length + 2 = (a.length + 1) + 1 by omega, List.drop_succ_cons, List.drop_append, List.drop_of_length_le (by omega), show a.length + 1 - a.length = 1 by omega]
  rfl
theorem R_ref {a : List Nat} (h : IsRef a) (hs : signL a ≠ []) (v : List Nat) : subW mlRd cbRd (38 :: (a ++ 59 :: v)) = signL a ++ subW mlRd cbRd v := by
  have e : mlRd (38 :: (a ++ 59 :: v)) = a.length + 2 := by rw [rd_at, name_of h, if_pos ⟨rfl, hs⟩]
  have e2 : cbRd (38 :: (a ++ 59 :: v)) = signL a := by show signL (refName (a ++ 59 :: v)) = _; rw [name_of h]
  rw [subW_hit (List.cons_ne_nil _ _) (by rw [e]; omega), e, e2, drop_ref]
theorem isr {a : List Nat} (h : a ≠ []) (h2 : ∀ c ∈ a, isWd c = true) : IsRef a := .inr (.inr ⟨h, h2⟩)
theorem R_amp (v : List Nat) : subW mlRd cbRd ([38, 97, 109, 112, 59] ++ v) = 38 :: subW mlRd cbRd v := R_ref (a := [97, 109, 112]) (isr (by decide) (by decide)) (by decide) v
theorem R_lt (v : List Nat) : subW mlRd cbRd ([38, 108, 116, 59] ++ v) = 60 :: subW mlRd cbRd v := R_ref (a := [108, 116]) (isr (by decide) (by decide)) (by decide) v
theorem R_gt (v : List Nat) : subW mlRd cbRd ([38, 103, 116, 59] ++ v) = 62 :: subW mlRd cbRd v := R_ref (a := [103, 116]) (isr (by decide) (by decide)) (by decide) v
theorem R_sgt {c d : Nat} (h : sgl c d ≠ 0) (v : List Nat) : subW mlRd cbRd (sgText c d ++ v) = (if sgl c d = 2 then [c, 8402] else [c]) ++ subW mlRd cbRd v := by
  by_cases h1 : c = 233
  · subst h1
    exact R_ref (a := [101, 97, 99, 117, 116, 101]) (isr (by decide) (by decide)) (by decide) v
  by_cases h2 : c = 8834
  · subst h2
    by_cases hd : d = 8402
    · subst hd; exact R_ref (a := [118, 110, 115, 117, 98]) (isr (by decide) (by decide)) (by decide) v
    · have e1 : sgText 8834 d = [38, 115, 117, 98, 59] := by unfold sgText; simp [hd]
      have e2 : sgl 8834 d = 1 := by unfold sgl; simp [hd]
      rw [e1, e2]
      exact R_ref (a := [115, 117, 98]) (isr (by decide) (by decide)) (by decide) v
  by_cases h3 : c = 60
  · subst h3
    by_cases hd : d = 8402
    · subst hd; exact R_ref (a := [110, 118, 108, 116]) (isr (by decide) (by decide)) (by decide) v
    · have e1 : sgText 60 d = [38, 108, 116, 59] := by unfold sgText; simp [hd]
      have e2 : sgl 60 d = 1 := by unfold sgl; simp [hd]
      rw [e1, e2]
      exact R_lt v
  by_cases h4 : c = 62
  · subst h4
    by_cases hd : d = 8402
    · subst hd; exact R_ref (a := [110, 118, 103, 116]) (isr (by decide) (by decide)) (by decide) v
    · have e1 : sgText 62 d = [38, 103, 116, 59] := by unfold sgText; simp [hd]
      have e2 : sgl 62 d = 1 := by unfold sgl; simp [hd]
      rw [e1, e2]
      exact R_gt v
  exact absurd (by unfold sgl; simp [h1, h2, h3, h4]) h
theorem W_lo (hm : m ≤ 1) {c : Nat} (h : c ≠ 38) (r : List Nat) : subW (mlWr m) (cbWr m) (c :: r) = (if c = 60 then [38, 108, 116, 59] else if c = 62 then [38, 103, 116, 59] else [c]) ++ subW (mlWr m) (cbWr m) r := by
  have e : mlWr m (c :: r) = if c = 60 then 1 else if c = 62 then 1 else 0 := by
    show (if c = 38 then 1 else if m ≤ 1 then (if c = 60 then 1 else if c = 62 then 1 else 0) else _) = _
    rw [if_neg h, if_pos hm]
  have e2 : cbWr m (c :: r) = if c = 60 then [38, 108, 116, 59] else [38, 103, 116, 59] := by
    show (if c = 38 then _ else if m ≤ 1 then (if c = 60 then [38, 108, 116, 59] else [38, 103, 116, 59]) else _) = _
    rw [if_neg h, if_pos hm]
  by_cases h1 : c = 60
  · rw [if_pos h1] at e e2 ⊢
    rw [subW_hit (List.cons_ne_nil _ _) (by rw [e]; decide), e, e2]; rfl
  by_cases h2 : c = 62
  · rw [if_neg h1, if_pos h2] at e
    rw [if_neg h1] at e2
    rw [if_neg h1, if_pos h2, subW_hit (List.cons_ne_nil _ _) (by rw [e]; decide), e, e2]; rfl
  · rw [if_neg h1, if_neg h2] at e
    rw [if_neg h1, if_neg h2, subW_skip1 e]; rfl
theorem rdwr (G : List Nat → List Nat) (hG0 : G [] = []) (hG : ∀ c r, c ≠ 38 → G (c :: r) = c :: G r)
    (hA : ∀ n, (∀ v : List Nat, v.length ≤ n → subW mlRd cbRd (subW (mlWr m) (cbWr m) v) = G v) → ∀ r : List Nat, r.length ≤ n → subW mlRd cbRd (subW (mlWr m) (cbWr m) (38 :: r)) = G (38 :: r)) :
    ∀ (n : Nat) (u : List Nat), u.length ≤ n → subW mlRd cbRd (subW (mlWr m) (cbWr m) u) = G u
  | _, [], _ => by rw [hG0]; rfl
  | 0, _ :: _, hn => absurd hn (by simp)
  | n + 1, c :: r, hn => by
    have hn' : r.length ≤ n := by simpa using hn
    have ih := rdwr G hG0 hG hA n
    by_cases h38 : c = 38
    · subst h38; exact hA n ih r hn'
    by_cases hm : m ≤ 1
    · rw [W_lo hm h38, hG c r h38, ← ih r hn']
      by_cases h1 : c = 60
      · rw [if_pos h1, R_lt, h1]
      by_cases h2 : c = 62
      · rw [if_neg h1, if_pos h2, R_gt, h2]
      · rw [if_neg h1, if_neg h2]; exact R_plain h38 _
    · rw [hG c r h38]
      rcases sgl_cases c (r.getD 0 0) with h | h | ⟨h, h2⟩
      · rw [subW_skip1 (ml := mlWr m) (by rw [mlWr_hi (by omega) h38, h]), R_plain h38, ih r hn']
      · rw [subW_hit (ml := mlWr m) (List.cons_ne_nil _ _) (by rw [mlWr_hi (by omega) h38, h]; decide), cbWr_hi (by omega) h38 (by rw [h]; decide), R_sgt (by rw [h]; decide), mlWr_hi (by omega) h38, h, if_neg (by decide)]
        show c :: subW mlRd cbRd (subW (mlWr m) (cbWr m) r) = _
        rw [ih r hn']
      · cases r with
        | nil => cases h2
        | cons d r2 =>
          have hd : d = 8402 := h2
          subst hd
          have h' : sgl c 8402 = 2 := h
          rw [subW_hit (ml := mlWr m) (List.cons_ne_nil _ _) (by rw [mlWr_hi (by omega) h38, h]; decide), cbWr_hi (by omega) h38 (by rw [h]; decide), R_sgt (by rw [h]; decide), mlWr_hi (by omega) h38, h, if_pos rfl]
          show c :: 8402 :: subW mlRd cbRd (subW (mlWr m) (cbWr m) r2) = _
          rw [ih r2 (by simp at hn'; omega), hG 8402 r2 (by decide)]
end
end Mine
end
section
open PySem PySem.Sre PyProof.Rows PyProof
namespace Mine
section
variable {m : Nat}
theorem cbWr_38 {u : List Nat} (h : mlWr m u ≠ 0) : ∃ w, cbWr m u = 38 :: w := by
  unfold cbWr
  split
  · split <;> exact ⟨_, rfl⟩
  · split
    · split <;> exact ⟨_, rfl⟩
    · exact ⟨_, rfl⟩
theorem copied : ∀ (a u v : List Nat), (∀ c ∈ a, c ≠ 38) → subW (mlWr m) (cbWr m) u = a ++ v → ∃ r, u = a ++ r ∧ v = subW (mlWr m) (cbWr m) r
  | [], u, v, _, h => ⟨u, rfl, h.symm⟩
  | x :: a, [], v, _, h => by
    rw [subW_nil] at h; cases h
  | x :: a, c :: u, v, ha, h => by
    by_cases hz : mlWr m (c :: u) = 0
    · rw [subW_skip1 hz, List.cons_append] at h
      injection h with h1 h2
      obtain ⟨r, e1, e2⟩ := copied a u v (fun d hd => ha d (List.mem_cons_of_mem _ hd)) h2
      exact ⟨r, by rw [h1, e1, List.cons_append], e2⟩
    · obtain ⟨w, hw⟩ := cbWr_38 hz
      rw [subW_hit (List.cons_ne_nil _ _) hz, hw, List.cons_append, List.cons_append] at h
      injection h with h1 _
      exact absurd h1.symm (ha x (List.mem_cons_self ..))
theorem nor_W {r : List Nat} (h : refLen r = 0) : refLen (subW (mlWr m) (cbWr m) r) = 0 := by
  by_cases hz : refLen (subW (mlWr m) (cbWr m) r) = 0
  · exact hz
  · obtain ⟨a, v, e, ha⟩ := ref_split hz
    have e' : subW (mlWr m) (cbWr m) r = (a ++ [59]) ++ v := by rw [e, List.append_assoc]; rfl
    obtain ⟨w, e1, _⟩ := copied (a ++ [59]) r v (fun c hc => solo_38 (solo_ref ha c hc)) e'
    have e2 : r = a ++ 59 :: w := by rw [e1, List.append_assoc]; rfl
    rw [e2, ref_of ha] at h
    exact absurd (List.length_eq_zero_iff.mp h) (ref_ne ha)
theorem W_lo_flat (hm : m ≤ 1) : ∀ (a : List Nat), (∀ c ∈ a, solo c) → ∀ v, subW (mlWr m) (cbWr m) (a ++ v) = a ++ subW (mlWr m) (cbWr m) v
  | [], _, _ => rfl
  | c :: a, h, v => by
    have hc := h c (List.mem_cons_self ..)
    have h60 : c ≠ 60 := by rcases hc with q | rfl; exact q.2.2.1; decide
    have h62 : c ≠ 62 := by rcases hc with q | rfl; exact q.2.2.2.1; decide
    rw [List.cons_append, W_lo hm (solo_38 hc), if_neg h60, if_neg h62, W_lo_flat hm a (fun d hd => h d (List.mem_cons_of_mem _ hd)) v]
    rfl
theorem flat_known {a : List Nat} (h : signL a ≠ []) : (a ++ [59]).flatMap one = a ++ [59] := by
  unfold signL at h
  (repeat' split at h) <;> first | (rename_i e; subst e; rfl) | exact absurd rfl h
theorem r0_eq (u : List Nat) : subW mlRd cbRd (subW (mlWr 0) (cbWr 0) u) = u :=
  rdwr (m := 0) id rfl (fun _ _ _ => rfl) (fun n ih r hr => by
    rw [W_38, if_pos (by rfl), R_amp, ih r hr]; rfl) u.length u (Nat.le_refl _)
theorem r2_eq (u : List Nat) : subW mlRd cbRd (subW (mlWr 2) (cbWr 2) u) = u :=
  rdwr (m := 2) id rfl (fun _ _ _ => rfl) (fun n ih r hr => by
    rw [W_38, if_pos (by rfl), R_amp, ih r hr]; rfl) u.length u (Nat.le_refl _)
theorem r3_eq (u : List Nat) : subW mlRd cbRd (subW (mlWr 3) (cbWr 3) u) = u :=
  rdwr (m := 3) id rfl (fun _ _ _ => rfl) (fun n ih r hr => by
    rw [W_38]
    by_cases hz : refLen r = 0
    · rw [esc_no (by decide) hz, if_neg Bool.false_ne_true]
      show subW mlRd cbRd (38 :: subW (mlWr 3) (cbWr 3) r) = _
      rw [R_nor (nor_W hz), ih r hr]; rfl
    · have e : esc 3 r = true := by
        show decide (refName r ≠ []) = true
        exact decide_eq_true (fun z => hz ((name_nil r).mp z))
      rw [if_pos e, R_amp, ih r hr]; rfl) u.length u (Nat.le_refl _)
theorem r1_eq (u : List Nat) : subW mlRd cbRd (subW (mlWr 1) (cbWr 1) u) = subW mlRd cbRd u :=
  rdwr (m := 1) (subW mlRd cbRd) rfl (fun c r h => R_plain h r) (fun n ih r hr => by
    rw [W_38]
    by_cases hz : refLen r = 0
    · have e : esc 1 r = true := by
        show decide (refName r = []) = true
        exact decide_eq_true ((name_nil r).mpr hz)
      rw [if_pos e, R_amp, ih r hr, R_nor hz]
    · have e : esc 1 r = false := by
        show decide (refName r = []) = false
        exact decide_eq_false (fun z => hz ((name_nil r).mp z))
      rw [e, if_neg Bool.false_ne_true]
      obtain ⟨a, v, rfl, ha⟩ := ref_split hz
      have eW : subW (mlWr 1) (cbWr 1) (a ++ 59 :: v) = a ++ 59 :: subW (mlWr 1) (cbWr 1) v := by
        have := W_lo_flat (m := 1) (by decide) (a ++ [59]) (solo_ref ha) v
        rw [List.append_assoc, List.append_assoc] at this
        exact this
      show subW mlRd cbRd (38 :: subW (mlWr 1) (cbWr 1) (a ++ 59 :: v)) = _
      by_cases hs : signL a = []
      · have e1 : signL (refName (a ++ 59 :: v)) = [] := by rw [name_of ha]; exact hs
        have e2 : signL (refName (subW (mlWr 1) (cbWr 1) (a ++ 59 :: v))) = [] := by rw [eW, name_of ha]; exact hs
        rw [R_unk e2, R_unk e1, ih _ hr]
      · rw [eW, R_ref ha hs, R_ref ha hs, ih v (by rw [List.length_append, List.length_cons] at hr; omega)]) u.length u (Nat.le_refl _)
theorem r4_eq (u : List Nat) : subW mlRd cbRd (subW (mlWr 4) (cbWr 4) u) = subW mlRd cbRd u :=
  rdwr (m := 4) (subW mlRd cbRd) rfl (fun c r h => R_plain h r) (fun n ih r hr => by
    rw [W_38]
    by_cases hz : refLen r = 0
    · rw [esc_no (by decide) hz, if_neg Bool.false_ne_true]
      show subW mlRd cbRd (38 :: subW (mlWr 4) (cbWr 4) r) = _
      rw [R_nor (nor_W hz), ih r hr, R_nor hz]
    · obtain ⟨a, v, rfl, ha⟩ := ref_split hz
      have e : esc 4 (a ++ 59 :: v) = decide (signL a = []) := by
        show (decide (refName (a ++ 59 :: v) ≠ []) && decide (signL (refName (a ++ 59 :: v)) = [])) = _
        rw [name_of ha, decide_eq_true (ref_ne ha)]; rfl
      by_cases hs : signL a = []
      · have e1 : signL (refName (a ++ 59 :: v)) = [] := by rw [name_of ha]; exact hs
        rw [e, if_pos (decide_eq_true hs), R_amp, ih _ hr, R_unk e1]
      · rw [e, if_neg (by rw [decide_eq_true_eq]; exact hs)]
        have eW : subW (mlWr 4) (cbWr 4) (a ++ 59 :: v) = a ++ 59 :: subW (mlWr 4) (cbWr 4) v := by
          have := W_flat (m := 4) (by decide) (a ++ [59]) (solo_ref ha) v
          rw [flat_known hs, List.append_assoc, List.append_assoc] at this
          exact this
        show subW mlRd cbRd (38 :: subW (mlWr 4) (cbWr 4) (a ++ 59 :: v)) = _
        rw [eW, R_ref ha hs, R_ref ha hs, ih v (by rw [List.length_append, List.length_cons] at hr; omega)]) u.length u (Nat.le_refl _)
end
end Mine
end
section
open PySem PySem.Sre PyProof.Rows PyProof
namespace Mine
section
variable {ml : List Nat → Nat} {cb : List Nat → List Nat}
theorem subW_sig (h : ∀ u : List Nat, (∀ c ∈ u, c ∈ sig) → ∀ c ∈ cb u, c ∈ sig) : ∀ (n : Nat) (u : List Nat), u.length ≤ n → (∀ c ∈ u, c ∈ sig) → ∀ c ∈ subW ml cb u, c ∈ sig
  | _, [], _, _ => fun c hc => by cases hc
  | 0, _ :: _, hn, _ => absurd hn (by simp)
  | n + 1, d :: r, hn, hu => by
    intro c hc
    by_cases hz : ml (d :: r) = 0
    · rw [subW_skip1 hz] at hc
      rcases List.mem_cons.mp hc with rfl | hc
      · exact hu _ (List.mem_cons_self ..)
      · exact subW_sig h n r (by simpa using hn) (fun e he => hu e (List.mem_cons_of_mem _ he)) c hc
    · rw [subW_hit (List.cons_ne_nil _ _) hz] at hc
      rcases List.mem_append.mp hc with hc | hc
      · exact h _ hu c hc
      · exact subW_sig h n _ (by rw [List.length_drop]; simp only [List.length_cons] at hn ⊢; omega) (fun e he => hu e (List.mem_of_mem_drop he)) c hc
theorem subW_len (h : ∀ u, ml u ≠ 0 → (cb u).length ≤ 8 * min (ml u) u.length) : ∀ (n : Nat) (u : List Nat), u.length ≤ n → (subW ml cb u).length ≤ 8 * u.length
  | _, [], _ => Nat.zero_le _
  | 0, _ :: _, hn => absurd hn (by simp)
  | n + 1, d :: r, hn => by
    by_cases hz : ml (d :: r) = 0
    · rw [subW_skip1 hz]
      have := subW_len h n r (by simpa using hn)
      simp only [List.length_cons]
      omega
    · rw [subW_hit (List.cons_ne_nil _ _) hz, List.length_append]
      have h1 := h _ hz
      have h2 := subW_len h n ((d :: r).drop (ml (d :: r))) (by rw [List.length_drop]; simp only [List.length_cons] at hn ⊢; omega)
      rw [List.length_drop] at h2
      omega
end
theorem name_sig {r : List Nat} (h : ∀ c ∈ r, c ∈ sig) : ∀ c ∈ refName r, c ∈ sig := fun c hc => h c (List.mem_of_mem_take hc)
theorem amp5_sig : ∀ c ∈ ([38, 97, 109, 112, 59] : List Nat), c ∈ sig := by decide
theorem cbE_sig (u : List Nat) (h : ∀ c ∈ u, c ∈ sig) : ∀ c ∈ cbE u, c ∈ sig := by
  intro c hc
  unfold cbE at hc
  rcases List.mem_append.mp hc with hc | hc
  · rcases List.mem_append.mp hc with hc | hc
    · exact amp5_sig c hc
    · exact name_sig (fun d hd => h d (List.mem_of_mem_drop hd)) c hc
  · rw [List.mem_singleton.mp hc]; decide
theorem cbR_sig (u : List Nat) (h : ∀ c ∈ u, c ∈ sig) : ∀ c ∈ cbR u, c ∈ sig := by
  intro c hc
  unfold cbR at hc
  split at hc
  · rcases List.mem_append.mp hc with hc | hc
    · rcases List.mem_append.mp hc with hc | hc
      · rw [List.mem_singleton.mp hc]; decide
      · exact name_sig (fun d hd => h d (List.mem_of_mem_drop hd)) c hc
    · rw [List.mem_singleton.mp hc]; decide
  · exact cbE_sig u h c hc
theorem cbWr_sig (m : Nat) (u : List Nat) (_ : ∀ c ∈ u, c ∈ sig) : ∀ c ∈ cbWr m u, c ∈ sig := by
  unfold cbWr
  split
  · split
    · exact amp5_sig
    · decide
  · split
    · split <;> decide
    · unfold signAt
      (repeat' split) <;> decide
theorem cbWr_len (m : Nat) (u : List Nat) : (cbWr m u).length ≤ 8 := by
  unfold cbWr
  split
  · split <;> decide
  · split
    · split <;> decide
    · have := (signAt_len u).1
      simp only [List.length_append, List.length_cons, List.length_nil]
      omega
theorem mlWr_pos {m : Nat} {u : List Nat} (h : mlWr m u ≠ 0) : 1 ≤ min (mlWr m u) u.length := by
  cases u with
  | nil =>
    exfalso; apply h
    unfold mlWr
    rw [if_neg (by decide)]
    split
    · rfl
    · rfl
  | cons c r => simp only [List.length_cons]; omega
theorem any_len {cb : List Nat → List Nat} (hcb : ∀ c r, (cb (c :: r)).length ≤ 6 + (refName r).length) (u : List Nat) (h : mlAny u ≠ 0) : (cb u).length ≤ 8 * min (mlAny u) u.length := by
  cases u with
  | nil =>
    exfalso; apply h
    unfold mlAny
    rw [if_neg (fun q => absurd q.1 (by decide))]
  | cons c r =>
    rw [any_at] at h ⊢
    split at h
    · rename_i q
      rw [if_pos q]
      have h1 := hcb c r
      have h2 := refLen_room q.2
      have h3 : (refName r).length = refLen r := by unfold refName; rw [List.length_take]; omega
      simp only [List.length_cons]
      omega
    · exact absurd rfl h
theorem cbE_len2 (c : Nat) (r : List Nat) : (cbE (c :: r)).length ≤ 6 + (refName r).length := by
  show ([38, 97, 109, 112, 59] ++ refName r ++ [59]).length ≤ _
  simp only [List.length_append, List.length_cons, List.length_nil]; omega
theorem cbR_len2 (c : Nat) (r : List Nat) : (cbR (c :: r)).length ≤ 6 + (refName r).length := by
  show (if isKnown ⟨(refName r).toArray⟩ = true then [38] ++ refName r ++ [59] else [38, 97, 109, 112, 59] ++ refName r ++ [59]).length ≤ _
  split <;> (simp only [List.length_append, List.length_cons, List.length_nil]; omega)
section
variable {x : Str}
theorem wr_sig (m : Nat) (h : SigS x) : SigS (subS (mlWr m) (cbWr m) x) := subW_sig (cbWr_sig m) x.cps.toList.length _ (Nat.le_refl _) h
theorem wr_len (m : Nat) : (subS (mlWr m) (cbWr m) x).length ≤ 8 * x.length := by
  rw [len_list, len_list]
  exact subW_len (fun u h => by have := mlWr_pos h; have := cbWr_len m u; omega) x.cps.toList.length _ (Nat.le_refl _)
theorem inE_sig (h : SigS x) : SigS (subS mlAny cbE x) := subW_sig cbE_sig x.cps.toList.length _ (Nat.le_refl _) h
theorem inR_sig (h : SigS x) : SigS (subS mlAny cbR x) := subW_sig cbR_sig x.cps.toList.length _ (Nat.le_refl _) h
theorem inE_len : (subS mlAny cbE x).length ≤ 8 * x.length := by
  rw [len_list, len_list]; exact subW_len (any_len cbE_len2) x.cps.toList.length _ (Nat.le_refl _)
theorem inR_len : (subS mlAny cbR x).length ≤ 8 * x.length := by
  rw [len_list, len_list]; exact subW_len (any_len cbR_len2) x.cps.toList.length _ (Nat.le_refl _)
theorem e0 : subS mlAmp cbX x = subS (mlWr 0) (cbWr 0) x := by unfold subS; rw [w0_eq]
theorem e1 : subS mlBare cbX x = subS (mlWr 1) (cbWr 1) x := by unfold subS; rw [w1_eq]
theorem e2 : subS mlChA cbH x = subS (mlWr 2) (cbWr 2) x := by unfold subS; rw [w2_eq]
theorem e3 : subS mlChr cbC (subS mlAny cbE x) = subS (mlWr 3) (cbWr 3) x := by
  show (⟨(subW mlChr cbC (subW mlAny cbE x.cps.toList)).toArray⟩ : Str) = _
  rw [w3_eq]; rfl
theorem e4 : subS mlChr cbC (subS mlAny cbR x) = subS (mlWr 4) (cbWr 4) x := by
  show (⟨(subW mlChr cbC (subW mlAny cbR x.cps.toList)).toArray⟩ : Str) = _
  rw [w4_eq]; rfl
def readS (x : Str) : Str := subS mlRd cbRd x
theorem str_back (x : Str) : (⟨x.cps.toList.toArray⟩ : Str) = x := by cases x; simp
theorem rd0 : readS (subS (mlWr 0) (cbWr 0) x) = x := by
  show (⟨(subW mlRd cbRd (subW (mlWr 0) (cbWr 0) x.cps.toList)).toArray⟩ : Str) = _
  rw [r0_eq, str_back]
theorem rd2 : readS (subS (mlWr 2) (cbWr 2) x) = x := by
  show (⟨(subW mlRd cbRd (subW (mlWr 2) (cbWr 2) x.cps.toList)).toArray⟩ : Str) = _
  rw [r2_eq, str_back]
theorem rd3 : readS (subS (mlWr 3) (cbWr 3) x) = x := by
  show (⟨(subW mlRd cbRd (subW (mlWr 3) (cbWr 3) x.cps.toList)).toArray⟩ : Str) = _
  rw [r3_eq, str_back]
theorem rd1 : readS (subS (mlWr 1) (cbWr 1) x) = readS x := by
  show (⟨(subW mlRd cbRd (subW (mlWr 1) (cbWr 1) x.cps.toList)).toArray⟩ : Str) = _
  rw [r1_eq]; rfl
theorem rd4 : readS (subS (mlWr 4) (cbWr 4) x) = readS x := by
  show (⟨(subW mlRd cbRd (subW (mlWr 4) (cbWr 4) x.cps.toList)).toArray⟩ : Str) = _
  rw [r4_eq]; rfl
end
end Mine
end
section
open PySem PySem.W PySem.Calls PyProof.Rows PyProof.V PySem.Spec
set_option maxRecDepth 100000
namespace Mine
/-- what is written of x the m-th way; opaque to the walk -/
def wS (m : Nat) (x : Str) : Str := subS (mlWr m) (cbWr m) x
section
variable {w : World} {x : Str} {t0 t1 : Tok}
theorem wS_len (m : Nat) (x : Str) : (wS m x).length ≤ 8 * x.length := wr_len m
theorem wS_sig (m : Nat) (h : SigS x) : SigS (wS m x) := wr_sig m h
theorem wx0 : subS mlAmp cbX x = wS 0 x := e0
theorem wx1 : subS mlBare cbX x = wS 1 x := e1
theorem c_xml (hS : SigS x) (hl : x.length ≤ 90) : Ok w 124 [.ref 171, .str x t0] 2 20 (fun t => .str (wS 0 x) t) := by
  have h := xml_ok w x t0 hS (by omega)
  rw [wx0] at h; exact h
theorem c_bare (hS : SigS x) (hl : x.length ≤ 90) : Ok w 135 [.ref 171, .str x t0] 2 20 (fun t => .str (wS 1 x) t) := by
  have h := bare_ok w x t0 hS (by omega)
  rw [wx1] at h; exact h
theorem c_html (hS : SigS x) (hl : x.length ≤ 90) : Ok w 145 [.ref 171, .str x t0] 2 20 (fun t => .str (wS 2 x) t) := by
  have h := html_ok w x t0 hS (by omega)
  rw [e2] at h; exact h
theorem c_html5 (hS : SigS x) (hl : x.length ≤ 90) : Ok w 155 [.ref 171, .str x t0] 2 20 (fun t => .str (wS 3 x) t) := by
  have h := html5_ok w x t0 hS (by omega) (inE_sig hS) (by have := inE_len (x := x); omega)
  rw [e3] at h; exact h
theorem c_raw (hS : SigS x) (hl : x.length ≤ 90) : Ok w 165 [.ref 171, .str x t0] 2 20 (fun t => .str (wS 4 x) t) := by
  have h := raw_ok w x t0 hS (by omega) (inR_sig hS) (by have := inR_len (x := x); omega)
  rw [e4] at h; exact h
theorem c_xmlq (hS : SigS x) (hl : x.length ≤ 90) : Ok w 124 [.ref 171, .str x t0, .bool true] 4 40 (fun t => .str (quotedS (wS 0 x)) t) := by
  have h := xmlq_ok w x t0 hS (by omega) (by rw [wx0]; have := wS_len 0 x; omega)
  rw [wx0] at h; exact h
theorem c_bareq (hS : SigS x) (hl : x.length ≤ 90) : Ok w 135 [.ref 171, .str x t0, .bool true] 4 40 (fun t => .str (quotedS (wS 1 x)) t) := by
  have h := bareq_ok w x t0 hS (by omega) (by rw [wx1]; have := wS_len 1 x; omega)
  rw [wx1] at h; exact h
theorem c_quo (hl : x.length ≤ 90) : Ok w 113 [.ref 171, .str x t0] 2 20 (fun t => .str (quotedS x) t) := quoted_ok w x t0 (by omega)
theorem c_wr {m : Nat} {way : Str} (hm : modeOf way = m) (hw : way.length ≤ 20) (hS : SigS x) (hl : x.length ≤ 90) : Ok w 232 [.str x t0, .str way t1] 4 40 (fun t => .str (wS m x) t) := by
  have h := written_ok w x way t0 t1 hS (by omega) hw
  rw [hm] at h; exact h
theorem c_w0 (hS : SigS x) (hl : x.length ≤ 90) : Ok w 232 [.str x t0, .str (Str.ofString "xml") t1] 4 40 (fun t => .str (wS 0 x) t) := c_wr (by decide +kernel) (by decide +kernel) hS hl
theorem c_w1 (hS : SigS x) (hl : x.length ≤ 90) : Ok w 232 [.str x t0, .str (Str.ofString "containing") t1] 4 40 (fun t => .str (wS 1 x) t) := c_wr (by decide +kernel) (by decide +kernel) hS hl
theorem c_w2 (hS : SigS x) (hl : x.length ≤ 90) : Ok w 232 [.str x t0, .str (Str.ofString "html") t1] 4 40 (fun t => .str (wS 2 x) t) := c_wr (by decide +kernel) (by decide +kernel) hS hl
theorem c_w3 (hS : SigS x) (hl : x.length ≤ 90) : Ok w 232 [.str x t0, .str (Str.ofString "html5") t1] 4 40 (fun t => .str (wS 3 x) t) := c_wr (by decide +kernel) (by decide +kernel) hS hl
theorem c_w4 (hS : SigS x) (hl : x.length ≤ 90) : Ok w 232 [.str x t0, .str (Str.ofString "raw") t1] 4 40 (fun t => .str (wS 4 x) t) := c_wr (by decide +kernel) (by decide +kernel) hS hl
theorem c_rd {y : Str} (hS : SigS y) (hl : y.length ≤ 2000) : Ok w 218 [.str y t0] 4 40 (fun t => .str (readS y) t) := read_ok w y t0 hS hl
theorem c_r0 (hS : SigS x) (hl : x.length ≤ 90) : Ok w 218 [.str (wS 0 x) t0] 4 40 (fun t => .str x t) := by
  have h := c_rd (w := w) (t0 := t0) (wS_sig 0 hS) (by have := wS_len 0 x; omega)
  have e : readS (wS 0 x) = x := rd0
  rw [e] at h; exact h
theorem c_r2 (hS : SigS x) (hl : x.length ≤ 90) : Ok w 218 [.str (wS 2 x) t0] 4 40 (fun t => .str x t) := by
  have h := c_rd (w := w) (t0 := t0) (wS_sig 2 hS) (by have := wS_len 2 x; omega)
  have e : readS (wS 2 x) = x := rd2
  rw [e] at h; exact h
theorem c_r3 (hS : SigS x) (hl : x.length ≤ 90) : Ok w 218 [.str (wS 3 x) t0] 4 40 (fun t => .str x t) := by
  have h := c_rd (w := w) (t0 := t0) (wS_sig 3 hS) (by have := wS_len 3 x; omega)
  have e : readS (wS 3 x) = x := rd3
  rw [e] at h; exact h
theorem c_r1 (hS : SigS x) (hl : x.length ≤ 90) : Ok w 218 [.str (wS 1 x) t0] 4 40 (fun t => .str (readS x) t) := by
  have h := c_rd (w := w) (t0 := t0) (wS_sig 1 hS) (by have := wS_len 1 x; omega)
  have e : readS (wS 1 x) = readS x := rd1
  rw [e] at h; exact h
theorem c_r4 (hS : SigS x) (hl : x.length ≤ 90) : Ok w 218 [.str (wS 4 x) t0] 4 40 (fun t => .str (readS x) t) := by
  have h := c_rd (w := w) (t0 := t0) (wS_sig 4 hS) (by have := wS_len 4 x; omega)
  have e : readS (wS 4 x) = readS x := rd4
  rw [e] at h; exact h
theorem c_rx (hS : SigS x) (hl : x.length ≤ 90) : Ok w 218 [.str x t0] 4 40 (fun t => .str (readS x) t) := c_rd hS (by omega)
theorem c_q (hl : x.length ≤ 90) : Ok w 239 [.str x t0] 2 20 (fun t => .str (quotedS x) t) := lawq_ok w x t0 (by omega)
theorem c_qw {m : Nat} (hl : x.length ≤ 90) : Ok w 239 [.str (wS m x) t0] 2 20 (fun t => .str (quotedS (wS m x)) t) := lawq_ok w _ t0 (by have := wS_len m x; omega)
end
end Mine
end
section
open PySem PySem.W PySem.Calls PyProof.Rows PyProof.V PySem.Spec
set_option maxRecDepth 100000
namespace Mine
theorem offPcs : True := by
  w_top off
  trivial
def pcs : List Str := [Str.ofString "a", Str.ofString "x", Str.ofString "&", Str.ofString "<", Str.ofString ">", Str.ofString "\"", Str.ofString "'", Str.ofString ";", Str.ofString "4", Str.ofString "#", Str.ofString "é", Str.ofString "⊂", Str.ofString "⃒", Str.ofString " ", Str.ofString "amp;", Str.ofString "&lt;", Str.ofString "#65;", Str.ofString "#x4a;", Str.ofString "&sub;", Str.ofString "&", Str.ofString "&#"]
theorem pcs_sig : ∀ y ∈ pcs, y.length ≤ 5 ∧ ∀ c ∈ y.cps.toList, c ∈ sig := by decide +kernel
theorem filledF : True := by
  have hFill : (fun (_ : OpenLaw) (_ : Params → Frag) => True) PySem.Challenge.rw_fq0002_01 hd.heap_39 := by k_fill; trivial
  trivial
set_option maxHeartbeats 8000000 in
theorem pieces_ok (w : World) :
  ∀ (p : Program) (loose : List Str) (mean : ExcName → Option Value) (mg mb : Str → Option Value) (dp un : Nat) (gd : Option (List Code)) (cn : Str) (cs : Scope) (a : Addr) (ccd : Value) (cl : List (Str × Addr)) (outer : List Env) (A₀ : Around) (base h₀ : Heap) (L : Addr) (m : Str → Option Value) (news : List (Addr × Obj)) (s : Shared) (Q E : Value → Shared → Prop),
    Below A₀ base outer h₀ → Fr h₀ L s.heap m → (hd.heap_39 w.params).In h₀ → News h₀ L s.heap news → Top p loose mean mg mb h₀ → cs.kind = .function →
    dp + 2 < recursionLimit → un + 20 < cLine → (∀ (D : Addr) (vs : List Value) (n : Nat) (h' : Heap) (tk' : Nat), StrsAre vs pcs → Fr h₀ L h' m → News h₀ L h' ((D, listOf vs.toArray n) :: news) → Q (.ref D) { s with heap := h', toks := tk' }) →
      codeAny (model PySem.Challenge.pw_fq0002_01 w) (ktrTop dp un gd cn cs L a ccd cl outer) (.call (.ref 182) ⟨[], []⟩) (fun r s' => match r with | .ok (.ret v) => Q v s' | .ok _ => False | .error e => E e s') s := by
  have _ := filledF
  k_with_none
  intros
  rename_i hret
  k_dflt cell_enter
  k_steps
  refine hret _ _ _ _ _ ?a (by k_asm) (by assumption)
  unfold pcs
  repeat' (first | exact .nil | refine .cons _ _ ?_)
end Mine
end
section
open PySem PySem.W PySem.Calls PyProof.Rows PyProof.V PySem.Spec
set_option maxRecDepth 100000
namespace Mine
section
variable {w : World} {p : Program} {loose : List Str} {mean : ExcName → Option Value} {mg mb : Str → Option Value} {cn : Str} {cs : Scope} {ca : Addr} {ccd : Value} {h₀ : Heap} {L : Addr} {m : Str → Option Value} {news : List (Addr × Obj)} {s : Shared} {Q E : Value → Shared → Prop}
/-- the frame of the law, in the form of the contracts -/
theorem law_frame : callerA.deeper (envOf cn cs L ca ccd) = ktrTop (2 + claimMargin) 7 (some []) cn cs L ca ccd [] [] := rfl
theorem law_prog : PySem.Challenge.rw_fq0002_01.row.prog = PySem.Challenge.pw_fq0002_01 := rfl
theorem m_room {d : Nat} (h : d ≤ 4) : 2 + claimMargin + d < recursionLimit := by
  have e1 : claimMargin = 300 := rfl
  have e2 : recursionLimit = 1000 := rfl
  omega
theorem m_units {u : Nat} (h : u ≤ 40) : 7 + u < cLine := by
  have e : (47 : Nat) < cLine := by decide +kernel
  omega
theorem pieces_m (F : Fr h₀ L s.heap m) (X : (hd.heap_39 w.params).In h₀) (N : News h₀ L s.heap news) (T : Top p loose mean mg mb h₀) (hk : cs.kind = .function)
    (ret : ∀ (D : Addr) (vs : List Value) (n : Nat) (h' : Heap) (tk' : Nat), StrsAre vs pcs → Fr h₀ L h' m → News h₀ L h' ((D, listOf vs.toArray n) :: news) → Q (.ref D) { s with heap := h', toks := tk' }) :
    wpAny (model PySem.Challenge.rw_fq0002_01.row.prog w) (callerA.deeper (envOf cn cs L ca ccd)) (call (.ref 182) []) Q E s := by
  rw [law_frame, law_prog]
  exact wpAny_call (pieces_ok w p loose mean mg mb _ _ _ cn cs ca ccd [] [] callerA h₀ h₀ L m news s Q E (below_caller h₀) F X N T hk (m_room (by omega)) (m_units (by omega)) ret)
theorem at_m {l : Addr} {vs : List Value} {ns : List Int} {k : Int} {t1 : Tok} (hi : IntsAre vs ns) (hn : ¬ (((63 : Nat) : Int) < (ns.length : Int))) (h0 : 0 ≤ k) (h1 : k ≤ 100) (hl : h₀.IsList l vs.toArray) (F : Fr h₀ L s.heap m) (X : (hd.heap_39 w.params).In h₀) (N : News h₀ L s.heap news) (T : Top p loose mean mg mb h₀) (hk : cs.kind = .function)
    (ret : ∀ (v : Int) (t : Tok) (h' : Heap) (tk' : Nat), Fr h₀ L h' m → News h₀ L h' news → Q (.int v t) { s with heap := h', toks := tk' }) :
    wpAny (model PySem.Challenge.rw_fq0002_01.row.prog w) (callerA.deeper (envOf cn cs L ca ccd)) (call (.ref 197) [.ref l, .int k t1]) Q E s := by
  rw [law_frame, law_prog]
  exact wpAny_call (at_ok w l vs ns k t1 hi (by omega) h0 h1 p loose mean mg mb _ _ _ cn cs ca ccd [] [] callerA h₀ h₀ L m news s Q E (below_caller h₀) F X N T hk hl (m_room (by omega)) (m_units (by omega)) ret)
theorem ok_m {f : Addr} {vs : List Value} {d u : Nat} {R : Tok → Value} (H : Ok w f vs d u R) (hd' : d ≤ 4) (hu : u ≤ 40) (F : Fr h₀ L s.heap m) (X : (hd.heap_39 w.params).In h₀) (N : News h₀ L s.heap news) (T : Top p loose mean mg mb h₀) (hk : cs.kind = .function)
    (ret : ∀ (t : Tok) (h' : Heap) (tk' : Nat), Fr h₀ L h' m → News h₀ L h' news → Q (R t) { s with heap := h', toks := tk' }) :
    wpAny (model PySem.Challenge.rw_fq0002_01.row.prog w) (callerA.deeper (envOf cn cs L ca ccd)) (call (.ref f) vs) Q E s := by
  rw [law_frame, law_prog]
  exact ok_call H (below_caller h₀) F X N T hk (Nat.lt_of_le_of_lt (by omega) (m_room hd')) (Nat.lt_of_le_of_lt (by omega) (m_units hu)) ret
theorem okm_m {f q : Addr} {vs : List Value} {d u : Nat} {R : Tok → Value} (H : Ok w f (.ref 171 :: vs) d u R) (hd' : d ≤ 4) (hu : u ≤ 40) (F : Fr h₀ L s.heap m) (X : (hd.heap_39 w.params).In h₀) (N : News h₀ L s.heap news) (T : Top p loose mean mg mb h₀) (hk : cs.kind = .function)
    (hq : (q, methodObj (.ref f) (.ref 171)) ∈ news) (ret : ∀ (t : Tok) (h' : Heap) (tk' : Nat), Fr h₀ L h' m → News h₀ L h' news → Q (R t) { s with heap := h', toks := tk' }) :
    wpAny (model PySem.Challenge.rw_fq0002_01.row.prog w) (callerA.deeper (envOf cn cs L ca ccd)) (call (.ref q) vs) Q E s := by
  rw [law_frame, law_prog]
  exact ok_meth H (below_caller h₀) F X N T hk (Nat.lt_of_le_of_lt (by omega) (m_room hd')) (Nat.lt_of_le_of_lt (by omega) (m_units hu)) hq ret
end
section
variable {prog : Program} {w : World} {A : Around} {E : Value → Shared → Prop} {s : Shared} {h₀ : Heap} {L D : Addr} {news : List (Addr × Obj)} {vs : List Value} {n : Nat} {i : Int} {u : Tok} {value slice : PySem.Expr} {Q : Value → Shared → Prop}
theorem n_isList (N : News h₀ L s.heap news) (hm : (D, listOf vs.toArray n) ∈ news) : s.heap.IsList D vs.toArray :=
  ⟨listOf vs.toArray n, (N (D, listOf vs.toArray n) hm).1, rfl, n, rfl⟩
theorem len_pcs (N : News h₀ L s.heap news) (hm : (D, listOf vs.toArray n) ∈ news) (hs : StrsAre vs pcs) (h : Q (.int 21 (s.toks + 1)) { s with toks := s.toks + 1 + 1 }) : wpAny (model prog w) A (call (.builtin "len") [.ref D]) Q E s :=
  kst_len (k := 21) N hm (hs.length.trans rfl) (by decide) h
theorem item_pcs (N : News h₀ L s.heap news) (hm : (D, listOf vs.toArray n) ∈ news) (hs : StrsAre vs pcs) (h0 : 0 ≤ i) (h1 : i < 21) (h : ∀ t', i.toNat < pcs.length → Q (.str (pcs.getD i.toNat Str.empty) t') s)
    (hq : subscripted slice false (.ref D) (.int i u) = operate [.ref D, .int i u] (getItem (.ref D) (.int i u)) := by with_unfolding_all rfl) :
    wpAny (model prog w) A (subscriptTail value slice (.ref D) (.int i u)) Q E s := by
  have hlt : i.toNat < pcs.length := by
    show i.toNat < 21
    omega
  have there : pcs[i.toNat]? = some (pcs.getD i.toNat Str.empty) := by
    rw [List.getD_eq_getElem?_getD]
    simp [hlt]
  cases hs.at there with
  | intro t' ht => exact item_litK (n_isList N hm) h0 (by omega) ht (h t' hlt) hq
end
theorem f18 (v : Int) : 0 ≤ v.fmod 18 ∧ v.fmod 18 < 18 := ⟨Int.fmod_nonneg_of_pos v (by decide), Int.fmod_lt_of_pos v (by decide)⟩
theorem len90 {t : Str} {v : Int} (h : t.length ≤ 5 * (rangeKs 0 (v.fmod 18 + 1 - 0).toNat).length) (h2 : v.fmod 18 < 18) : t.length ≤ 90 := by
  rw [rangeKs_length] at h
  omega
theorem main_nil : (Str.ofString "").length ≤ 5 * ([] : List Int).length ∧ SigS (Str.ofString "") := ⟨by decide, fun c hc => by cases hc⟩
theorem main_step {t : Str} {pre : List Int} {i : Nat} {z : Int} (h1 : t.length ≤ 5 * pre.length) (h2 : SigS t) (h : i < pcs.length) : (t ++ pcs.getD i Str.empty).length ≤ 5 * (pre ++ [z]).length ∧ SigS (t ++ pcs.getD i Str.empty) := by
  have hm : pcs.getD i Str.empty ∈ pcs := by
    rw [List.getD_eq_getElem?_getD, List.getElem?_eq_getElem h]
    exact List.getElem_mem h
  have hp := pcs_sig _ hm
  refine ⟨?_, ?_⟩
  · rw [Str.length_append, List.length_append]
    have := hp.1
    simp only [List.length_cons, List.length_nil]
    omega
  · intro c hc
    have e : (t ++ pcs.getD i Str.empty).cps.toList = t.cps.toList ++ (pcs.getD i Str.empty).cps.toList := by
      show (t.cps ++ (pcs.getD i Str.empty).cps).toList = _
      simp
    rw [e, List.mem_append] at hc
    exact hc.elim (h2 c) (hp.2 c)
theorem f21 (v : Int) : 0 ≤ v.fmod 21 ∧ v.fmod 21 < 21 := ⟨Int.fmod_nonneg_of_pos v (by decide), Int.fmod_lt_of_pos v (by decide)⟩
theorem add_fit {t : Str} {pre : List Int} {v : Int} {i : Nat} (h1 : t.length ≤ 5 * pre.length) (h2 : pre.length < (v.fmod 18 + 1 - 0).toNat) (h3 : v.fmod 18 < 18) (h : i < pcs.length) : t.length + (pcs.getD i Str.empty).length ≤ 16777216 := by
  have hm : pcs.getD i Str.empty ∈ pcs := by
    rw [List.getD_eq_getElem?_getD, List.getElem?_eq_getElem h]
    exact List.getElem_mem h
  have hp := (pcs_sig _ hm).1
  omega
end Mine
end
section
open PySem PySem.W PySem.Calls PyProof.Rows PyProof.V PySem.Spec
set_option maxRecDepth 100000
open Mine
theorem Mine.offMain : True := by
  w_top off
  trivial
local macro_rules | `(tactic| walk_at "call builtin:len") => `(tactic| (k_here; k_dflt (refine' len_pcs ?zN ?zm ?zs ?_; (case zN => k_asm); (case zm => k_mem); (case zs => with_reducible assumption); k_whole)))
local macro_rules | `(tactic| walk_at "subscriptTail") => `(tactic| (k_here; k_dflt (refine' item_pcs ?zN ?zm ?zs ?z0 ?z1 ?_; (case zN => k_asm); (case zm => k_mem); (case zs => with_reducible assumption); (case z0 => with_reducible assumption); (case z1 => with_reducible assumption); intro t' hlt'; (try dsimp only))))
local macro_rules | `(tactic| walk_at "binaryOp Add str str") => `(tactic| (k_here; (with_reducible show wpAny _ _ (binaryOp Operator.Add (Value.str _ _) (Value.str _ _)) _ _ _); (refine KOpn.add (add_fit (by with_reducible assumption) (by with_reducible assumption) (by with_reducible assumption) (by with_reducible assumption)) ?_; intro _ _ _; (try dsimp only))))
local macro_rules | `(tactic| walk_at "call ref") => `(tactic| (k_here; k_dflt (first
  | (with_reducible show wpAny _ _ (call (Value.ref 197) _) _ _ _); (refine' at_m ?zi ?zn ?z0 ?z1 ?zl ?zF ?zX ?zN ?zT ?zk ?_; (case zi => with_reducible assumption); (case zl => with_reducible assumption); (case zn => with_reducible assumption); (case z0 => omega); (case z1 => omega); (case zF => k_asm); (case zX => k_asm); (case zN => k_asm); (case zT => k_asm); (case zk => first | rfl | assumption); intro v' t' h' tk' F' N'; have hb1 := (f18 v').1; have hb2 := (f18 v').2; have hb3 := (f21 v').1; have hb4 := (f21 v').2; (try dsimp only); (try k_sweep))
  | (with_reducible show wpAny _ _ (call (Value.ref 182) _) _ _ _); (refine' pieces_m ?zF ?zX ?zN ?zT ?zk ?_; (case zF => k_asm); (case zX => k_asm); (case zN => k_asm); (case zT => k_asm); (case zk => first | rfl | assumption); intro D' vs' n' h' tk' hS' F' N'; (try dsimp only); (try k_sweep))
  | ((with_reducible show wpAny _ _ (call (Value.ref 232) _) _ _ _); first
      | (refine' ok_m (c_w0 ?zS ?zl) ?zd ?zu ?zF ?zX ?zN ?zT ?zk ?_; (case zd => decide); (case zu => decide); (case zF => k_asm); (case zX => k_asm); (case zN => k_asm); (case zT => k_asm); (case zk => first | rfl | assumption); (case zS => with_reducible assumption); (case zl => first | with_reducible assumption | exact len90 (by with_reducible assumption) (by with_reducible assumption)); intro t' h' tk' F' N'; (try dsimp only); (try k_sweep))
      | (refine' ok_m (c_w1 ?zS ?zl) ?zd ?zu ?zF ?zX ?zN ?zT ?zk ?_; (case zd => decide); (case zu => decide); (case zF => k_asm); (case zX => k_asm); (case zN => k_asm); (case zT => k_asm); (case zk => first | rfl | assumption); (case zS => with_reducible assumption); (case zl => first | with_reducible assumption | exact len90 (by with_reducible assumption) (by with_reducible assumption)); intro t' h' tk' F' N'; (try dsimp only); (try k_sweep))
      | (refine' ok_m (c_w2 ?zS ?zl) ?zd ?zu ?zF ?zX ?zN ?zT ?zk ?_; (case zd => decide); (case zu => decide); (case zF => k_asm); (case zX => k_asm); (case zN => k_asm); (case zT => k_asm); (case zk => first | rfl | assumption); (case zS => with_reducible assumption); (case zl => first | with_reducible assumption | exact len90 (by with_reducible assumption) (by with_reducible assumption)); intro t' h' tk' F' N'; (try dsimp only); (try k_sweep))
      | (refine' ok_m (c_w3 ?zS ?zl) ?zd ?zu ?zF ?zX ?zN ?zT ?zk ?_; (case zd => decide); (case zu => decide); (case zF => k_asm); (case zX => k_asm); (case zN => k_asm); (case zT => k_asm); (case zk => first | rfl | assumption); (case zS => with_reducible assumption); (case zl => first | with_reducible assumption | exact len90 (by with_reducible assumption) (by with_reducible assumption)); intro t' h' tk' F' N'; (try dsimp only); (try k_sweep))
      | (refine' ok_m (c_w4 ?zS ?zl) ?zd ?zu ?zF ?zX ?zN ?zT ?zk ?_; (case zd => decide); (case zu => decide); (case zF => k_asm); (case zX => k_asm); (case zN => k_asm); (case zT => k_asm); (case zk => first | rfl | assumption); (case zS => with_reducible assumption); (case zl => first | with_reducible assumption | exact len90 (by with_reducible assumption) (by with_reducible assumption)); intro t' h' tk' F' N'; (try dsimp only); (try k_sweep)))
  | ((with_reducible show wpAny _ _ (call (Value.ref 218) _) _ _ _); first
      | (refine' ok_m (c_r0 ?zS ?zl) ?zd ?zu ?zF ?zX ?zN ?zT ?zk ?_; (case zd => decide); (case zu => decide); (case zF => k_asm); (case zX => k_asm); (case zN => k_asm); (case zT => k_asm); (case zk => first | rfl | assumption); (case zS => with_reducible assumption); (case zl => first | with_reducible assumption | exact len90 (by with_reducible assumption) (by with_reducible assumption)); intro t' h' tk' F' N'; (try dsimp only); (try k_sweep))
      | (refine' ok_m (c_r1 ?zS ?zl) ?zd ?zu ?zF ?zX ?zN ?zT ?zk ?_; (case zd => decide); (case zu => decide); (case zF => k_asm); (case zX => k_asm); (case zN => k_asm); (case zT => k_asm); (case zk => first | rfl | assumption); (case zS => with_reducible assumption); (case zl => first | with_reducible assumption | exact len90 (by with_reducible assumption) (by with_reducible assumption)); intro t' h' tk' F' N'; (try dsimp only); (try k_sweep))
      | (refine' ok_m (c_r2 ?zS ?zl) ?zd ?zu ?zF ?zX ?zN ?zT ?zk ?_; (case zd => decide); (case zu => decide); (case zF => k_asm); (case zX => k_asm); (case zN => k_asm); (case zT => k_asm); (case zk => first | rfl | assumption); (case zS => with_reducible assumption); (case zl => first | with_reducible assumption | exact len90 (by with_reducible assumption) (by with_reducible assumption)); intro t' h' tk' F' N'; (try dsimp only); (try k_sweep))
      | (refine' ok_m (c_r3 ?zS ?zl) ?zd ?zu ?zF ?zX ?zN ?zT ?zk ?_; (case zd => decide); (case zu => decide); (case zF => k_asm); (case zX => k_asm); (case zN => k_asm); (case zT => k_asm); (case zk => first | rfl | assumption); (case zS => with_reducible assumption); (case zl => first | with_reducible assumption | exact len90 (by with_reducible assumption) (by with_reducible assumption)); intro t' h' tk' F' N'; (try dsimp only); (try k_sweep))
      | (refine' ok_m (c_r4 ?zS ?zl) ?zd ?zu ?zF ?zX ?zN ?zT ?zk ?_; (case zd => decide); (case zu => decide); (case zF => k_asm); (case zX => k_asm); (case zN => k_asm); (case zT => k_asm); (case zk => first | rfl | assumption); (case zS => with_reducible assumption); (case zl => first | with_reducible assumption | exact len90 (by with_reducible assumption) (by with_reducible assumption)); intro t' h' tk' F' N'; (try dsimp only); (try k_sweep))
      | (refine' ok_m (c_rx ?zS ?zl) ?zd ?zu ?zF ?zX ?zN ?zT ?zk ?_; (case zd => decide); (case zu => decide); (case zF => k_asm); (case zX => k_asm); (case zN => k_asm); (case zT => k_asm); (case zk => first | rfl | assumption); (case zS => with_reducible assumption); (case zl => first | with_reducible assumption | exact len90 (by with_reducible assumption) (by with_reducible assumption)); intro t' h' tk' F' N'; (try dsimp only); (try k_sweep)))
  | ((with_reducible show wpAny _ _ (call (Value.ref 239) _) _ _ _); first
      | (refine' ok_m (c_qw ?zl) ?zd ?zu ?zF ?zX ?zN ?zT ?zk ?_; (case zd => decide); (case zu => decide); (case zF => k_asm); (case zX => k_asm); (case zN => k_asm); (case zT => k_asm); (case zk => first | rfl | assumption); (case zl => first | with_reducible assumption | exact len90 (by with_reducible assumption) (by with_reducible assumption)); intro t' h' tk' F' N'; (try dsimp only); (try k_sweep))
      | (refine' ok_m (c_q ?zl) ?zd ?zu ?zF ?zX ?zN ?zT ?zk ?_; (case zd => decide); (case zu => decide); (case zF => k_asm); (case zX => k_asm); (case zN => k_asm); (case zT => k_asm); (case zk => first | rfl | assumption); (case zl => first | with_reducible assumption | exact len90 (by with_reducible assumption) (by with_reducible assumption)); intro t' h' tk' F' N'; (try dsimp only); (try k_sweep)))
  | (refine' okm_m (c_xml ?zS ?zl) ?zd ?zu ?zF ?zX ?zN ?zT ?zk ?zq ?_; (case zF => k_asm); (case zX => k_asm); (case zN => k_asm); (case zT => k_asm); (case zk => first | rfl | assumption); (case zq => k_mem); (case zd => decide); (case zu => decide); (case zS => with_reducible assumption); (case zl => first | with_reducible assumption | exact len90 (by with_reducible assumption) (by with_reducible assumption)); intro t' h' tk' F' N'; (try dsimp only); (try k_sweep))
  | (refine' okm_m (c_bare ?zS ?zl) ?zd ?zu ?zF ?zX ?zN ?zT ?zk ?zq ?_; (case zF => k_asm); (case zX => k_asm); (case zN => k_asm); (case zT => k_asm); (case zk => first | rfl | assumption); (case zq => k_mem); (case zd => decide); (case zu => decide); (case zS => with_reducible assumption); (case zl => first | with_reducible assumption | exact len90 (by with_reducible assumption) (by with_reducible assumption)); intro t' h' tk' F' N'; (try dsimp only); (try k_sweep))
  | (refine' okm_m (c_html ?zS ?zl) ?zd ?zu ?zF ?zX ?zN ?zT ?zk ?zq ?_; (case zF => k_asm); (case zX => k_asm); (case zN => k_asm); (case zT => k_asm); (case zk => first | rfl | assumption); (case zq => k_mem); (case zd => decide); (case zu => decide); (case zS => with_reducible assumption); (case zl => first | with_reducible assumption | exact len90 (by with_reducible assumption) (by with_reducible assumption)); intro t' h' tk' F' N'; (try dsimp only); (try k_sweep))
  | (refine' okm_m (c_html5 ?zS ?zl) ?zd ?zu ?zF ?zX ?zN ?zT ?zk ?zq ?_; (case zF => k_asm); (case zX => k_asm); (case zN => k_asm); (case zT => k_asm); (case zk => first | rfl | assumption); (case zq => k_mem); (case zd => decide); (case zu => decide); (case zS => with_reducible assumption); (case zl => first | with_reducible assumption | exact len90 (by with_reducible assumption) (by with_reducible assumption)); intro t' h' tk' F' N'; (try dsimp only); (try k_sweep))
  | (refine' okm_m (c_raw ?zS ?zl) ?zd ?zu ?zF ?zX ?zN ?zT ?zk ?zq ?_; (case zF => k_asm); (case zX => k_asm); (case zN => k_asm); (case zT => k_asm); (case zk => first | rfl | assumption); (case zq => k_mem); (case zd => decide); (case zu => decide); (case zS => with_reducible assumption); (case zl => first | with_reducible assumption | exact len90 (by with_reducible assumption) (by with_reducible assumption)); intro t' h' tk' F' N'; (try dsimp only); (try k_sweep))
  | (refine' okm_m (c_xmlq ?zS ?zl) ?zd ?zu ?zF ?zX ?zN ?zT ?zk ?zq ?_; (case zF => k_asm); (case zX => k_asm); (case zN => k_asm); (case zT => k_asm); (case zk => first | rfl | assumption); (case zq => k_mem); (case zd => decide); (case zu => decide); (case zS => with_reducible assumption); (case zl => first | with_reducible assumption | exact len90 (by with_reducible assumption) (by with_reducible assumption)); intro t' h' tk' F' N'; (try dsimp only); (try k_sweep))
  | (refine' okm_m (c_bareq ?zS ?zl) ?zd ?zu ?zF ?zX ?zN ?zT ?zk ?zq ?_; (case zF => k_asm); (case zX => k_asm); (case zN => k_asm); (case zT => k_asm); (case zk => first | rfl | assumption); (case zq => k_mem); (case zd => decide); (case zu => decide); (case zS => with_reducible assumption); (case zl => first | with_reducible assumption | exact len90 (by with_reducible assumption) (by with_reducible assumption)); intro t' h' tk' F' N'; (try dsimp only); (try k_sweep))
  | (refine' okm_m (c_quo ?zl) ?zd ?zu ?zF ?zX ?zN ?zT ?zk ?zq ?_; (case zF => k_asm); (case zX => k_asm); (case zN => k_asm); (case zT => k_asm); (case zk => first | rfl | assumption); (case zq => k_mem); (case zd => decide); (case zu => decide); (case zl => first | with_reducible assumption | exact len90 (by with_reducible assumption) (by with_reducible assumption)); intro t' h' tk' F' N'; (try dsimp only); (try k_sweep)))))

set_option maxHeartbeats 8000000 in
theorem PySem.Challenge.cw_fq0002_01_holds : PySem.Challenge.rw_fq0002_01.Holds :=
  Mine.hd (by
  k_with_none
  (k_with "state" => first | exact main_nil | exact main_step (by with_reducible assumption) (by with_reducible assumption) (by with_reducible assumption))
  (k_with "pyIter ref" => k_state (fun pre t => t.length ≤ 5 * pre.length ∧ SigS t) "text")
  k_go0
  all_goals (try k_fold)
  k_steps)
end
