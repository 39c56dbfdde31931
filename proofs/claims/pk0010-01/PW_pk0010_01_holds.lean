import PyProof.Rows.All
import Wide.All
import OpenK.AllK
import Wide.FinOn
import PySem.Challenge.RW_pk0010_01
open PySem PySem.W PyProof.Rows
set_option Elab.async false
set_option linter.unusedVariables false
set_option rowWalk.seconds 3000

section
open PySem PySem.W PyProof.Rows
namespace Mine
set_option maxRecDepth 100000 in
set_option maxHeartbeats 8000000 in
open_top hd for PySem.Challenge.rw_pk0010_01
end Mine
end

section
open PySem PySem.W PyProof.Rows PySem.Calls
set_option maxRecDepth 100000
namespace Mine
theorem fill0 : PySem.Challenge.rw_pk0010_01 = PySem.Challenge.rw_pk0010_01 ∧ hd.heap_39 = hd.heap_39 := by
  k_fill
  exact ⟨rfl, rfl⟩

/-- everything that stood stands as it was -/
def Keeps (h h' : Heap) : Prop := ∀ b o, h.get? b = some o → h'.get? b = some o
theorem Keeps.refl (h : Heap) : Keeps h h := fun _ _ e => e
theorem Keeps.trans {a b c : Heap} (x : Keeps a b) (y : Keeps b c) : Keeps a c := fun _ _ e => y _ _ (x _ _ e)

/-- the names of a frame at its start -/
def bnd : List (Str × Value) → Str → Option Value
  | [], _ => none
  | (x, v) :: r, y => if y = x then some v else bnd r y
theorem lookup_bnd : ∀ (l : List (Str × Value)) (y : Str), l.lookup y = bnd l y
  | [], _ => rfl
  | (x, v) :: r, y => by
    rw [List.lookup_cons]
    show _ = if y = x then some v else bnd r y
    by_cases e : y = x
    · subst e; simp
    · have : (y == x) = false := by simpa using e
      rw [this, if_neg e]; exact lookup_bnd r y

section
variable {prog p : Program} {loose : List Str} {w : World} {A : Around} {s : Shared} {mean : ExcName → Option Value} {mg mb : Str → Option Value} {R : Result → Shared → Prop}
/-- a call of a def of the text, none raised -/
theorem call_own {f : Addr} {name : Str} {params : Arguments} {body : List Stmt} {scope : Scope} {pm cd doc : Value} {args : List Value} {od : Option Addr} {osl : Array (Option Value)} {oc : Value} (binds : List (Str × Value))
    (KX : (hd.heap_39 w.params).In s.heap) (T : Top p loose mean mg mb s.heap) (hroom : A.depth < 900)
    (hl : (hd.heap_39 w.params).lookup f = some ⟨oc, od, .func (docDef name params body scope pm cd doc), osl⟩)
    (hcd : codeIn (hd.heap_39 w.params) cd name = true)
    (hbind : bindArgs (docDef name params body scope pm cd doc) ⟨args, []⟩ = pure binds)
    (hloc : (binds.all fun x => decide (scope.names.lookup x.1 = some .local)) = true)
    (h : ∀ L h₁, L = s.heap.objs.size → Fr s.heap L h₁ (bnd binds.reverse) → News s.heap L h₁ [] →
      wpAny (model prog w) (A.deeper (envOf name scope L f cd)) (execs body (envOf name scope L f cd))
        (fun fl s' => R (.ok (.ret (match fl with | .ret v => v | _ => .none))) s') (fun _ _ => False)
        { s with heap := h₁, toks := s.toks + binds.length })
    (hco : scope.isCoroutine = false := by rfl) (hgen : scope.isGenerator = false := by rfl) (hk : scope.kind = .function := by rfl)
    (hcell : ∀ x ∈ scope.names, x.2 ≠ .cell := by decide) :
    codeAny (model prog w) A (.call (.ref f) ⟨args, []⟩) R s :=
  call_plain_ret (by show _ < recursionLimit; simp only [recursionLimit]; omega) (KX _ _ hl) rfl T.nolimit (codeRec_of KX hcd) hbind (locs hloc)
    (fun h₁ F => h _ h₁ rfl (by rw [← show (fun x => binds.reverse.lookup x) = bnd binds.reverse from funext (lookup_bnd _)]; exact F) News.nil) hco hgen hk hcell

/-- the same where names of the def are kept in cells -/
theorem call_ownC {f : Addr} {name : Str} {params : Arguments} {body : List Stmt} {scope : Scope} {pm cd doc : Value} {args : List Value} {od : Option Addr} {osl : Array (Option Value)} {oc : Value} (binds : List (Str × Value))
    (KX : (hd.heap_39 w.params).In s.heap) (T : Top p loose mean mg mb s.heap) (hroom : A.depth < 900)
    (hl : (hd.heap_39 w.params).lookup f = some ⟨oc, od, .func (docDef name params body scope pm cd doc), osl⟩)
    (hcd : codeIn (hd.heap_39 w.params) cd name = true)
    (hbind : bindArgs (docDef name params body scope pm cd doc) ⟨args, []⟩ = pure binds)
    (hkind : (binds.all fun y => scope.names.lookup y.1 == some .local || scope.names.lookup y.1 == some .cell) = true)
    (hnd : ((cellsFrom 0 scope.names []).map (·.1)).Nodup)
    (h : ∀ L h₁ tk cells, L = s.heap.objs.size → Fr s.heap L h₁ (bindL (envOfC name scope L f cd).kindOf binds fun _ => none) → News s.heap L h₁ cells →
      CellsAre (bindC (envOfC name scope L f cd).kindOf binds fun _ => none) (cellsFrom (L + 1) scope.names []) cells →
      wpAny (model prog w) (A.deeper (envOfC name scope L f cd)) (execs body (envOfC name scope L f cd))
        (fun fl s' => R (.ok (.ret (match fl with | .ret v => v | _ => .none))) s') (fun _ _ => False) { s with heap := h₁, toks := tk })
    (hco : scope.isCoroutine = false := by rfl) (hgen : scope.isGenerator = false := by rfl) (hk : scope.kind = .function := by rfl) :
    codeAny (model prog w) A (.call (.ref f) ⟨args, []⟩) R s :=
  call_cellsN_ret (by show _ < recursionLimit; simp only [recursionLimit]; omega) (KX _ _ hl) rfl T.nolimit (codeRec_of KX hcd) hbind (kindsX hkind _) hnd
    (fun h₁ tk cells F N Y => h _ h₁ tk cells rfl F N Y) hco hgen hk
end
end Mine
end

section
open PySem PySem.W PyProof.Rows PySem.Calls
set_option maxRecDepth 100000
namespace Mine
open PySem.Sre PySem.Builtin.Re

theorem runFor_add (a b : Nat) (m : M) : M.runFor (a + b) m = M.runFor b (M.runFor a m) := by
  induction a generalizing m with
  | zero => rw [Nat.zero_add]; rfl
  | succ a ih =>
    rw [show a + 1 + b = (a + b) + 1 from by omega]
    show (if m.outcome.isSome then m else M.runFor (a + b) m.step) = M.runFor b (if m.outcome.isSome then m else M.runFor a m.step)
    by_cases h : m.outcome.isSome = true
    · rw [if_pos h, if_pos h]
      cases b with
      | zero => rfl
      | succ b => show m = (if m.outcome.isSome then m else _); rw [if_pos h]
    · rw [if_neg h, if_neg h]; exact ih _
theorem runFor_done {m : M} (h : m.outcome.isSome = true) : ∀ n, M.runFor n m = m
  | 0 => rfl
  | n + 1 => by show (if m.outcome.isSome then m else _) = m; rw [if_pos h]
theorem runFor_one {m m' : M} (n : Nat) (h : m.outcome = none) (e : m.step = m') : M.runFor (n + 1) m = M.runFor n m' := by
  show (if m.outcome.isSome then m else M.runFor n m.step) = _
  rw [if_neg (by rw [h]; exact Bool.false_ne_true), e]

section
variable {Mo : Model} {A : Around} {E : Value → Shared → Prop} {s : Shared}
theorem drive_any {m' : M} (hd : m'.outcome.isSome = true) {Q : M → Shared → Prop} (h : Q m' s) : ∀ (turns n : Nat) (m : M), M.runFor n m = m' → n ≤ 4 * turns → 0 < turns → wpAny Mo A (reDrive turns m) Q E s
  | 0, _, _, _, _, h0 => absurd h0 (Nat.lt_irrefl _)
  | turns + 1, n, m, hr, hn, _ => by
    show wpAny Mo A (if (m.runFor reTurnSteps).outcome.isSome then pure (m.runFor reTurnSteps) else do rule "sre.turn"; reDrive turns (m.runFor reTurnSteps)) Q E s
    by_cases hc : (m.runFor reTurnSteps).outcome.isSome = true
    · rw [if_pos hc]
      have : m.runFor reTurnSteps = m' := by
        by_cases h4 : n ≤ 4
        · have := runFor_add n (4 - n) m
          rw [show n + (4 - n) = 4 from by omega, hr, runFor_done hd] at this
          exact this
        · have := runFor_add 4 (n - 4) m
          rw [show 4 + (n - 4) = n from by omega, hr] at this
          rw [this]; exact (runFor_done hc _).symm
      rw [this]
      exact wpAny_pure h
    · rw [if_neg hc]
      have h4 : ¬ n ≤ 4 := fun h4 => by
        have := runFor_add n (4 - n) m
        rw [show n + (4 - n) = 4 from by omega, hr, runFor_done hd] at this
        have h' : m.runFor reTurnSteps = m' := this
        rw [h'] at hc; exact hc hd
      refine wpAny_bind (wpAny_rule ?_)
      refine drive_any hd h turns (n - 4) _ ?_ (by omega) (by omega)
      have := runFor_add 4 (n - 4) m
      rw [show 4 + (n - 4) = n from by omega, hr] at this
      exact this.symm

theorem rules_any {c : Nat → Bool} {t : Nat → String} {Q : PUnit → Shared → Prop} (h : Q ⟨⟩ s) : ∀ l : List Nat,
    wpAny Mo A (forIn l PUnit.unit (fun i (_ : PUnit) => (if c i = true then (do rule (t i); pure (ForInStep.yield PUnit.unit)) else pure (ForInStep.yield PUnit.unit) : Sem (ForInStep PUnit)))) Q E s
  | [] => by rw [List.forIn_nil]; exact wpAny_pure h
  | i :: l => by
    rw [List.forIn_cons]
    refine wpAny_bind ?_
    by_cases hc : c i = true
    · rw [if_pos hc]
      exact wpAny_bind (wpAny_rule (wpAny_pure (rules_any h l)))
    · rw [if_neg hc]
      exact wpAny_pure (rules_any h l)

theorem toEnd_any {m m' : M} {n : Nat} {Q : Option M → Shared → Prop} (hr : M.runFor n m = m') (hn : n ≤ 2 ^ 64) 
    (ho : m'.outcome = some .matched ∧ Q (some m') s ∨ m'.outcome = some .failed ∧ Q none s) : wpAny Mo A (reRunToEnd m) Q E s := by
  have hd : m'.outcome.isSome = true := by rcases ho with ⟨h, _⟩ | ⟨h, _⟩ <;> rw [h] <;> rfl
  unfold reRunToEnd
  refine wpAny_bind (drive_any hd ?_ _ n m hr (by omega) (by decide))
  refine wpAny_bind ?_
  refine rules_any ?_ _
  rcases ho with ⟨h, q⟩ | ⟨h, q⟩ <;> rw [h] <;> exact wpAny_pure q
end
end Mine
end

section
open PySem PySem.W PyProof.Rows PySem.Calls
set_option maxRecDepth 100000
namespace Mine
open PySem.Sre PySem.Builtin.Re

/-- the code of (?m)^\. -/
def code1 : Array Nat := #[14, 4, 0, 1, 1, 6, 1, 16, 46, 1]

/-- a try at p -/
def mA (text : Array Nat) (lim p : Nat) (first : Bool) (sn : Sre.Seen) (pc pos : Nat) : M :=
  { code := code1, text, lim, start := p, lastStart := lim, pc, pos, handed := p, outermost := first, marks := #[],
    frames := [{ wait := .nextStart, pc := 5, pos := p, outermost := first }], weight := 1, seen := sn }
/-- said no, within the try at p -/
def mN (text : Array Nat) (lim p : Nat) (first : Bool) (sn : Sre.Seen) (pc pos : Nat) : M := { mA text lim p first sn pc pos with answer := some false }

def sn1 : Sre.Seen := ({} : Sre.Seen).add 14

theorem search1_start (text : Array Nat) (lim p : Nat) (h : p < lim) : forSearch code1 text 0 p lim false = mA text lim p true sn1 5 p := by
  unfold forSearch
  have h1 : (decide (p > lim) || decide (lim - p < (header code1).1)) = false := by
    rw [Bool.or_eq_false_iff]; exact ⟨decide_eq_false (by omega), decide_eq_false (by show ¬ lim - p < 1; omega)⟩
  simp only [h1]
  rfl
theorem search1_none (text : Array Nat) (lim p : Nat) (h : ¬ p < lim) : (forSearch code1 text 0 p lim false).outcome = none ∧ (forSearch code1 text 0 p lim false).step.outcome = some .failed := by
  unfold forSearch
  have h1 : (decide (p > lim) || decide (lim - p < (header code1).1)) = true := by
    rw [Bool.or_eq_true]; right; exact decide_eq_true (by show lim - p < 1; omega)
  simp only [h1]
  exact ⟨rfl, rfl⟩

def bol (text : Array Nat) (p : Nat) : Bool := p == 0 || text.getD (p - 1) 0 == 10

theorem a_at_yes {text lim p first sn} (h : bol text p = true) : (mA text lim p first sn 5 p).step = mA text lim p first ((sn.add 6).add 44) 7 p := by
  show (if (M.pos (mA text lim p first sn 5 p) == 0 || text.getD (p - 1) 0 == 10) = true then _ else _) = _
  rw [if_pos (show (M.pos (mA text lim p first sn 5 p) == 0 || text.getD (p - 1) 0 == 10) = true from h)]; rfl
theorem a_at_no {text lim p first sn} (h : bol text p = false) : (mA text lim p first sn 5 p).step = mN text lim p first ((sn.add 6).add 44) 5 p := by
  show (if (M.pos (mA text lim p first sn 5 p) == 0 || text.getD (p - 1) 0 == 10) = true then _ else _) = _
  rw [if_neg (by rw [show (M.pos (mA text lim p first sn 5 p) == 0 || text.getD (p - 1) 0 == 10) = false from h]; exact Bool.false_ne_true)]; rfl
theorem a_lit_no {text lim p first sn} (h : ¬ (p < lim ∧ text.getD p 0 = 46)) : (mA text lim p first sn 7 p).step = mN text lim p first (sn.add 16) 7 p := by
  show (if p ≥ lim then _ else _) = _
  by_cases hp : p ≥ lim
  · rw [if_pos hp]; rfl
  · rw [if_neg hp]
    show (match (Except.ok (text.getD p 0 == 46, sn.add 16) : Except String (Bool × Sre.Seen)) with | .error why => _ | .ok (false, seen) => _ | .ok (true, seen) => _) = _
    have : (text.getD p 0 == 46) = false := by
      rw [beq_eq_false_iff_ne]; intro e; exact h ⟨by omega, e⟩
    rw [this]; rfl
theorem a_lit_yes {text lim p first sn} (hp : p < lim) (h : text.getD p 0 = 46) : (mA text lim p first sn 7 p).step = mA text lim p first (sn.add 16) 9 (p + 1) := by
  show (if p ≥ lim then _ else _) = _
  rw [if_neg (by omega)]
  show (match (Except.ok (text.getD p 0 == 46, sn.add 16) : Except String (Bool × Sre.Seen)) with | .error why => _ | .ok (false, seen) => _ | .ok (true, seen) => _) = _
  rw [h]; rfl
theorem n_next {text lim p first sn pc pos} (h : p < lim) : (mN text lim p first sn pc pos).step = mA text lim (p + 1) false sn 5 (p + 1) := by
  show (if p < lim then _ else _) = _
  rw [if_pos h]; rfl
theorem n_last {text lim p first sn pc pos} (h : ¬ p < lim) : ((mN text lim p first sn pc pos).step).outcome = none ∧ ((mN text lim p first sn pc pos).step).step.outcome = some .failed := by
  have : (mN text lim p first sn pc pos).step = M.say { mN text lim p first sn 5 p with answer := none, frames := [], weight := 0 } false := by
    show (if p < lim then _ else _) = _
    rw [if_neg h]; rfl
  rw [this]; exact ⟨rfl, rfl⟩
theorem a_succ {text lim p first sn q} : (mA text lim p first sn 9 q).outcome = none ∧ (mA text lim p first sn 9 q).step.outcome = none ∧ (mA text lim p first sn 9 q).step.step.outcome = none ∧ ((mA text lim p first sn 9 q).step.step.step).outcome = some .matched ∧ ((mA text lim p first sn 9 q).step.step.step).start = p ∧ ((mA text lim p first sn 9 q).step.step.step).handed = q := by
  have e1 : (mA text lim p first sn 9 q).step = { mA text lim p first (sn.add 1) 9 q with handed := q, answer := some true } := by
    show (if (first && (false && _ || false && _)) = true then _ else _) = _
    rw [if_neg (by cases first <;> exact Bool.false_ne_true)]; rfl
  rw [e1]; exact ⟨rfl, rfl, rfl, rfl, rfl, rfl⟩

/-- the first place from p on where the pattern is found, among the next k -/
def find1 (text : Array Nat) (lim : Nat) : Nat → Nat → Option Nat
  | 0, _ => none
  | k + 1, p => if p < lim then (if bol text p = true ∧ text.getD p 0 = 46 then some p else find1 text lim k (p + 1)) else none

theorem step1 {m : M} {n : Nat} {m' : M} (h : m.outcome = none) (e : M.runFor n m.step = m') : M.runFor (n + 1) m = m' := (runFor_one n h rfl).trans e

theorem search1_run {text : Array Nat} {lim : Nat} : ∀ (k p : Nat) (first : Bool) (sn : Sre.Seen), p + k = lim → 
    ∃ n m', n ≤ 3 * k + 10 ∧ M.runFor n (mA text lim p first sn 5 p) = m' ∧
      (match find1 text lim k p with
        | some q => m'.outcome = some .matched ∧ m'.start = q ∧ m'.handed = q + 1
        | none => m'.outcome = some .failed)
  | 0, p, first, sn, hk => by
    have hp : ¬ p < lim := by omega
    cases hb : bol text p with
    | false =>
      obtain ⟨o1, o2⟩ := n_last (text := text) (first := first) (sn := (sn.add 6).add 44) (pc := 5) (pos := p) hp
      refine ⟨3, _, by omega, ?_, o2⟩
      refine step1 rfl ?_; rw [a_at_no hb]
      refine step1 rfl ?_
      refine step1 o1 rfl
    | true =>
      obtain ⟨o1, o2⟩ := n_last (text := text) (first := first) (sn := ((sn.add 6).add 44).add 16) (pc := 7) (pos := p) hp
      refine ⟨4, _, by omega, ?_, o2⟩
      refine step1 rfl ?_; rw [a_at_yes hb]
      refine step1 rfl ?_; rw [a_lit_no (fun h => hp h.1)]
      refine step1 rfl ?_
      refine step1 o1 rfl
  | k + 1, p, first, sn, hk => by
    have hp : p < lim := by omega
    cases hb : bol text p with
    | false =>
      obtain ⟨n, m', hn, hr, ho⟩ := search1_run (text := text) (lim := lim) k (p + 1) false ((sn.add 6).add 44) (by omega)
      refine ⟨n + 2, m', by omega, ?_, ?_⟩
      · refine step1 rfl ?_; rw [a_at_no hb]
        refine step1 rfl ?_; rw [n_next hp]; exact hr
      · rw [show find1 text lim (k + 1) p = find1 text lim k (p + 1) from by
          show (if p < lim then (if bol text p = true ∧ text.getD p 0 = 46 then some p else find1 text lim k (p + 1)) else none) = _
          rw [if_pos hp, if_neg (by rw [hb]; exact fun h => Bool.false_ne_true h.1)]]
        exact ho
    | true =>
      by_cases hc : text.getD p 0 = 46
      · obtain ⟨o0, o1, o2, o3, o4, o5⟩ := a_succ (text := text) (lim := lim) (p := p) (first := first) (sn := ((sn.add 6).add 44).add 16) (q := p + 1)
        refine ⟨5, (mA text lim p first (((sn.add 6).add 44).add 16) 9 (p + 1)).step.step.step, by omega, ?_, ?_⟩
        rotate_left
        · rw [show find1 text lim (k + 1) p = some p from by
            show (if p < lim then (if bol text p = true ∧ text.getD p 0 = 46 then some p else find1 text lim k (p + 1)) else none) = _
            rw [if_pos hp, if_pos ⟨hb, hc⟩]]
          exact ⟨o3, o4, o5⟩
        · refine step1 rfl ?_; rw [a_at_yes hb]
          refine step1 rfl ?_; rw [a_lit_yes hp hc]
          refine step1 o0 ?_
          refine step1 o1 ?_
          refine step1 o2 ?_
          rfl
      · obtain ⟨n, m', hn, hr, ho⟩ := search1_run (text := text) (lim := lim) k (p + 1) false (((sn.add 6).add 44).add 16) (by omega)
        refine ⟨n + 3, m', by omega, ?_, ?_⟩
        · refine step1 rfl ?_; rw [a_at_yes hb]
          refine step1 rfl ?_; rw [a_lit_no (fun h => hc h.2)]
          refine step1 rfl ?_; rw [n_next hp]; exact hr
        · rw [show find1 text lim (k + 1) p = find1 text lim k (p + 1) from by
            show (if p < lim then (if bol text p = true ∧ text.getD p 0 = 46 then some p else find1 text lim k (p + 1)) else none) = _
            rw [if_pos hp, if_neg (fun h => hc h.2)]]
          exact ho

section
variable {Mo : Model} {A : Around} {E : Value → Shared → Prop} {s : Shared}
theorem next1 {text : Array Nat} {p : Nat} {Q : Option M → Shared → Prop} (hs : text.size ≤ 2 ^ 24)
    (hq : ∀ q, find1 text text.size (text.size - p) p = some q → ∀ m : M, m.start = q → m.handed = q + 1 → Q (some m) s)
    (hn : find1 text text.size (text.size - p) p = none → Q none s) : wpAny Mo A (reRunToEnd (forSearch code1 text 0 p text.size false)) Q E s := by
  by_cases hp : p < text.size
  · rw [search1_start _ _ _ hp]
    obtain ⟨n, m', hn', hr, ho⟩ := search1_run (text := text) (lim := text.size) (text.size - p) p true sn1 (by omega)
    refine toEnd_any hr (by omega) ?_
    cases hf : find1 text text.size (text.size - p) p with
    | some q => rw [hf] at ho; exact .inl ⟨ho.1, hq q hf m' ho.2.1 ho.2.2⟩
    | none => rw [hf] at ho; exact .inr ⟨ho, hn hf⟩
  · obtain ⟨o1, o2⟩ := search1_none text text.size p hp
    refine toEnd_any (n := 1) (m' := _) (step1 o1 rfl) (by decide) (.inr ⟨o2, hn ?_⟩)
    rw [show text.size - p = 0 from by omega]; rfl
end
end Mine
end

section
open PySem PySem.W PyProof.Rows PySem.Calls
set_option maxRecDepth 100000
namespace Mine
open PySem.Sre PySem.Builtin.Re

/-- the code of (?:\r\n|\n|\r(?!\n)) -/
def code3 : Array Nat := #[14, 9, 4, 1, 2, 16, 10, 16, 13, 0, 7, 7, 16, 13, 16, 10, 15, 18, 5, 16, 10, 15, 13, 11, 16, 13, 5, 5, 0, 16, 10, 1, 15, 2, 0, 1]

def mB (text : Array Nat) (lim p : Nat) (sn : Sre.Seen) (pc pos handed : Nat) (outermost : Bool) (frames : List Sre.Frame) (weight : Nat) (answer : Option Bool) : M :=
  { code := code3, text, lim, start := p, lastStart := lim, pc, pos, handed, outermost, marks := #[], frames, weight, answer, seen := sn }

section
variable {text : Array Nat} {lim p : Nat} {sn : Sre.Seen} {pc pos handed : Nat} {o : Bool} {fs : List Sre.Frame} {wt : Nat} {c : Nat}
theorem b_lit (hw : code3.getD pc 0 = 16) (hs : pc < 36) (hc : code3.getD (pc + 1) 0 = c) :
    (mB text lim p sn pc pos handed o fs wt none).step =
      if pos < lim ∧ text.getD pos 0 = c then mB text lim p (sn.add 16) (pc + 2) (pos + 1) handed o fs wt none else mB text lim p (sn.add 16) pc pos handed o fs wt (some false) := by
  have e0 : (mB text lim p sn pc pos handed o fs wt none).step = (mB text lim p sn pc pos handed o fs wt none).exec := by
    show (if pc < 36 then _ else _) = _
    rw [if_pos hs]
  have e1 : (mB text lim p sn pc pos handed o fs wt none).word 0 = 16 := hw
  rw [e0]
  unfold M.exec
  simp only [e1]
  show (if pos ≥ lim then _ else _) = _
  by_cases hp : pos ≥ lim
  · rw [if_pos hp, if_neg (fun h => by omega)]; rfl
  · rw [if_neg hp]
    have e2 : accepts code3 pc (text.getD pos 0) (sn.add 16) = .ok (text.getD pos 0 == c, sn.add 16) := by
      unfold accepts
      simp only [hw, hc]
      rfl
    show (match accepts code3 pc (text.getD pos 0) (sn.add 16) with | .error why => _ | .ok (false, seen) => _ | .ok (true, seen) => _) = _
    rw [e2]
    by_cases hx : text.getD pos 0 = c
    · rw [if_pos ⟨by omega, hx⟩, show (text.getD pos 0 == c) = true from by rw [hx]; exact beq_self_eq_true _]
      have e3 : itemWidth code3 pc = 2 := by unfold itemWidth; simp only [hw]; rfl
      show { mB text lim p (sn.add 16) pc pos handed o fs wt none with pc := pc + itemWidth code3 pc, pos := pos + 1 } = _
      rw [e3]; rfl
    · rw [if_neg (fun h => hx h.2), show (text.getD pos 0 == c) = false from by rw [beq_eq_false_iff_ne]; exact hx]; rfl
end

/-- what is found at p, where one of the two signs stands -/
def len3 (text : Array Nat) (p : Nat) : Nat := if text.getD p 0 = 13 ∧ p + 1 < text.size ∧ text.getD (p + 1) 0 = 10 then 2 else 1

def fS (p : Nat) (o : Bool) : Sre.Frame := { wait := .nextStart, pc := 10, pos := p, outermost := o }
def fB (alt p : Nat) (o : Bool) : Sre.Frame := { wait := .nextBranch, pc := alt, pos := p, outermost := o }
def fL (p : Nat) (o : Bool) : Sre.Frame := { wait := .lookNot, pc := 26, pos := p, outermost := o }

theorem runFor_step {m m1 : M} {n : Nat} {m' : M} (h : m.outcome = none) (e1 : m.step = m1) (e : M.runFor n m1 = m') : M.runFor (n + 1) m = m' := (runFor_one n h e1).trans e

/-- the end of a try: found -/
theorem b_done {text : Array Nat} {lim p q : Nat} {sn : Sre.Seen} {h0 alt : Nat} {o : Bool} : ∃ m', M.runFor 4 (mB text lim p sn 35 q h0 o [fB alt p o, fS p o] 2 none) = m' ∧ m'.outcome = some .matched ∧ m'.start = p ∧ m'.handed = q := by
  refine ⟨_, runFor_step rfl (m1 := mB text lim p (sn.add 1) 35 q q o [fB alt p o, fS p o] 2 (some true)) ?_ rfl, rfl, rfl, rfl⟩
  show (if (o && (false && _ || false && _)) = true then _ else _) = _
  rw [if_neg (by cases o <;> exact Bool.false_ne_true)]; rfl

theorem try3 {text : Array Nat} {p : Nat} {sn : Sre.Seen} {o : Bool} (hp : p < text.size) (hc : text.getD p 0 = 10 ∨ text.getD p 0 = 13) :
    ∃ n m', n ≤ 20 ∧ M.runFor n (mB text text.size p sn 10 p p o [fS p o] 1 none) = m' ∧ m'.outcome = some .matched ∧ m'.start = p ∧ m'.handed = p + len3 text p := by
  have e1 : (mB text text.size p sn 10 p p o [fS p o] 1 none).step = mB text text.size p (sn.add 7) 12 p p o [fB 11 p o, fS p o] 2 none := rfl
  have l1 : ∀ sn, (mB text text.size p sn 12 p p o [fB 11 p o, fS p o] 2 none).step = _ := fun sn => b_lit (c := 13) rfl (by decide) rfl
  have l2 : ∀ sn h0, (mB text text.size p sn 14 (p + 1) h0 o [fB 11 p o, fS p o] 2 none).step = _ := fun sn h0 => b_lit (c := 10) rfl (by decide) rfl
  have l3 : ∀ sn h0, (mB text text.size p sn 19 p h0 o [fB 18 p o, fS p o] 2 none).step = _ := fun sn h0 => b_lit (c := 10) rfl (by decide) rfl
  have l4 : ∀ sn h0, (mB text text.size p sn 24 p h0 o [fB 23 p o, fS p o] 2 none).step = _ := fun sn h0 => b_lit (c := 13) rfl (by decide) rfl
  have l5 : ∀ sn h0, (mB text text.size p sn 29 (p + 1) h0 false [fL (p + 1) o, fB 23 p o, fS p o] 3 none).step = _ := fun sn h0 => b_lit (c := 10) rfl (by decide) rfl
  have r1 : ∀ sn pc pos h0, (mB text text.size p sn pc pos h0 o [fB 11 p o, fS p o] 2 (some false)).step = mB text text.size p sn 19 p p o [fB 18 p o, fS p o] 2 none := fun _ _ _ _ => rfl
  have r2 : ∀ sn pc pos h0, (mB text text.size p sn pc pos h0 o [fB 18 p o, fS p o] 2 (some false)).step = mB text text.size p sn 24 p p o [fB 23 p o, fS p o] 2 none := fun _ _ _ _ => rfl
  have a1 : ∀ sn h0, (mB text text.size p sn 26 (p + 1) h0 o [fB 23 p o, fS p o] 2 none).step = mB text text.size p (sn.add 5) 29 (p + 1) (p + 1) false [fL (p + 1) o, fB 23 p o, fS p o] 3 none := fun _ _ => rfl
  have a2 : ∀ sn pc pos h0 b, (mB text text.size p sn pc pos h0 b [fL (p + 1) o, fB 23 p o, fS p o] 3 (some false)).step = mB text text.size p sn 32 (p + 1) h0 o [fB 23 p o, fS p o] 2 none := fun _ _ _ _ _ => rfl
  have j1 : ∀ sn q h0 fs, (mB text text.size p sn 16 q h0 o fs 2 none).step = mB text text.size p (sn.add 15) 35 q h0 o fs 2 none := fun _ _ _ _ => rfl
  have j2 : ∀ sn q h0 fs, (mB text text.size p sn 21 q h0 o fs 2 none).step = mB text text.size p (sn.add 15) 35 q h0 o fs 2 none := fun _ _ _ _ => rfl
  have j3 : ∀ sn q h0 fs, (mB text text.size p sn 32 q h0 o fs 2 none).step = mB text text.size p (sn.add 15) 35 q h0 o fs 2 none := fun _ _ _ _ => rfl
  by_cases h13 : text.getD p 0 = 13
  · by_cases h10 : p + 1 < text.size ∧ text.getD (p + 1) 0 = 10
    · obtain ⟨m', hr, ho, hs, hh⟩ := b_done (text := text) (lim := text.size) (p := p) (q := p + 2) (sn := (((sn.add 7).add 16).add 16).add 15) (h0 := p) (alt := 11) (o := o)
      refine ⟨8, m', by decide, ?_, ho, hs, ?_⟩
      · refine runFor_step rfl e1 (runFor_step rfl ((l1 _).trans (if_pos ⟨hp, h13⟩)) (runFor_step rfl ((l2 _ _).trans (if_pos h10)) (runFor_step rfl (j1 _ _ _ _) hr)))
      · rw [hh, len3, if_pos ⟨h13, h10.1, h10.2⟩]
    · obtain ⟨m', hr, ho, hs, hh⟩ := b_done (text := text) (lim := text.size) (p := p) (q := p + 1) (sn := ((((((((sn.add 7).add 16).add 16).add 16).add 16).add 5).add 16).add 15)) (h0 := p + 1) (alt := 23) (o := o)
      refine ⟨15, m', by decide, ?_, ho, hs, ?_⟩
      · refine runFor_step rfl e1 (runFor_step rfl ((l1 _).trans (if_pos ⟨hp, h13⟩)) (runFor_step rfl ((l2 _ _).trans (if_neg h10)) (runFor_step rfl (r1 _ _ _ _)
          (runFor_step rfl ((l3 _ _).trans (if_neg (fun h => by rw [h13] at h; exact absurd h.2 (by decide)))) (runFor_step rfl (r2 _ _ _ _) (runFor_step rfl ((l4 _ _).trans (if_pos ⟨hp, h13⟩))
          (runFor_step rfl (a1 _ _) (runFor_step rfl ((l5 _ _).trans (if_neg h10)) (runFor_step rfl (a2 _ _ _ _ _) (runFor_step rfl (j3 _ _ _ _) hr))))))))))
      · rw [hh, len3, if_neg (fun h => h10 h.2)]
  · have h10 : text.getD p 0 = 10 := hc.resolve_right h13
    obtain ⟨m', hr, ho, hs, hh⟩ := b_done (text := text) (lim := text.size) (p := p) (q := p + 1) (sn := (((sn.add 7).add 16).add 16).add 15) (h0 := p) (alt := 18) (o := o)
    refine ⟨9, m', by decide, ?_, ho, hs, ?_⟩
    · refine runFor_step rfl e1 (runFor_step rfl ((l1 _).trans (if_neg (fun h => h13 h.2))) (runFor_step rfl (r1 _ _ _ _) (runFor_step rfl ((l3 _ _).trans (if_pos ⟨hp, h10⟩)) (runFor_step rfl (j2 _ _ _ _) hr))))
    · rw [hh, len3, if_neg (fun h => h13 h.1)]

/-- the first place from p on, among the next k, with one of the two signs -/
def find3 (text : Array Nat) : Nat → Nat → Option Nat
  | 0, _ => none
  | k + 1, p => if p < text.size then (if text.getD p 0 = 10 ∨ text.getD p 0 = 13 then some p else find3 text k (p + 1)) else none

theorem inSet3 (c : Nat) (sn : Sre.Seen) : ∃ sn', inSet code3 c code3.size 5 true sn = .ok (decide (c = 10 ∨ c = 13), sn') := by
  by_cases h1 : c = 10
  · subst h1; exact ⟨_, rfl⟩
  · by_cases h2 : c = 13
    · subst h2; exact ⟨_, rfl⟩
    · refine ⟨((sn.add 16).add 16).add 0, ?_⟩
      rw [decide_eq_false (fun h => h.elim h1 h2)]
      show (if (c == 10) = true then _ else _) = _
      rw [if_neg (by rw [beq_iff_eq]; exact h1)]
      show (if (c == 13) = true then _ else _) = _
      rw [if_neg (by rw [beq_iff_eq]; exact h2)]
      rfl
theorem admitted3 {m : M} {text : Array Nat} (hc : m.code = code3) (ht : m.text = text) (hl : m.lim = text.size) : ∀ (k p : Nat) (sn : Sre.Seen), ∃ sn', M.admitted m k p sn = .ok (find3 text k p, sn')
  | 0, _, sn => ⟨sn, rfl⟩
  | k + 1, p, sn => by
    unfold M.admitted find3
    rw [hl, hc, ht]
    by_cases hp : p < text.size
    · rw [if_neg (by omega), if_pos hp]
      obtain ⟨sn', e⟩ := inSet3 (text.getD p 0) sn
      rw [e]
      by_cases hq : text.getD p 0 = 10 ∨ text.getD p 0 = 13
      · rw [decide_eq_true hq, if_pos hq]; exact ⟨_, rfl⟩
      · rw [decide_eq_false hq, if_neg hq]; exact admitted3 hc ht hl k (p + 1) sn'
    · rw [if_pos (by omega), if_neg hp]; exact ⟨_, rfl⟩
theorem find3_spec {text : Array Nat} : ∀ {k p q : Nat}, find3 text k p = some q → p ≤ q ∧ q < text.size ∧ (text.getD q 0 = 10 ∨ text.getD q 0 = 13)
  | 0, _, _, h => by cases h
  | k + 1, p, q, h => by
    unfold find3 at h
    by_cases hp : p < text.size
    · rw [if_pos hp] at h
      by_cases hq : text.getD p 0 = 10 ∨ text.getD p 0 = 13
      · rw [if_pos hq] at h; cases h; exact ⟨Nat.le_refl _, hp, hq⟩
      · rw [if_neg hq] at h; obtain ⟨h1, h2⟩ := find3_spec h; exact ⟨by omega, h2⟩
    · rw [if_neg hp] at h; cases h

section
variable {Mo : Model} {A : Around} {E : Value → Shared → Prop} {s : Shared}
theorem next3 {text : Array Nat} {p : Nat} {Q : Option M → Shared → Prop}
    (hq : ∀ q, find3 text (text.size + 1 - p) p = some q → ∀ m : M, m.start = q → m.handed = q + len3 text q → Q (some m) s)
    (hn : find3 text (text.size + 1 - p) p = none → Q none s) : wpAny Mo A (reRunToEnd (forSearch code3 text 0 p text.size false)) Q E s := by
  by_cases hp : p < text.size
  · have h1 : (decide (p > text.size) || decide (text.size - p < (header code3).1)) = false := by
      rw [Bool.or_eq_false_iff]; exact ⟨decide_eq_false (by omega), decide_eq_false (by show ¬ text.size - p < 1; omega)⟩
    have e0 : forSearch code3 text 0 p text.size false = M.attemptFrom (mB text text.size p ((({} : Sre.Seen).add 14)) 10 p p true [] 0 none) p true := by
      unfold forSearch
      simp only [h1]
      rfl
    rw [e0]
    unfold M.attemptFrom
    rw [if_neg (by show ¬ (!true) = true; decide)]
    obtain ⟨sn', e⟩ := admitted3 (m := mB text text.size p ((({} : Sre.Seen).add 14)) 10 p p true [] 0 none) (text := text) rfl rfl rfl (text.size + 1 - p) p (({} : Sre.Seen).add 14)
    have e' : M.admitted (mB text text.size p ((({} : Sre.Seen).add 14)) 10 p p true [] 0 none) ((mB text text.size p ((({} : Sre.Seen).add 14)) 10 p p true [] 0 none).lim + 1 - p) p (mB text text.size p ((({} : Sre.Seen).add 14)) 10 p p true [] 0 none).seen = .ok (find3 text (text.size + 1 - p) p, sn') := e
    rw [e']
    cases hf : find3 text (text.size + 1 - p) p with
    | none => exact toEnd_any (n := 1) (m' := _) (step1 rfl rfl) (by decide) (.inr ⟨rfl, hn hf⟩)
    | some q =>
      obtain ⟨_, q2, q3⟩ := find3_spec hf
      obtain ⟨n, m', hn', hr, ho, hs, hh⟩ := try3 (sn := sn') (o := true) q2 q3
      exact toEnd_any (m := mB text text.size q sn' 10 q q true [fS q true] 1 none) hr (by omega) (.inl ⟨ho, hq q hf m' hs hh⟩)
  · have h1 : (decide (p > text.size) || decide (text.size - p < (header code3).1)) = true := by
      rw [Bool.or_eq_true]; right; exact decide_eq_true (by show text.size - p < 1; omega)
    have hf : find3 text (text.size + 1 - p) p = none := by
      cases hf : find3 text (text.size + 1 - p) p with
      | none => rfl
      | some q => obtain ⟨q1, q2, _⟩ := find3_spec hf; omega
    have o : (forSearch code3 text 0 p text.size false).outcome = none ∧ (forSearch code3 text 0 p text.size false).step.outcome = some .failed := by
      unfold forSearch
      simp only [h1]
      exact ⟨rfl, rfl⟩
    exact toEnd_any (n := 1) (m' := _) (step1 o.1 rfl) (by decide) (.inr ⟨o.2, hn hf⟩)
end
end Mine
end

section
open PySem PySem.W PyProof.Rows PySem.Calls
set_option maxRecDepth 100000
namespace Mine
open PySem.Sre PySem.Builtin.Re

theorem pat_attrs : PlainAttrs "re.Pattern" :=
  ⟨⟨"object.__getattribute__", by rw [typeLookup_type, builtinLookup_eq_fast]; kernel_rfl, by decide +kernel⟩, by rw [typeLookup_type, builtinLookup_eq_fast]; kernel_rfl⟩
theorem pat_owner : Manifest.owners.lookup (String.ofList ['n', 'r', 'e', 't', 't', 'a', 'P', '.', 'e', 'r'].reverse) = some Manifest.sig_re_Pattern := by kernel_rfl
theorem pat_slot : Slot "re.Pattern" "sub" "re.Pattern.sub" :=
  .of (owner := "re.Pattern") (n := "sub") (by rw [typeLookup_type, builtinLookup_eq_fast]; kernel_rfl) (by decide +kernel) (by decide +kernel) (by decide +kernel)
    (by first | exact .inl (by decide +kernel) | exact .inr (by decide +kernel)) (by rw [isSubtype_type]; kernel_rfl)
theorem pat_type : typeOf (.builtin "re.Pattern.sub") = pure (.type "method_descriptor") := by show builtinType _ = _; rw [builtinType_eq_fast]; kernel_rfl
theorem pat_entry : entryFor table "re.Pattern.sub" = some Builtin.«re.Pattern.sub» := entryFor_of_tree (by kernel_rfl)
theorem pat_args (a b c : Value) : argsOk "re.Pattern.sub" ⟨[a, b, c], []⟩ := by
  unfold argsOk; rw [signature?_of (id := "re.Pattern.sub") (n := ['b', 'u', 's']) (o := ['n', 'r', 'e', 't', 't', 'a', 'P', '.', 'e', 'r']) (by kernel_rfl) pat_owner]; kernel_rfl
theorem loop_entry : entryFor table "re.Pattern.sub.loop" = some Builtin.«re.Pattern.sub.loop» := entryFor_of_tree (by kernel_rfl)
theorem loop_plain : plainId "re.Pattern.sub.loop" = true := by decide +kernel
end Mine
end

section
open PySem PySem.W PyProof.Rows PySem.Calls
set_option maxRecDepth 100000
namespace Mine
open Builtin

theorem bj_slot : Slot "bytes" "join" "bytes.join" :=
  .of (owner := "bytes") (n := "join") (by rw [typeLookup_type, builtinLookup_eq_fast]; kernel_rfl) (by decide +kernel) (by decide +kernel) (by decide +kernel)
    (by first | exact .inl (by decide +kernel) | exact .inr (by decide +kernel)) (by rw [isSubtype_type]; kernel_rfl)
theorem bj_entry : entryFor table "bytes.join" = some Builtin.«bytes.join» := entryFor_of_tree (by kernel_rfl)
theorem bj_args (a b : Value) : argsOk "bytes.join" ⟨[a, b], []⟩ := by
  unfold argsOk; rw [signature?_of (id := "bytes.join") (n := ['n', 'i', 'o', 'j']) (o := ['s', 'e', 't', 'y', 'b']) (by kernel_rfl) FB.owner_bytes]; kernel_rfl

/-- these values are these bytes -/
inductive BytesAre : List Value → List (Array UInt8) → Prop
  | nil : BytesAre [] []
  | cons (y : Array UInt8) (t : Tok) {vs ys} : BytesAre vs ys → BytesAre (.bytes y t :: vs) (y :: ys)

theorem take_eq {id : String} {b : Array UInt8} {t : Tok} {fl : Int} : Bytes.takeBuffer? id (.bytes b t) fl = pure (some (b, none)) := by
  unfold Bytes.takeBuffer?
  rw [KBy.special_eq KBy.look_buffer, KBy.own_buffer]
  have : ∀ f, Bytes.buffer? id (.bytes b t) f = pure (some b) := fun f => by
    unfold Bytes.buffer?
    rw [KBy.special_eq KBy.look_buffer, KBy.own_buffer, KBy.own_release]
    kernel_rfl
  simp only [pure_bind, this]
  rfl
theorem takeQ_eq {id : String} {b : Array UInt8} {t : Tok} {fl : Int} : Bytes.takeBufferQuiet? id (.bytes b t) fl = pure (some (b, none)) := by
  unfold Bytes.takeBufferQuiet?
  rw [take_eq]
  rfl

section
variable {M : Model} {A : Around} {E : Value → Shared → Prop} {s : Shared}
theorem letGo_all {keep : List Value} {Q : Unit → Shared → Prop} (h : Q () s) : ∀ taken : List (Value × Option Value), (∀ x ∈ taken, x.2 = none) → wpAny M A (Bytes.joinLetGo taken keep) Q E s
  | [], _ => wpAny_pure h
  | (x, w) :: r, hw => by
    have : w = none := hw _ (.head _)
    subst this
    show wpAny M A (letGo _ _ >>= fun _ => Bytes.joinLetGo r keep) Q E s
    exact wpAny_bind (wpAny_letGo (letGo_all h r fun y hy => hw y (.tail _ hy)))

theorem forList_any {β : Type} {f : Nat → β → Sem (ForInStep β)} (n : Nat) (I : Nat → β → Prop) {Q : β → Shared → Prop}
    (step : ∀ i b, i < n → I i b → wpAny M A (f i b) (fun r s' => s' = s ∧ ∃ b', r = .yield b' ∧ I (i + 1) b') E s) (hQ : ∀ b, I n b → Q b s) (k : Nat) :
    ∀ (i : Nat) (b : β), i + k = n → I i b → wpAny M A (forIn (List.range' i k 1) b f) Q E s := by
  induction k with
  | zero => intro i b hn hI; rw [show List.range' i 0 1 = [] from rfl, List.forIn_nil]; exact wpAny_pure (hQ b (by rw [← hn]; exact hI))
  | succ k ih =>
    intro i b hn hI
    rw [List.range'_succ, List.forIn_cons]
    refine wpAny_bind (wpAny_mono (step i b (by omega) hI) (fun r s' h => ?_) fun _ _ x => x)
    obtain ⟨rfl, b', rfl, hI'⟩ := h
    exact ih (i + 1) b' (by omega) hI'
theorem forRange_any {β : Type} {f : Nat → β → Sem (ForInStep β)} {n : Nat} (I : Nat → β → Prop) {Q : β → Shared → Prop} {b : β} (h0 : I 0 b)
    (step : ∀ i b, i < n → I i b → wpAny M A (f i b) (fun r s' => s' = s ∧ ∃ b', r = .yield b' ∧ I (i + 1) b') E s) (hQ : ∀ b, I n b → Q b s) : wpAny M A (forIn [:n] b f) Q E s := by
  rw [Std.Legacy.Range.forIn_eq_forIn_range']
  show wpAny M A (forIn (List.range' 0 ((n - 0 + 1 - 1) / 1) 1) b f) Q E s
  rw [show (n - 0 + 1 - 1) / 1 = n from by omega]
  exact forList_any n I step hQ n 0 b (by omega) h0
end

theorem bytesAre_get : ∀ {vs : List Value} {ys : List (Array UInt8)}, BytesAre vs ys → ∀ i, i < vs.length → ∃ t y, vs[i]? = some (.bytes y t) ∧ ys[i]? = some y
  | _, _, .nil, _, hi => absurd hi (Nat.not_lt_zero _)
  | _, _, .cons y t h, 0, _ => ⟨t, y, rfl, rfl⟩
  | _, _, .cons y t h, i + 1, hi => by simpa using bytesAre_get h i (by simpa using hi)
theorem bytesAre_len : ∀ {vs : List Value} {ys : List (Array UInt8)}, BytesAre vs ys → vs.length = ys.length
  | _, _, .nil => rfl
  | _, _, .cons _ _ h => by simp [bytesAre_len h]

theorem joined_nil : ∀ (parts : List (Array UInt8)) (k : Nat) (acc : Array UInt8), (parts.zipIdx k).foldl (fun out (p, i) => (if i > 0 then out ++ #[] else out) ++ p) acc = acc ++ (parts.map Array.toList).flatten.toArray
  | [], _, acc => by simp
  | p :: r, k, acc => by
    rw [List.zipIdx_cons, List.foldl_cons, joined_nil r]
    by_cases hk : k > 0
    · simp [hk]; exact Array.toList_inj.mp (by simp)
    · simp [hk]; exact Array.toList_inj.mp (by simp)

theorem foldl_size : ∀ (ys : List (Array UInt8)) (n : Nat), ys.foldl (fun x1 x2 => x1 + x2.size) n = n + (ys.map Array.size).sum
  | [], n => by simp
  | y :: r, n => by rw [List.foldl_cons, foldl_size r]; simp; omega

section
variable {prog : Program} {w : World} {A : Around} {E : Value → Shared → Prop} {s : Shared}
theorem bytes_join {D : Addr} {vs : List Value} {ys : List (Array UInt8)} {t : Tok} {Q : Value → Shared → Prop} (hl : s.heap.IsList D vs.toArray) (hv : BytesAre vs ys) (hsz : (ys.map Array.size).sum ≤ 16777216)
    (hq : ∀ t' k, Q (.bytes ((ys.map Array.toList).flatten.toArray) t') { s with toks := k }) : wpAny (model prog w) A (call (.builtin "bytes.join") [.bytes #[] t, .ref D]) Q E s := by
  obtain ⟨o, ho, hc, ep, hd⟩ := id hl
  have hT : s.TypeIs (.ref D) "list" := ⟨o, ho, hc⟩
  refine wpAny_call_entry bj_slot (typeIs_bytes _ _ _) bj_entry ?_ (bj_args _ _)
  have hseq : ∀ {Q : Option (Array Value) → Shared → Prop}, Q (some vs.toArray) s → wpAny (model prog w) A.in1 (seqItems? (.ref D)) Q E s := fun {Q} h => by
    unfold seqItems?
    refine wpAny_bind (wpAny_load ho ?_)
    rw [hd]; exact wpAny_pure h
  show wpAny _ _ (Bytes.joinItems (.ref D) >>= fun seq => _) _ _ s
  refine wpAny_bind ?_
  unfold Bytes.joinItems
  refine wpAny_bind (wpAny_typeOf hT ?_)
  rw [if_pos (by decide)]
  refine wpAny_pure ?_
  refine wpAny_bind (hseq ?_)
  by_cases h1 : ∃ v, vs = [v]
  · obtain ⟨v, rfl⟩ := h1
    cases hv with
    | cons y u h0 =>
      cases h0
      show wpAny _ _ (typeOf (.bytes y u) >>= fun ty => _) _ _ s
      refine wpAny_bind (wpAny_typeOf (typeIs_bytes _ _ _) ?_)
      rw [if_pos (by decide)]
      refine wpAny_bind (wpAny_rule (wpAny_pure ⟨_, rfl, ?_⟩))
      have := hq u s.toks
      show Q (.bytes y u) s
      simpa using this
  · dsimp only
    rw [if_pos (show (Bytes.Kind.bytes == Bytes.Kind.bytes) = true from rfl)]
    have red : ∀ {X Y : Sem PySem.Fin} {f : Value → Sem PySem.Fin}, wpAny (model prog w) A.in1 Y (fun fin s' => ∃ v, fin = PySem.Fin.done (.ret v) ∧ Q v s') E s → wpAny (model prog w) A.in1 (match vs.toArray with | #[x] => f x | _ => Y) (fun fin s' => ∃ v, fin = PySem.Fin.done (.ret v) ∧ Q v s') E s := by
      intro X Y f h
      match vs, h1 with
      | [], _ => exact h
      | [v], h1 => exact absurd ⟨v, rfl⟩ h1
      | a :: b :: r, _ => exact h
    refine red (X := pure default) ?_
    refine wpAny_bind (forRange_any (fun i st => st.1.toList = ys.take i ∧ ∀ x ∈ st.2, x.2 = none ∧ x.1.onHeap = false) ⟨rfl, fun _ hx => nomatch hx⟩ ?_ ?_)
    · intro i st hi' hI
      have hi : i < vs.length := by simpa using hi'
      refine wpAny_bind (hseq ?_)
      dsimp only
      obtain ⟨hp, ht⟩ := hI
      obtain ⟨tk, y, e1, e2⟩ := bytesAre_get hv i hi
      have e3 : vs.toArray.getD i .none = .bytes y tk := by
        rw [Array.getD_eq_getD_getElem?]; simp [e1]
      have e4 : (Bytes.Kind.bytes == Bytes.Kind.bytearray || st.2.any fun x => x.1.onHeap) = false := by
        have : (st.2.any fun x => x.1.onHeap) = false := by
          rw [List.any_eq_false]; intro x hx; rw [(ht x hx).2]; exact Bool.false_ne_true
        rw [this]; rfl
      rw [if_neg (by rw [e4]; exact Bool.false_ne_true), e3]
      refine wpAny_bind (wpAny_holding (wpAny_of_eq takeQ_eq ?_))
      refine wpAny_bind (hseq ?_)
      dsimp only
      rw [if_neg (by simp)]
      refine wpAny_pure ⟨rfl, _, rfl, ?_, fun x hx => ?_⟩
      · simp only [Array.toList_push, hp, List.take_add_one, e2]; rfl
      · rcases List.mem_append.mp hx with hx | hx
        · exact ht x hx
        · rw [List.mem_singleton.mp hx]; exact ⟨rfl, rfl⟩
    · intro st hI
      obtain ⟨hp, ht⟩ := hI
      have hp' : st.1.toList = ys := by rw [hp, show vs.toArray.size = ys.length from by simp [bytesAre_len hv], List.take_length]
      refine wpAny_bind (m := Bytes.payload (.bytes #[] t)) (wpAny_pure ?_)
      have htl : Bytes.tooLong (Array.foldl (fun x1 x2 => x1 + x2.size) ((#[] : Array UInt8).size * (st.1.size - 1)) st.1) = false := by
        rw [← Array.foldl_toList, hp', foldl_size]
        exact KBy.tooLong_not (by simp; exact hsz)
      rw [if_neg (by rw [htl]; exact Bool.false_ne_true), hp']
      have ej : Bytes.joined #[] ys = (ys.map Array.toList).flatten.toArray := by
        unfold Bytes.joined; rw [joined_nil]; simp
      rw [ej]
      have hz : ((ys.map Array.toList).flatten.toArray).size ≤ sizeLine := by
        rw [List.size_toArray, List.length_flatten, sizeLine_eq]
        simpa [Function.comp_def] using hsz
      show wpAny _ _ (mkBytes _ >>= fun result => _) _ _ s
      unfold mkBytes
      rw [if_neg (Nat.not_lt.mpr hz)]
      refine wpAny_bind (wpAny_bind (wpAny_fresh (wpAny_pure ?_)))
      refine wpAny_bind (wpAny_holding (wpAny_point ?_))
      refine wpAny_bind (letGo_all ?_ _ fun x hx => (ht x hx).1)
      exact wpAny_pure ⟨_, rfl, hq _ _⟩
end
end Mine
end

section
open PySem PySem.W PyProof.Rows PySem.Calls
set_option maxRecDepth 100000
namespace Mine
open PySem.Sre PySem.Builtin.Re Builtin

/-- a compiled pattern of this code stands at pa (kind 0: of strs, 1: of bytes; no groups) -/
def Pat (h : Heap) (pa : Addr) (code : Array Nat) (kind : Nat) : Prop :=
  ∃ o fs ca oc items ep, h.get? pa = some o ∧ o.cls = .type "re.Pattern" ∧ o.dict = none ∧ o.data = .fields fs ∧ fs.getD 2 .none = .int 0 0 ∧ fs.getD 5 .none = .ref ca ∧ fs.getD 6 .none = .int kind 0 ∧
    h.get? ca = some oc ∧ oc.data = .seq items ep ∧ (items.map reRawOf).map (·.toNat) = code
theorem Pat.keeps {h h' : Heap} {pa : Addr} {code : Array Nat} {kind : Nat} (P : Pat h pa code kind) (k : ∀ b o, h.get? b = some o → h'.get? b = some o) : Pat h' pa code kind :=
  let ⟨o, fs, ca, oc, items, ep, h1, h2, h2', h3, h4, h5, h6, h7, h8, h9⟩ := P; ⟨o, fs, ca, oc, items, ep, k _ _ h1, h2, h2', h3, h4, h5, h6, k _ _ h7, h8, h9⟩

/-- the value with these signs: a str or bytes -/
def mkV (kind : Nat) (a : List Nat) (t : Tok) : Value := if kind = 0 then .str ⟨a.toArray⟩ t else .bytes (a.toArray.map (·.toUInt8)) t

/-- the signs of a str, or the octets of bytes -/
def TextIs (v : Value) (text : Array Nat) (kind : Nat) : Prop := (∃ t, kind = 0 ∧ v = .str ⟨text⟩ t) ∨ (∃ t b, kind = 1 ∧ v = .bytes b t ∧ text = b.map (·.toNat))

section
variable {M : Model} {A : Around} {E : Value → Shared → Prop} {s : Shared} {pa : Addr} {code text : Array Nat} {kind : Nat} {sv : Value}
theorem textOf_any {Q : Array Nat × Nat → Shared → Prop} (ht : TextIs sv text kind) (h : Q (text, kind) s) : wpAny M A (reTextOf sv) Q E s := by
  rcases ht with ⟨t, rfl, rfl⟩ | ⟨t, b, rfl, rfl, rfl⟩
  · exact wpAny_bind (m := asStr? _) (wpAny_pure (wpAny_pure h))
  · refine wpAny_bind (m := asStr? _) ?_
    refine wpAny_of_eq (a := none) rfl ?_
    exact wpAny_bind (wpAny_of_eq KBy.quiet_eq (wpAny_pure h))

theorem whole_any {Q : ReTarget → Shared → Prop} (P : Pat s.heap pa code kind) (ht : TextIs sv text kind)
    (h : Q { pattern := .ref pa, string := sv, code, text, kind, groups := 0, pos := 0, lim := text.size } s) : wpAny M A (reWholeTarget (.ref pa) sv) Q E s := by
  obtain ⟨o, fs, ca, oc, items, ep, h1, h2, h2', h3, h4, h5, h6, h7, h8, h9⟩ := P
  unfold reWholeTarget
  refine wpAny_bind (m := fieldsOf (.ref pa)) ?_
  unfold fieldsOf
  refine wpAny_bind (wpAny_load h1 ?_)
  rw [h3]
  refine wpAny_pure ?_
  refine wpAny_bind (textOf_any ht ?_)
  have hitems : ∀ {Q : Array Int → Shared → Prop}, Q (items.map reRawOf) s → wpAny M A (reRawItems (fs.getD 5 .none)) Q E s := fun {Q} hq => by
    rw [h5]
    unfold reRawItems seqItems?
    refine wpAny_bind (wpAny_bind (wpAny_load h7 ?_))
    rw [h8]
    exact wpAny_pure (wpAny_pure hq)
  have hk : kind = 0 ∨ kind = 1 := ht.elim (fun ⟨_, k, _⟩ => .inl k) fun ⟨_, _, k, _⟩ => .inr k
  have hwant : reRawNat (fs.getD 6 .none) = kind := by rw [h6]; rfl
  have hfin : wpAny M A (do
      reNoCollectionInside sv kind
      pure ({ pattern := .ref pa, string := sv, code := (← reRawItems (fs.getD 5 .none)).map (·.toNat), text, kind, groups := reRawNat (fs.getD 2 .none), pos := 0, lim := text.size } : ReTarget)) Q E s := by
    refine wpAny_bind ?_
    have e : ∀ {Q : Unit → Shared → Prop}, Q () s → wpAny M A (reNoCollectionInside sv kind) Q E s := fun {Q} hq => by
      rcases ht with ⟨t, rfl, rfl⟩ | ⟨t, b, rfl, rfl, rfl⟩
      · exact wpAny_pure hq
      · refine wpAny_bind (m := isInstance _ _) (wpAny_of_eq KBy.isInstance_eq ?_)
        exact wpAny_pure hq
    refine e ?_
    refine wpAny_bind (hitems ?_)
    rw [h9, h4]
    exact wpAny_pure h
  dsimp only
  rw [hwant]
  rcases hk with rfl | rfl
  · exact hfin
  · exact hfin

theorem slice_any {b e : Nat} {Q : Value → Shared → Prop} (hk : kind = 0 ∨ kind = 1) (hz : text.size ≤ 16777216) (h : ∀ t, Q (mkV kind (text.toList.extract b e) t) { s with toks := t + 1 }) : wpAny M A (reSlice text kind b e) Q E s := by
  have hz' : (text.extract b e).size ≤ sizeLine := by rw [sizeLine_eq, Array.size_extract]; omega
  have ee : text.extract b e = (text.toList.extract b e).toArray := by
    apply Array.toList_inj.mp; simp
  unfold reSlice
  rcases hk with rfl | rfl
  · rw [if_pos (show (0 == 0) = true from rfl)]
    refine wpAny_mkStr ?_ hz'
    rw [ee]; exact h _
  · rw [if_neg (by decide)]
    unfold mkBytes
    rw [if_neg (Nat.not_lt.mpr (by rw [Array.size_map]; exact hz'))]
    refine wpAny_bind (wpAny_fresh (wpAny_pure ?_))
    rw [ee]; exact h _
end

/-- what a search from p on finds: where it begins and ends -/
structure Finds (code text : Array Nat) (find : Nat → Option (Nat × Nat)) : Prop where
  run : ∀ {Mo : Model} {A : Around} {E : Value → Shared → Prop} {s : Shared} {p : Nat} {Q : Option Sre.M → Shared → Prop},
    (∀ q e, find p = some (q, e) → ∀ m : Sre.M, m.start = q → m.handed = e → Q (some m) s) → (find p = none → Q none s) → wpAny Mo A (reRunToEnd (forSearch code text 0 p text.size false)) Q E s
  within : ∀ {p q e}, find p = some (q, e) → p ≤ q ∧ q < e ∧ e ≤ text.size

/-- the text from p on, each find replaced -/
def subFrom (find : Nat → Option (Nat × Nat)) (repl : List Nat) (text : List Nat) : Nat → Nat → List Nat
  | 0, p => text.drop p
  | k + 1, p => match find p with
    | some (q, e) => text.extract p q ++ (repl ++ subFrom find repl text k e)
    | none => text.drop p

inductive PiecesAre (kind : Nat) : List Value → List (List Nat) → Prop
  | nil : PiecesAre kind [] []
  | snoc {vs xs} (y : List Nat) (t : Tok) : PiecesAre kind vs xs → y ≠ [] → PiecesAre kind (vs ++ [mkV kind y t]) (xs ++ [y])
theorem PiecesAre.le {kind vs xs} (h : PiecesAre kind vs xs) : vs.length ≤ xs.flatten.length := by
  induction h with
  | nil => exact Nat.le_refl _
  | snoc y t _ hy ih =>
    have : 0 < y.length := List.length_pos_iff.mpr hy
    rw [List.flatten_append, List.length_append, List.length_append, List.flatten_singleton]; simp only [List.length_singleton]; omega
theorem StrsAre.snoc' : ∀ {vs : List Value} {xs : List Str}, StrsAre vs xs → ∀ (y : Str) (t : Tok), StrsAre (vs ++ [.str y t]) (xs ++ [y])
  | _, _, .nil, y, t => .cons y t .nil
  | _, _, .cons x u h, y, t => .cons x u (StrsAre.snoc' h y t)
theorem BytesAre.snoc' : ∀ {vs : List Value} {xs : List (Array UInt8)}, BytesAre vs xs → ∀ (y : Array UInt8) (t : Tok), BytesAre (vs ++ [.bytes y t]) (xs ++ [y])
  | _, _, .nil, y, t => .cons y t .nil
  | _, _, .cons x u h, y, t => .cons x u (BytesAre.snoc' h y t)
theorem PiecesAre.strs {vs xs} (h : PiecesAre 0 vs xs) : StrsAre vs (xs.map fun x => ⟨x.toArray⟩) := by
  induction h with
  | nil => exact .nil
  | snoc y t _ _ ih => rw [List.map_append]; exact StrsAre.snoc' ih _ t
theorem PiecesAre.bytes {vs xs} (h : PiecesAre 1 vs xs) : BytesAre vs (xs.map fun x => x.toArray.map (·.toUInt8)) := by
  induction h with
  | nil => exact .nil
  | snoc y t _ _ ih => rw [List.map_append]; exact BytesAre.snoc' ih _ t

theorem glue_fold : ∀ (xs : List (List Nat)) (acc : Array Nat), (xs.map fun x => (⟨x.toArray⟩ : Str)).foldl (fun acc p => acc ++ (⟨#[]⟩ : Str).cps ++ p.cps) acc = acc ++ xs.flatten.toArray
  | [], acc => by simp
  | x :: r, acc => by
    rw [List.map_cons, List.foldl_cons, glue_fold r]; simp
theorem glued_nil (xs : List (List Nat)) : Txt.join ⟨#[]⟩ (xs.map fun x => (⟨x.toArray⟩ : Str)) = ⟨xs.flatten.toArray⟩ := by
  show (⟨_⟩ : Str) = _
  congr 1
  cases xs with
  | nil => rfl
  | cons x r =>
    show (r.map fun x => (⟨x.toArray⟩ : Str)).foldl (fun acc p => acc ++ (⟨#[]⟩ : Str).cps ++ p.cps) x.toArray = _
    rw [glue_fold]; exact Array.toList_inj.mp (by simp)

theorem mkV_ne {kind : Nat} {y : List Nat} {t : Tok} : (mkV kind y t != .none) = true := by
  unfold mkV; split <;> rfl

theorem push_any {M : Model} {A : Around} {E : Value → Shared → Prop} {s : Shared} {l : Addr} {vs : List Value} {ep : Nat} {v : Value} {h₀ : Heap} {Q : Unit → Shared → Prop} (keep : ∀ b o, h₀.get? b = some o → s.heap.get? b = some o) (hl0 : h₀.get? l = none)
    (hl : s.heap.get? l = some { cls := .type "list", data := .seq vs.toArray ep }) (hz : vs.length ≤ 16777216)
    (h : ∀ h', (∀ b o, h₀.get? b = some o → h'.get? b = some o) → h'.get? l = some { cls := .type "list", data := .seq (vs ++ [v]).toArray (ep + 1) } → Q () { s with heap := h' }) : wpAny M A (updateSeq l (·.push v)) Q E s := by
  refine wpAny_updateSeq hl rfl (h _ (fun b o e => ?_) ?_) (by rw [sizeLine_eq]; simpa using hz) (by rw [sizeLine_eq]; simp; omega)
  · have hne : b ≠ l := by rintro rfl; rw [hl0] at e; cases e
    rw [(Heap.SameBut.update s.heap l _).2 b hne]; exact keep b o e
  · rw [Heap.get?_update_self _ hl rfl]
    simp [Obj.mapSeq]

section
variable {prog : Program} {w : World} {A : Around} {R : Result → Shared → Prop} {pa : Addr} {code text : Array Nat} {kind : Nat} {sv : Value} {repl : List Nat} {rt : Tok} {find : Nat → Option (Nat × Nat)} {h₀ : Heap}
/-- the end of a substitution: the pieces joined -/
theorem sub_end {E : Value → Shared → Prop} {s : Shared} {l : Addr} {vs : List Value} {xs : List (List Nat)} {ep : Nat} {Q : Value → Shared → Prop} (hk : kind = 0 ∨ kind = 1) (hz : text.size ≤ 16777216)
    (hl : s.heap.get? l = some { cls := .type "list", data := .seq vs.toArray ep }) (hps : PiecesAre kind vs xs) (hlen : xs.flatten.length ≤ 16777216)
    (hR : ∀ t' tk', Q (mkV kind xs.flatten t') { s with toks := tk' }) :
    wpAny (model prog w) A (do
      let joiner ← reSlice text kind 0 0
      let items ← seqItems? (.ref l)
      if (items.getD #[]).isEmpty = true then do
        let text ← pure joiner
        ret text
      else do
        let text ← call (.builtin (if (kind == 0) = true then "str.join" else "bytes.join")) [joiner, .ref l]
        ret text) (fun fin s' => ∃ v, fin = PySem.Fin.done (.ret v) ∧ Q v s') E s := by
  refine wpAny_bind (slice_any hk hz fun t => ?_)
  have e0 : text.toList.extract 0 0 = [] := by simp
  rw [e0]
  refine wpAny_bind (m := seqItems? (.ref l)) ?_
  unfold seqItems?
  refine wpAny_bind (wpAny_load (s := { s with toks := t + 1 }) hl (wpAny_pure ?_))
  have hlist : ({ s with toks := t + 1 } : Shared).heap.IsList l vs.toArray := ⟨_, hl, rfl, _, rfl⟩
  cases hvs : vs with
  | nil =>
    subst hvs
    have hx : xs = [] := by
      generalize hv : ([] : List Value) = vs at hps
      cases hps with
      | nil => rfl
      | snoc y t _ _ => exact absurd (congrArg List.length hv) (by simp)
    subst hx
    exact wpAny_bind (wpAny_pure (wpAny_pure ⟨_, rfl, hR _ _⟩))
  | cons v r =>
    rw [← hvs]
    have hne : ((some vs.toArray).getD #[]).isEmpty = false := by rw [hvs]; rfl
    rw [if_neg (by rw [hne]; exact Bool.false_ne_true)]
    refine wpAny_bind ?_
    rcases hk with rfl | rfl
    · refine join_list (x := ⟨#[]⟩) hlist hps.strs ?_ (fun t' k => wpAny_pure ⟨_, rfl, ?_⟩)
      · show _ + _ * 0 ≤ _
        rw [Nat.mul_zero, Nat.add_zero, List.map_map]
        rw [List.length_flatten] at hlen
        simpa [Function.comp_def, Str.length] using hlen
      · rw [glued_nil]; exact hR _ _
    · rw [show mkV 1 [] t = .bytes #[] t from by simp [mkV], if_neg (show ¬ ((1 == 0) = true) from by decide)]
      refine bytes_join (Q := fun v s' => wpAny (model prog w) A (ret v) (fun fin s' => ∃ v, fin = PySem.Fin.done (.ret v) ∧ Q v s') E s') hlist hps.bytes ?_ (fun t' k => wpAny_pure ⟨_, rfl, ?_⟩)
      · rw [List.map_map]
        rw [List.length_flatten] at hlen
        simpa [Function.comp_def] using hlen
      · have e1 : ((xs.map fun x => x.toArray.map (·.toUInt8)).map Array.toList).flatten.toArray = (xs.flatten.toArray.map (·.toUInt8)) := by
          apply Array.toList_inj.mp
          simp [List.map_flatten, Function.comp_def]
        rw [e1]; exact hR _ _

/-- the loop of a substitution -/
theorem sub_loop (hF : Finds code text find) (P : Pat h₀ pa code kind) (ht : TextIs sv text kind) (hr0 : repl ≠ []) (hz : text.size ≤ 16777216) : ∀ (k p : Nat), text.size < p + k → p ≤ text.size → ∀ (n : Nat) (l : Addr) (vs : List Value) (xs : List (List Nat)) (ep : Nat) (s : Shared),
    (∀ b o, h₀.get? b = some o → s.heap.get? b = some o) → h₀.get? l = none → s.heap.get? l = some { cls := .type "list", data := .seq vs.toArray ep } → PiecesAre kind vs xs →
    (xs.flatten ++ subFrom find repl text.toList k p).length ≤ 16777216 →
    (∀ t' h' tk', (∀ b o, h₀.get? b = some o → h'.get? b = some o) → R (.ok (.ret (mkV kind (xs.flatten ++ subFrom find repl text.toList k p) t'))) { s with heap := h', toks := tk' }) →
    codeAny (model prog w) A (.builtin "re.Pattern.sub.loop" ⟨[.ref pa, sv, mkV kind repl rt, rawInt 0, rawInt 0, rawInt n, rawInt p, rawInt p, .bool false, .ref l, .bool false], []⟩) R s := by
  have hk : kind = 0 ∨ kind = 1 := ht.elim (fun ⟨_, k, _⟩ => .inl k) fun ⟨_, _, k, _⟩ => .inr k
  intro k
  induction k with
  | zero => intro p hp hp2; omega
  | succ k ih =>
    intro p hp hp2 n l vs xs ep s keep hl0 hl hps hlen hR
    refine codeAny_builtin loop_entry ?_
    rw [Around.under_plainId loop_plain]
    show wpAny (model prog w) A.in1 (reWholeTarget (.ref pa) sv >>= fun t => _) _ _ s
    refine wpAny_bind (whole_any (P.keeps keep) ht ?_)
    dsimp only
    rw [if_pos (show ((0 : Int) == 0) = true from rfl)]
    refine wpAny_bind ?_
    have e : ∀ {Q : Unit → Shared → Prop} {E}, Q () s → wpAny (model prog w) A.in1 (reLiteralCannotBeTurned (mkV kind repl rt)) Q E s := fun {Q E} hq => by
      rcases hk with rfl | rfl
      · exact wpAny_pure hq
      · refine wpAny_bind (m := asStr? _) (wpAny_of_eq (a := none) rfl ?_)
        show wpAny _ _ (isInstance (.bytes _ rt) (.type "bytes") >>= fun b => _) _ _ s
        refine wpAny_bind (wpAny_of_eq KBy.isInstance_eq ?_)
        exact wpAny_pure hq
    refine e ?_
    rw [if_neg (by rw [show ((0 : Int) != 0) = false from rfl, Bool.false_and]; exact Bool.false_ne_true)]
    have hvl : vs.length ≤ 16777216 := Nat.le_trans hps.le (Nat.le_trans (by rw [List.length_append]; omega) hlen)
    refine wpAny_bind ?_
    unfold reNextFound
    refine hF.run (p := p) (fun q en hq m hs hh => ?_) (fun hq => ?_)
    · subst hs hh
      obtain ⟨w1, w2, w3⟩ := hF.within hq
      have hsub : subFrom find repl text.toList (k + 1) p = text.toList.extract p m.start ++ (repl ++ subFrom find repl text.toList k m.handed) := by
        show (match find p with | some (q, e) => _ | none => _) = _
        rw [hq]
      rw [hsub] at hlen hR
      dsimp only
      have next : ∀ (vs : List Value) (xs' : List (List Nat)) (ep : Nat) (s' : Shared), (∀ b o, h₀.get? b = some o → s'.heap.get? b = some o) → s'.heap.get? l = some { cls := .type "list", data := .seq vs.toArray ep } → PiecesAre kind vs xs' →
          xs'.flatten = xs.flatten ++ text.toList.extract p m.start → s'.gens = s.gens → s'.drawn = s.drawn → s'.os = s.os →
          wpAny (model prog w) A.in1 (if ((0 : Int) == 0) = true then do
              let item ← pure (mkV kind repl rt)
              if (item != .none) = true then do
                updateSeq l fun x => x.push item
                again (.builtin "re.Pattern.sub.loop" ⟨[.ref pa, sv, mkV kind repl rt, rawInt 0, rawInt 0, rawInt (↑n + 1), rawInt ↑m.handed, rawInt ↑m.handed, .bool (m.handed == m.start), .ref l, .bool false], []⟩)
              else again (.builtin "re.Pattern.sub.loop" ⟨[.ref pa, sv, mkV kind repl rt, rawInt 0, rawInt 0, rawInt (↑n + 1), rawInt ↑m.handed, rawInt ↑m.handed, .bool (m.handed == m.start), .ref l, .bool false], []⟩)
            else do
              let found ← reNewMatch (.ref pa) sv 0 0 text.size m
              let item ← holding [found] (if ((0 : Int) == 1) = true then call (mkV kind repl rt) [found] else do reExpand (mkV kind repl rt) (← reFound found))
              if (item != .none) = true then do
                updateSeq l fun x => x.push item
                again (.builtin "re.Pattern.sub.loop" ⟨[.ref pa, sv, mkV kind repl rt, rawInt 0, rawInt 0, rawInt (↑n + 1), rawInt ↑m.handed, rawInt ↑m.handed, .bool (m.handed == m.start), .ref l, .bool false], []⟩)
              else again (.builtin "re.Pattern.sub.loop" ⟨[.ref pa, sv, mkV kind repl rt, rawInt 0, rawInt 0, rawInt (↑n + 1), rawInt ↑m.handed, rawInt ↑m.handed, .bool (m.handed == m.start), .ref l, .bool false], []⟩))
            (fun fin s' => match fin with | .done f => R (.ok f) s' | .again c' => c'.quiet = true ∧ codeAny (model prog w) A c' R s') (fun e s' => R (.error e) s') s' := by
        intro vs xs' ep s' keep' hl' hps' hx' hg hdr hos
        rw [if_pos (show ((0 : Int) == 0) = true from rfl)]
        refine wpAny_bind (wpAny_pure ?_)
        rw [if_pos mkV_ne]
        have hvl' : vs.length ≤ 16777216 := Nat.le_trans hps'.le (Nat.le_trans (by rw [hx']; simp only [List.length_append]; omega) hlen)
        refine wpAny_bind (push_any keep' hl0 hl' hvl' (fun h' k' l' => wpAny_pure ⟨plainId_quiet loop_plain _, ?_⟩))
        rw [show (m.handed == m.start) = false from by rw [beq_eq_false_iff_ne]; omega]
        refine ih m.handed (by omega) w3 (n + 1) l _ (xs' ++ [repl]) _ _ k' hl0 l' (.snoc repl rt hps' hr0) ?_ ?_
        · rw [List.flatten_append, hx']; simpa [List.append_assoc] using hlen
        · intro t' h'' tk' kk
          have := hR t' h'' tk' kk
          rw [List.flatten_append, hx', List.flatten_singleton]
          simp only [List.append_assoc] at this ⊢
          rw [hg, hdr, hos]
          exact this
      by_cases hlt : p < m.start
      · rw [if_pos (by simpa using hlt)]
        refine wpAny_bind (slice_any hk hz fun t => ?_)
        have ep' : (p : Int).toNat = p := by simp
        rw [ep']
        have hy : text.toList.extract p m.start ≠ [] := by
          intro e; have := congrArg List.length e; simp at this; omega
        refine wpAny_bind (push_any (s := { s with toks := t + 1 }) keep hl0 hl hvl (fun h' k' l' => ?_))
        exact next _ (xs ++ [text.toList.extract p m.start]) _ { s with toks := t + 1, heap := h' } k' l' (.snoc _ t hps hy) (by rw [List.flatten_append, List.flatten_singleton]) rfl rfl rfl
      · rw [if_neg (by simpa using hlt)]
        have hpq : m.start = p := by omega
        refine next vs xs _ s keep hl hps ?_ rfl rfl rfl
        rw [hpq]; simp
    · have hsub : subFrom find repl text.toList (k + 1) p = text.toList.drop p := by
        show (match find p with | some (q, e) => _ | none => _) = _
        rw [hq]
      rw [hsub] at hlen hR
      dsimp only
      have ep' : (p : Int).toNat = p := by simp
      rw [ep']
      by_cases hlt : p < text.size
      · rw [if_pos hlt]
        refine wpAny_bind (slice_any hk hz fun t => ?_)
        have ed : text.toList.extract p text.size = text.toList.drop p := by
          rw [List.extract_eq_take_drop]; apply List.take_of_length_le; simp
        rw [ed]
        have hy : text.toList.drop p ≠ [] := by
          intro e; have := congrArg List.length e; simp at this; omega
        refine wpAny_bind (push_any (s := { s with toks := t + 1 }) keep hl0 hl hvl (fun h' k' l' => ?_))
        refine wpAny_mono (sub_end (Q := fun v s' => R (.ok (.ret v)) s') (xs := xs ++ [text.toList.drop p]) hk hz l' (.snoc _ t hps hy) (by rw [List.flatten_append, List.flatten_singleton]; exact hlen) ?_) (fun fin s' h => ?_) fun _ _ x => x
        · intro t' tk'
          rw [List.flatten_append, List.flatten_singleton]
          exact hR t' h' tk' k'
        · obtain ⟨v, rfl, hv⟩ := h; exact hv
      · rw [if_neg hlt]
        have ed : text.toList.drop p = [] := by apply List.drop_eq_nil_of_le; simp; omega
        rw [ed, List.append_nil] at hlen hR
        refine wpAny_mono (sub_end (Q := fun v s' => R (.ok (.ret v)) s') hk hz hl hps hlen ?_) (fun fin s' h => ?_) fun _ _ x => x
        · intro t' tk'
          exact hR t' s.heap tk' keep
        · obtain ⟨v, rfl, hv⟩ := h; exact hv
end
end Mine
end

section
open PySem PySem.W PyProof.Rows PySem.Calls
set_option maxRecDepth 100000
namespace Mine
open PySem.Sre PySem.Builtin.Re Builtin

theorem str_no_call : typeLookup (.type "str") "__call__" = pure none := by rw [typeLookup_type, builtinLookup_eq_fast]; kernel_rfl
theorem bytes_no_call : typeLookup (.type "bytes") "__call__" = pure none := by rw [typeLookup_type, builtinLookup_eq_fast]; kernel_rfl
theorem named_eq (a b : Value) : reNamed "re.Pattern.sub" "sub" ["repl", "string", "count"] 2 [a, b] [] = pure [some a, some b, none] := by rfl

section
variable {prog : Program} {w : World} {A : Around} {E : Value → Shared → Prop} {s : Shared} {pa : Addr} {code text : Array Nat} {kind : Nat} {sv : Value} {repl : List Nat} {rt : Tok} {find : Nat → Option (Nat × Nat)}
theorem sub_call {Q : Value → Shared → Prop} (hF : Finds code text find) (P : Pat s.heap pa code kind) (ht : TextIs sv text kind) (hr0 : repl ≠ []) (hl0 : (repl.toArray.contains 92) = false) (hl1 : ((repl.toArray.map (·.toUInt8)).contains 92) = false) (hz : text.size ≤ 16777216)
    (hlen : (subFrom find repl text.toList (text.size + 1) 0).length ≤ 16777216)
    (hQ : ∀ t' h' tk', (∀ b o, s.heap.get? b = some o → h'.get? b = some o) → Q (mkV kind (subFrom find repl text.toList (text.size + 1) 0) t') { s with heap := h', toks := tk' }) :
    wpAny (model prog w) A (call (.builtin "re.Pattern.sub") [.ref pa, mkV kind repl rt, sv]) Q E s := by
  have hk : kind = 0 ∨ kind = 1 := ht.elim (fun ⟨_, k, _⟩ => .inl k) fun ⟨_, _, k, _⟩ => .inr k
  have hT : s.TypeIs (.ref pa) "re.Pattern" := let ⟨o, _, _, _, _, _, h1, h2, _⟩ := P; ⟨o, h1, h2⟩
  refine wpAny_call (codeAny_call_builtin pat_slot.plain pat_entry (pat_slot.check _ _ _ _ _ _ _ _ hT (pat_args _ _ _) ?_))
  show wpAny _ _ (reNamed "re.Pattern.sub" "sub" ["repl", "string", "count"] 2 [mkV kind repl rt, sv] [] >>= fun x => _) _ _ s
  rw [named_eq]
  refine wpAny_bind (wpAny_pure ?_)
  dsimp only
  refine wpAny_bind (wpAny_pure ?_)
  have lit : ∀ {Q : Option Value → Shared → Prop} {E}, Q none s → wpAny (model prog w) A.in1 (specialOf (mkV kind repl rt) "__call__") Q E s := fun {Q E} hq => by
    rcases hk with rfl | rfl
    · exact wpAny_of_eq (a := none) (by show typeLookup (.type "str") "__call__" = _; exact str_no_call) hq
    · exact wpAny_of_eq (a := none) (by show typeLookup (.type "bytes") "__call__" = _; exact bytes_no_call) hq
  refine wpAny_bind (lit ?_)
  have n1 : ¬ ((none : Option Value).isSome = true) := by decide
  rw [if_neg n1]
  have fin : wpAny (model prog w) A.in1 (do
      let x ← pure (mkV kind repl rt, (0 : Int))
      let _ ← holding [x.fst] (reWholeTarget (.ref pa) sv)
      if (x.snd == 1) = true then do
        reNotHeld "re.Pattern.sub" sv
        let l ← newList []
        again (.builtin "re.Pattern.sub.loop" ⟨[.ref pa, sv, x.fst, rawInt x.snd, rawInt 0, rawInt 0, rawInt 0, rawInt 0, .bool false, l, .bool false], []⟩)
      else do
        let l ← newList []
        again (.builtin "re.Pattern.sub.loop" ⟨[.ref pa, sv, x.fst, rawInt x.snd, rawInt 0, rawInt 0, rawInt 0, rawInt 0, .bool false, l, .bool false], []⟩))
      (fun fin s' => match fin with | .done f => wants Q E (.ok f) s' | .again c' => c'.quiet = true ∧ codeAny (model prog w) A c' (wants Q E) s') (fun e s' => wants Q E (.error e) s') s := by
    refine wpAny_bind (wpAny_pure ?_)
    refine wpAny_bind (wpAny_holding (whole_any P ht ?_))
    rw [if_neg (show ¬ (((0 : Int) == 1) = true) from by decide)]
    refine wpAny_bind (wpAny_newObj_type ?_ (by show (#[] : Array Value).size ≤ sizeLine; exact Nat.zero_le _))
    refine wpAny_pure ⟨plainId_quiet loop_plain _, ?_⟩
    refine sub_loop (h₀ := s.heap) hF P ht hr0 hz (text.size + 1) 0 (by omega) (Nat.zero_le _) 0 _ [] [] 0 _ (fun b o e => Heap.get?_push_of_some _ e) ?_ ?_ .nil (by simpa using hlen) ?_
    · cases hq : s.heap.get? s.heap.objs.size with
      | none => rfl
      | some o => exact absurd (Heap.lt_size hq) (Nat.lt_irrefl _)
    · exact Heap.get?_push_size _ rfl
    · intro t' h' tk' kk
      exact hQ t' h' tk' kk
  rcases hk with rfl | rfl
  · refine wpAny_bind (m := asStr? (mkV 0 repl rt)) (wpAny_pure ?_)
    refine wpAny_bind (wpAny_pure ?_)
    rw [if_neg n1, show (!(repl.toArray.contains 92)) = true from by rw [hl0]; rfl, if_pos rfl]
    exact fin
  · refine wpAny_bind (m := asStr? (mkV 1 repl rt)) (wpAny_of_eq (a := none) rfl ?_)
    refine wpAny_bind (m := Bytes.bufferQuiet? "re.Pattern.sub" (mkV 1 repl rt)) (wpAny_of_eq (a := some (repl.toArray.map (·.toUInt8))) KBy.quiet_eq ?_)
    refine wpAny_bind (wpAny_pure ?_)
    rw [if_neg n1, show (!((repl.toArray.map (·.toUInt8)).contains 92)) = true from by rw [hl1]; rfl, if_pos rfl]
    exact fin
theorem sub_method {M : Model} {pl : Sem Bool} {Q : Value × List Value → Shared → Prop} (P : Pat s.heap pa code kind) (h : Q (.builtin "re.Pattern.sub", [.ref pa]) s) : wpAny M A (getMethod (.ref pa) "sub" pl) Q E s := by
  obtain ⟨o, _, _, _, _, _, h1, h2, h3, _⟩ := P
  exact getMethod_builtin ⟨o, h1, h2⟩ pat_attrs pat_slot pat_type (fun a e => by cases e; exact ⟨o, h1, h3⟩) h
end
end Mine
end

section
open PySem PySem.W PyProof.Rows PySem.Calls
set_option maxRecDepth 100000
namespace Mine
open PySem.Sre PySem.Builtin.Re Builtin

def find1' (text : Array Nat) (p : Nat) : Option (Nat × Nat) := (find1 text text.size (text.size - p) p).map fun q => (q, q + 1)
def find3' (text : Array Nat) (p : Nat) : Option (Nat × Nat) := (find3 text (text.size + 1 - p) p).map fun q => (q, q + len3 text q)

theorem find1_spec {text : Array Nat} {lim : Nat} : ∀ {k p q : Nat}, find1 text lim k p = some q → p ≤ q ∧ q < lim
  | 0, _, _, h => by cases h
  | k + 1, p, q, h => by
    unfold find1 at h
    by_cases hp : p < lim
    · rw [if_pos hp] at h
      by_cases hq : bol text p = true ∧ text.getD p 0 = 46
      · rw [if_pos hq] at h; cases h; exact ⟨Nat.le_refl _, hp⟩
      · rw [if_neg hq] at h; obtain ⟨h1, h2⟩ := find1_spec h; exact ⟨by omega, h2⟩
    · rw [if_neg hp] at h; cases h

theorem finds1 {text : Array Nat} (hz : text.size ≤ 16777216) : Finds code1 text (find1' text) where
  run := by
    intro Mo A E s p Q hq hn
    refine next1 (by omega) (fun q hf m hs hh => hq q (q + 1) (by unfold find1'; rw [hf]; rfl) m hs hh) (fun hf => hn (by unfold find1'; rw [hf]; rfl))
  within := by
    intro p q e h
    unfold find1' at h
    cases hf : find1 text text.size (text.size - p) p with
    | none => rw [hf] at h; cases h
    | some q' => rw [hf] at h; cases h; obtain ⟨h1, h2⟩ := find1_spec hf; exact ⟨h1, by omega, by omega⟩
theorem len3_le (text : Array Nat) (q : Nat) (h : q < text.size) : 0 < len3 text q ∧ q + len3 text q ≤ text.size := by
  unfold len3
  by_cases hc : text.getD q 0 = 13 ∧ q + 1 < text.size ∧ text.getD (q + 1) 0 = 10
  · rw [if_pos hc]; omega
  · rw [if_neg hc]; omega
theorem finds3 {text : Array Nat} : Finds code3 text (find3' text) where
  run := by
    intro Mo A E s p Q hq hn
    exact next3 (fun q hf m hs hh => hq q (q + len3 text q) (by unfold find3'; rw [hf]; rfl) m hs hh) (fun hf => hn (by unfold find3'; rw [hf]; rfl))
  within := by
    intro p q e h
    unfold find3' at h
    cases hf : find3 text (text.size + 1 - p) p with
    | none => rw [hf] at h; cases h
    | some q' =>
      rw [hf] at h
      obtain ⟨h1, h2, _⟩ := find3_spec hf
      obtain ⟨l1, l2⟩ := len3_le text q' h2
      cases h
      exact ⟨h1, by omega, l2⟩

/-- every end of a row becomes the two signs -/
def fixE : List Nat → List Nat
  | [] => []
  | [c] => if c = 10 ∨ c = 13 then [13, 10] else [c]
  | c :: d :: r => if c = 13 ∧ d = 10 then 13 :: 10 :: fixE r else if c = 10 ∨ c = 13 then 13 :: 10 :: fixE (d :: r) else c :: fixE (d :: r)
/-- a dot at a row's begin is doubled -/
def dotE : Bool → List Nat → List Nat
  | _, [] => []
  | b, c :: r => (if b = true ∧ c = 46 then [46, 46] else [c]) ++ dotE (c == 10) r

theorem drop_at {text : Array Nat} {p : Nat} (h : p < text.size) : text.toList.drop p = text.getD p 0 :: text.toList.drop (p + 1) := by
  have h' : p < text.toList.length := by simpa using h
  rw [List.drop_eq_getElem_cons h']
  congr 1
  rw [Array.getD_eq_getD_getElem?]; simp [h]
theorem extract_at {text : Array Nat} {p q : Nat} (h : p < text.size) (hq : p < q) : text.toList.extract p q = text.getD p 0 :: text.toList.extract (p + 1) q := by
  rw [List.extract_eq_take_drop, List.extract_eq_take_drop, drop_at h, show q - p = (q - (p + 1)) + 1 from by omega, List.take_succ_cons]
theorem extract_self (l : List Nat) (p : Nat) : l.extract p p = [] := by rw [List.extract_eq_take_drop]; simp

theorem bol_succ (text : Array Nat) (p : Nat) : bol text (p + 1) = (text.getD p 0 == 10) := by
  unfold bol; simp

theorem dot_find {text : Array Nat} : ∀ (k p : Nat), p + k = text.size →
    match find1 text text.size k p with
    | some q => dotE (bol text p) (text.toList.drop p) = text.toList.extract p q ++ ([46, 46] ++ dotE (bol text (q + 1)) (text.toList.drop (q + 1)))
    | none => dotE (bol text p) (text.toList.drop p) = text.toList.drop p
  | 0, p, h => by
    show dotE (bol text p) (text.toList.drop p) = text.toList.drop p
    rw [List.drop_eq_nil_of_le (by simp; omega)]; rfl
  | k + 1, p, h => by
    have hp : p < text.size := by omega
    unfold find1
    rw [if_pos hp]
    by_cases hq : bol text p = true ∧ text.getD p 0 = 46
    · rw [if_pos hq]
      show dotE (bol text p) (text.toList.drop p) = _
      rw [drop_at hp, extract_self, List.nil_append, bol_succ]
      show (if bol text p = true ∧ text.getD p 0 = 46 then [46, 46] else [text.getD p 0]) ++ _ = _
      rw [if_pos hq]
    · rw [if_neg hq]
      have e : dotE (bol text p) (text.toList.drop p) = text.getD p 0 :: dotE (bol text (p + 1)) (text.toList.drop (p + 1)) := by
        rw [drop_at hp, bol_succ]
        show (if bol text p = true ∧ text.getD p 0 = 46 then [46, 46] else [text.getD p 0]) ++ _ = _
        rw [if_neg hq]; rfl
      have ih := dot_find (text := text) k (p + 1) (by omega)
      cases hf : find1 text text.size k (p + 1) with
      | some q =>
        rw [hf] at ih
        show dotE (bol text p) (text.toList.drop p) = _
        have := (find1_spec hf).1
        rw [e, extract_at hp (by omega), ih]; rfl
      | none =>
        rw [hf] at ih
        show dotE (bol text p) (text.toList.drop p) = _
        rw [e, ih, ← drop_at hp]

theorem dot_sub {text : Array Nat} : ∀ (k p : Nat), text.size < p + k → p ≤ text.size → subFrom (find1' text) [46, 46] text.toList k p = dotE (bol text p) (text.toList.drop p)
  | 0, p, h, h2 => by omega
  | k + 1, p, h, h2 => by
    have hd := dot_find (text := text) (text.size - p) p (by omega)
    unfold subFrom
    cases hf : find1 text text.size (text.size - p) p with
    | none =>
      rw [hf] at hd
      rw [show find1' text p = none from by unfold find1'; rw [hf]; rfl]
      exact hd.symm
    | some q =>
      rw [hf] at hd
      obtain ⟨f1, f2⟩ := find1_spec hf
      rw [show find1' text p = some (q, q + 1) from by unfold find1'; rw [hf]; rfl]
      show text.toList.extract p q ++ ([46, 46] ++ subFrom (find1' text) [46, 46] text.toList k (q + 1)) = _
      rw [dot_sub k (q + 1) (by omega) (by omega)]
      exact hd.symm

theorem fix_plain {c : Nat} {r : List Nat} (h : ¬ (c = 10 ∨ c = 13)) : fixE (c :: r) = c :: fixE r := by
  cases r with
  | nil => unfold fixE; rw [if_neg h]
  | cons d r => rw [fixE, if_neg (fun h' => h (.inr h'.1)), if_neg h]
theorem fix_find {text : Array Nat} : ∀ (k p : Nat), text.size < p + k → p ≤ text.size →
    match find3 text k p with
    | some q => fixE (text.toList.drop p) = text.toList.extract p q ++ ([13, 10] ++ fixE (text.toList.drop (q + len3 text q)))
    | none => fixE (text.toList.drop p) = text.toList.drop p
  | 0, p, h, h2 => by omega
  | k + 1, p, h, h2 => by
    unfold find3
    by_cases hp : p < text.size
    · rw [if_pos hp]
      by_cases hq : text.getD p 0 = 10 ∨ text.getD p 0 = 13
      · rw [if_pos hq]
        show fixE (text.toList.drop p) = _
        rw [extract_self, List.nil_append]
        by_cases hl : text.getD p 0 = 13 ∧ p + 1 < text.size ∧ text.getD (p + 1) 0 = 10
        · rw [show len3 text p = 2 from by unfold len3; rw [if_pos hl], drop_at hp, drop_at hl.2.1, fixE, if_pos ⟨hl.1, hl.2.2⟩]; rfl
        · rw [show len3 text p = 1 from by unfold len3; rw [if_neg hl], drop_at hp]
          by_cases hp1 : p + 1 < text.size
          · rw [drop_at hp1, fixE, if_neg (fun h' => hl ⟨h'.1, hp1, h'.2⟩), if_pos hq, ← drop_at hp1]; rfl
          · rw [show text.toList.drop (p + 1) = [] from List.drop_eq_nil_of_le (by simp; omega)]
            show (if text.getD p 0 = 10 ∨ text.getD p 0 = 13 then [13, 10] else [text.getD p 0]) = _
            rw [if_pos hq]; rfl
      · rw [if_neg hq]
        have e : fixE (text.toList.drop p) = text.getD p 0 :: fixE (text.toList.drop (p + 1)) := by
          rw [drop_at hp]; exact fix_plain hq
        have ih := fix_find (text := text) k (p + 1) (by omega) (by omega)
        cases hf : find3 text k (p + 1) with
        | some q =>
          rw [hf] at ih
          show fixE (text.toList.drop p) = _
          have := (find3_spec hf).1
          rw [e, extract_at hp (by omega), ih]; rfl
        | none =>
          rw [hf] at ih
          show fixE (text.toList.drop p) = _
          rw [e, ih, ← drop_at hp]
    · rw [if_neg hp]
      show fixE (text.toList.drop p) = _
      rw [List.drop_eq_nil_of_le (by simp; omega)]; rfl
theorem fix_sub {text : Array Nat} : ∀ (k p : Nat), text.size < p + k → p ≤ text.size → subFrom (find3' text) [13, 10] text.toList k p = fixE (text.toList.drop p)
  | 0, p, h, h2 => by omega
  | k + 1, p, h, h2 => by
    have hd := fix_find (text := text) (text.size + 1 - p) p (by omega) h2
    unfold subFrom
    cases hf : find3 text (text.size + 1 - p) p with
    | none =>
      rw [hf] at hd
      rw [show find3' text p = none from by unfold find3'; rw [hf]; rfl]
      exact hd.symm
    | some q =>
      rw [hf] at hd
      obtain ⟨f1, f2, _⟩ := find3_spec hf
      obtain ⟨l1, l2⟩ := len3_le text q f2
      rw [show find3' text p = some (q, q + len3 text q) from by unfold find3'; rw [hf]; rfl]
      show text.toList.extract p q ++ ([13, 10] ++ subFrom (find3' text) [13, 10] text.toList k (q + len3 text q)) = _
      rw [fix_sub k _ (by omega) l2]
      exact hd.symm

theorem fixE_len : ∀ l : List Nat, (fixE l).length ≤ 2 * l.length
  | [] => by simp [fixE]
  | [c] => by rw [fixE]; split <;> simp
  | c :: d :: r => by
    rw [fixE]
    have h1 := fixE_len r
    have h2 := fixE_len (d :: r)
    simp only [List.length_cons] at h2 ⊢
    split
    · simp only [List.length_cons]; omega
    · split <;> simp only [List.length_cons] <;> omega
theorem dotE_len : ∀ (b : Bool) (l : List Nat), (dotE b l).length ≤ 2 * l.length
  | _, [] => by simp [dotE]
  | b, c :: r => by
    rw [dotE]
    have h1 := dotE_len (c == 10) r
    simp only [List.length_append, List.length_cons]
    split <;> simp <;> omega

section
variable {prog : Program} {w : World} {A : Around} {E : Value → Shared → Prop} {s : Shared} {pa : Addr}
/-- the ends of a str's rows -/
theorem sub_fix {x : Str} {t rt : Tok} {Q : Value → Shared → Prop} (P : Pat s.heap pa code3 0) (hz : x.length ≤ 8000000)
    (hQ : ∀ t' h' tk', (∀ b o, s.heap.get? b = some o → h'.get? b = some o) → Q (.str ⟨(fixE x.cps.toList).toArray⟩ t') { s with heap := h', toks := tk' }) :
    wpAny (model prog w) A (call (.builtin "re.Pattern.sub") [.ref pa, .str ⟨#[13, 10]⟩ rt, .str x t]) Q E s := by
  have hz' : x.cps.size ≤ 8000000 := hz
  have e := fix_sub (text := x.cps) (x.cps.size + 1) 0 (by omega) (Nat.zero_le _)
  rw [List.drop_zero] at e
  refine sub_call (kind := 0) (repl := [13, 10]) finds3 P (.inl ⟨t, rfl, rfl⟩) (by decide) (by decide +kernel) (by decide +kernel) (by omega) ?_ (fun t' h' tk' k => ?_)
  · rw [e]; have := fixE_len x.cps.toList; simp only [Array.length_toList] at this; omega
  · rw [e]; exact hQ t' h' tk' k
theorem sub_dot {x : Str} {t rt : Tok} {Q : Value → Shared → Prop} (P : Pat s.heap pa code1 0) (hz : x.length ≤ 8000000)
    (hQ : ∀ t' h' tk', (∀ b o, s.heap.get? b = some o → h'.get? b = some o) → Q (.str ⟨(dotE true x.cps.toList).toArray⟩ t') { s with heap := h', toks := tk' }) :
    wpAny (model prog w) A (call (.builtin "re.Pattern.sub") [.ref pa, .str ⟨#[46, 46]⟩ rt, .str x t]) Q E s := by
  have hz' : x.cps.size ≤ 8000000 := hz
  have e := dot_sub (text := x.cps) (x.cps.size + 1) 0 (by omega) (Nat.zero_le _)
  rw [List.drop_zero, show bol x.cps 0 = true from rfl] at e
  refine sub_call (kind := 0) (repl := [46, 46]) (finds1 (by omega)) P (.inl ⟨t, rfl, rfl⟩) (by decide) (by decide +kernel) (by decide +kernel) (by omega) ?_ (fun t' h' tk' k => ?_)
  · rw [e]; have := dotE_len true x.cps.toList; simp only [Array.length_toList] at this; omega
  · rw [e]; exact hQ t' h' tk' k
theorem sub_dotB {b : Array UInt8} {t rt : Tok} {Q : Value → Shared → Prop} (P : Pat s.heap pa code1 1) (hz : b.size ≤ 8000000)
    (hQ : ∀ t' h' tk', (∀ b o, s.heap.get? b = some o → h'.get? b = some o) → Q (.bytes ((dotE true (b.toList.map (·.toNat))).toArray.map (·.toUInt8)) t') { s with heap := h', toks := tk' }) :
    wpAny (model prog w) A (call (.builtin "re.Pattern.sub") [.ref pa, .bytes #[46, 46] rt, .bytes b t]) Q E s := by
  have e := dot_sub (text := b.map (·.toNat)) ((b.map (·.toNat)).size + 1) 0 (by omega) (Nat.zero_le _)
  rw [List.drop_zero, show bol (b.map (·.toNat)) 0 = true from rfl, Array.toList_map] at e
  have e2 : (Value.bytes #[46, 46] rt) = mkV 1 [46, 46] rt := by simp [mkV]
  rw [e2]
  refine sub_call (kind := 1) (repl := [46, 46]) (text := b.map (·.toNat)) (finds1 (by rw [Array.size_map]; omega)) P (.inr ⟨t, b, rfl, rfl, rfl⟩) (by decide) (by decide +kernel) (by decide +kernel) (by rw [Array.size_map]; omega) ?_ (fun t' h' tk' k => ?_)
  · rw [Array.toList_map, e]; have := dotE_len true (b.toList.map (·.toNat)); simp only [List.length_map, Array.length_toList] at this; omega
  · rw [Array.toList_map, e]; exact hQ t' h' tk' k
end
end Mine
end

section
open PySem PySem.W PyProof.Rows PySem.Calls
set_option maxRecDepth 100000
namespace Mine
open Builtin Builtin._codecs

theorem encode_args (a b : Value) : argsOk "str.encode" ⟨[a, b], []⟩ := F.args_str_encode_2 a b
theorem encode_ascii_tree (x : Str) (t u : Tok) : «str.encode» ⟨[.str x t, .str (Str.ofString "ascii") u], []⟩ = (do ret (← encodeRoad "str.encode" (.str x t) x (Str.ofString "ascii") none)) := by kernel_rfl
theorem encodeRoad_ascii (id : String) (self : Value) (x : Str) (errors : Option Str) : encodeRoad id self x (Str.ofString "ascii") errors = (do mkBytes (← encodeNarrow id asciiCodec errors self x)) := by
  first | rfl | (unfold encodeRoad; rfl) | kernel_rfl
theorem forIn_once {β : Type} {f : Nat → β → Sem (ForInStep β)} {b b1 : β} {n : Nat} (h1 : f 0 b = pure (.yield b1)) (h2 : ∀ i, f i b1 = pure (.done b1)) (hn : 0 < n) : forIn [:n] b f = (pure b1 : Sem β) := by
  rw [Std.Legacy.Range.forIn_eq_forIn_range']
  show forIn (List.range' 0 ((n - 0 + 1 - 1) / 1) 1) b f = _
  rw [show (n - 0 + 1 - 1) / 1 = n from by omega]
  obtain ⟨k, rfl⟩ : ∃ k, n = k + 1 := ⟨n - 1, by omega⟩
  rw [List.range'_succ, List.forIn_cons, h1, pure_bind]
  cases k with
  | zero => rfl
  | succ k => 
    show forIn (List.range' (0 + 1) (k + 1) 1) b1 f = _
    rw [List.range'_succ, List.forIn_cons, h2, pure_bind]
theorem fold_bytes (l : List Nat) : ∀ acc : Array UInt8, l.foldl (fun acc y => acc ++ (asciiCodec.bytesOf y).toArray) acc = acc ++ (l.map (·.toUInt8)).toArray := by
  induction l with
  | nil => intro acc; simp
  | cons c r ih =>
    intro acc
    rw [List.foldl_cons, ih]
    show acc ++ #[c.toUInt8] ++ _ = _
    apply Array.toList_inj.mp; simp
theorem narrow_ascii (id : String) (self : Value) (x : Str) (hx : ∀ c ∈ x.cps, c < 128) (hz : x.length ≤ 16777216) : encodeNarrow id asciiCodec none self x = pure (x.cps.map (·.toUInt8)) := by
  unfold encodeNarrow
  by_cases h0 : 0 < x.length
  · have h0' : 0 < x.cps.size := h0
    dsimp only
    rw [forIn_once (b1 := ((x.cps.size, x.cps.map (·.toUInt8), {}) : Nat × Array UInt8 × Faults)) ?_ ?_ h0]
    · rfl
    · rw [if_neg (by rw [sizeLine_eq]; decide)]
      have e1 : x.cps[0]? = some x.cps[0] := Array.getElem?_eq_getElem h0'
      dsimp only
      rw [e1]
      dsimp only
      have hb : ∀ c ∈ x.cps, asciiCodec.bad c = false := fun c hc => by
        show decide (c ≥ 128) = false
        exact decide_eq_false (by have := hx c hc; omega)
      have e2 : x.cps.extract 0 x.cps.size = x.cps := by simp
      have e3 : x.cps.findIdx? asciiCodec.bad = none := by
        rw [Array.findIdx?_eq_none_iff]; intro c hc; exact hb c hc
      rw [if_pos (by rw [hb _ (Array.getElem_mem h0')]; rfl)]
      show pure (ForInStep.yield (0 + (Array.findIdx? asciiCodec.bad (x.cps.extract 0 x.cps.size)).getD (x.cps.extract 0 x.cps.size).size, Array.foldl (fun acc y => acc ++ (asciiCodec.bytesOf y).toArray) #[] ((x.cps.extract 0 x.cps.size).extract 0 ((Array.findIdx? asciiCodec.bad (x.cps.extract 0 x.cps.size)).getD (x.cps.extract 0 x.cps.size).size)), ({} : Faults))) = _
      rw [e2, e3, Option.getD_none, e2, ← Array.foldl_toList, fold_bytes, Nat.zero_add]
      congr 4
      apply Array.toList_inj.mp; simp
    · intro i
      rw [if_neg (by show ¬ ((x.cps.map (·.toUInt8)).size > sizeLine); rw [sizeLine_eq, Array.size_map]; exact Nat.not_lt.mpr hz)]
      dsimp only
      rw [Array.getElem?_eq_none (Nat.le_refl _)]
  · have hn : x.cps = #[] := Array.size_eq_zero_iff.mp (by have : ¬ 0 < x.cps.size := h0; omega)
    have hl : x.length = 0 := by have : ¬ 0 < x.length := h0; omega
    dsimp only
    rw [hl, hn, Std.Legacy.Range.forIn_eq_forIn_range']
    rw [show (Array.map (fun x => x.toUInt8) (#[] : Array Nat)) = #[] from by simp]
    rfl

theorem encode_any {prog : Program} {w : World} {A : Around} {E : Value → Shared → Prop} {s : Shared} {x : Str} {t u : Tok} {Q : Value → Shared → Prop} (hx : ∀ c ∈ x.cps, c < 128) (hz : x.length ≤ 16777216)
    (h : ∀ t' k, Q (.bytes (x.cps.map (·.toUInt8)) t') { s with toks := k }) : wpAny (model prog w) A (call (.builtin "str.encode") [.str x t, .str (Str.ofString "ascii") u]) Q E s := by
  refine wpAny_call_entry F.slot_str_encode (typeIs_str _ _ _) F.entry_str_encode ?_ (F.args_str_encode_2 _ _)
  rw [encode_ascii_tree, encodeRoad_ascii, narrow_ascii _ _ _ hx hz]
  refine wpAny_bind (wpAny_bind (wpAny_pure ?_))
  unfold mkBytes
  rw [if_neg (Nat.not_lt.mpr (by rw [sizeLine_eq, Array.size_map]; exact hz))]
  exact wpAny_bind (wpAny_fresh (wpAny_pure (wpAny_pure ⟨_, rfl, h _ _⟩)))

theorem decode_args (a b : Value) : argsOk "bytes.decode" ⟨[a, b], []⟩ := by
  unfold argsOk; rw [signature?_of (id := "bytes.decode") (n := ['e', 'd', 'o', 'c', 'e', 'd']) (o := ['s', 'e', 't', 'y', 'b']) (by kernel_rfl) FB.owner_bytes]; kernel_rfl
theorem decode_tree {b : Array UInt8} {t u : Tok} : «bytes.decode» ⟨[.bytes b t, .str (Str.ofString "ascii") u], []⟩ = (do
    if b.isEmpty = true then (do rule "bytes.decode.empty"; retStr Str.empty)
    else (do
      let a ← mkStr (Str.ofString "utf-8")
      let e ← mkStr (Str.ofString "ascii")
      let d ← mkStr (Str.ofString "bytes.decode")
      ret (← call (.builtin "_codecs.decode.text") [.bytes b t, e, .none, d]))) := by kernel_rfl
theorem road_ascii {id : String} {b : Array UInt8} : decodeRoad id b (PySem.Str.ofString "ascii") none [] = (runDecoder id asciiDecoder none true b 0 [] >>= fun r => mkStr ⟨r.1⟩) := by kernel_rfl
theorem forIn_pure {β : Type} {f : Nat → β → Sem (ForInStep β)} {n : Nat} (g : Nat → β) (h : ∀ i, i < n → f i (g i) = pure (.yield (g (i + 1)))) : forIn [:n] (g 0) f = (pure (g n) : Sem β) := by
  rw [Std.Legacy.Range.forIn_eq_forIn_range']
  show forIn (List.range' 0 ((n - 0 + 1 - 1) / 1) 1) (g 0) f = _
  rw [show (n - 0 + 1 - 1) / 1 = n from by omega]
  have key : ∀ k i, i + k = n → forIn (List.range' i k 1) (g i) f = (pure (g n) : Sem β) := by
    intro k
    induction k with
    | zero => intro i hi; rw [← hi]; rfl
    | succ k ih =>
      intro i hi
      rw [List.range'_succ, List.forIn_cons, h i (by omega), pure_bind]
      exact ih (i + 1) (by omega)
  exact key n 0 (by omega)
theorem decoder_ascii {id : String} {b : Array UInt8} (hb : ∀ c ∈ b, c.toNat < 128) (hz : b.size ≤ 16777216) : runDecoder id asciiDecoder none true b 0 [] = pure (b.map (·.toNat), b.size) := by
  unfold runDecoder
  dsimp only
  rw [show ((0, #[], ({ held := [] } : Faults)) : Nat × Array Nat × Faults) = (fun i => ((i, ((b.extract 0 i).map (·.toNat)), { held := [] }) : Nat × Array Nat × Faults)) 0 from by simp]
  rw [forIn_pure (fun i => ((i, ((b.extract 0 i).map (·.toNat)), { held := [] }) : Nat × Array Nat × Faults))]
  · rw [pure_bind]; simp
  · intro i hi
    dsimp only
    rw [if_neg (by rw [sizeLine_eq, Array.size_map, Array.size_extract]; omega), if_neg (by omega)]
    have hg : b.getD i 0 = b[i] := by simp [Array.getD, hi]
    have hc : asciiDecoder.find true b i = .text [(b[i]).toNat] (i + 1) := by
      show (if (b.getD i 0).toNat < 128 then _ else _) = _
      rw [hg, if_pos (hb _ (Array.getElem_mem hi))]; rfl
    rw [hc]
    dsimp only
    congr 4
    apply Array.toList_inj.mp
    have e : b.extract 0 (i + 1) = (b.extract 0 i).push b[i] := by
      apply Array.toList_inj.mp
      simp [List.take_add_one, hi]
    rw [e, Array.map_push, Array.toList_push, Array.toList_append]

theorem decode_any {prog : Program} {w : World} {A : Around} {E : Value → Shared → Prop} {s : Shared} {b : Array UInt8} {t u : Tok} {Q : Value → Shared → Prop} (hb : ∀ c ∈ b, c.toNat < 128) (hz : b.size ≤ 16777216)
    (h : ∀ t' k, Q (.str ⟨b.map (·.toNat)⟩ t') { s with toks := k }) : wpAny (model prog w) A (call (.builtin "bytes.decode") [.bytes b t, .str (Str.ofString "ascii") u]) Q E s := by
  refine wpAny_call_entry FB.slot_bytes_decode (typeIs_bytes _ _ _) FB.entry_bytes_decode ?_ (decode_args _ _)
  rw [decode_tree]
  by_cases he : b.isEmpty = true
  · rw [if_pos he]
    refine wpAny_bind (wpAny_rule ?_)
    refine wpAny_bind (wpAny_mkStr (wpAny_pure ⟨_, rfl, ?_⟩) (by decide))
    have : b = #[] := by simpa using he
    have h' := h s.toks (s.toks + 1)
    rw [this] at h'
    show Q (.str ⟨#[]⟩ s.toks) _
    simpa using h'
  · rw [if_neg he]
    refine wpAny_bind (wpAny_mkStr ?_ (by decide))
    refine wpAny_bind (wpAny_mkStr ?_ (by decide))
    refine wpAny_bind (wpAny_mkStr ?_ (by decide))
    refine wpAny_bind (call_function_entry KBd.kind_text KBd.plain_text KBd.entry_text (KBd.args_text _ _ _ _) ?_)
    show wpAny _ _ (Bytes.bytesLike _ (.bytes b t) >>= fun r => _) _ _ _
    refine wpAny_bind (wpAny_of_eq KBd.like_eq ?_)
    refine wpAny_bind (wpAny_of_eq KBd.held_eq ?_)
    show wpAny _ _ (_codecs.decodeRoad _ b (PySem.Str.ofString "ascii") none [] >>= fun v => _) _ _ _
    rw [road_ascii, decoder_ascii hb hz]
    refine wpAny_bind (wpAny_bind (wpAny_pure ?_))
    refine wpAny_mkStr (wpAny_pure ⟨_, rfl, wpAny_pure ⟨_, rfl, h _ _⟩⟩) (by rw [sizeLine_eq]; show (b.map _).size ≤ _; rw [Array.size_map]; exact hz)
end Mine
end

section
open PySem PySem.W PyProof.Rows PySem.Calls
set_option maxRecDepth 100000
namespace Mine
theorem fill1 : PySem.Challenge.rw_pk0010_01 = PySem.Challenge.rw_pk0010_01 ∧ hd.heap_39 = hd.heap_39 := by
  k_fill
  exact ⟨rfl, rfl⟩

section
variable {P : Params} {h : Heap}
theorem pat1 (KX : (hd.heap_39 P).In h) : Pat h 43 code1 0 := ⟨_, _, _, _, _, _, KX 43 _ (by k_is), rfl, rfl, rfl, rfl, rfl, rfl, KX 42 _ (by k_is), rfl, by decide +kernel⟩
theorem pat2 (KX : (hd.heap_39 P).In h) : Pat h 48 code1 1 := ⟨_, _, _, _, _, _, KX 48 _ (by k_is), rfl, rfl, rfl, rfl, rfl, rfl, KX 47 _ (by k_is), rfl, by decide +kernel⟩
theorem pat3 (KX : (hd.heap_39 P).In h) : Pat h 53 code3 0 := ⟨_, _, _, _, _, _, KX 53 _ (by k_is), rfl, rfl, rfl, rfl, rfl, rfl, KX 52 _ (by k_is), rfl, by decide +kernel⟩
end

section
variable {prog : Program} {w : World} {A : Around} {E : Value → Shared → Prop} {s : Shared} {pa : Addr} {h₀ : Heap} {L : Addr} {m : Str → Option Value} {news : List (Addr × Obj)}
theorem fr_fix {rv x : Str} {t rt : Tok} {Q : Value → Shared → Prop} (F : Fr h₀ L s.heap m) (N : News h₀ L s.heap news) (P : Pat h₀ pa code3 0) (hr : rv = ⟨#[13, 10]⟩) (hz : x.length ≤ 8000000)
    (hQ : ∀ t' h' tk', Fr h₀ L h' m → News h₀ L h' news → Q (.str ⟨(fixE x.cps.toList).toArray⟩ t') { s with heap := h', toks := tk' }) :
    wpAny (model prog w) A (call (.builtin "re.Pattern.sub") [.ref pa, .str rv rt, .str x t]) Q E s := by
  subst hr
  exact sub_fix (P.keeps F.keep) hz fun t' h' tk' k => hQ t' h' tk' (F.after k) (N.grown k)
theorem fr_dot {rv x : Str} {t rt : Tok} {Q : Value → Shared → Prop} (F : Fr h₀ L s.heap m) (N : News h₀ L s.heap news) (P : Pat h₀ pa code1 0) (hr : rv = ⟨#[46, 46]⟩) (hz : x.length ≤ 8000000)
    (hQ : ∀ t' h' tk', Fr h₀ L h' m → News h₀ L h' news → Q (.str ⟨(dotE true x.cps.toList).toArray⟩ t') { s with heap := h', toks := tk' }) :
    wpAny (model prog w) A (call (.builtin "re.Pattern.sub") [.ref pa, .str rv rt, .str x t]) Q E s := by
  subst hr
  exact sub_dot (P.keeps F.keep) hz fun t' h' tk' k => hQ t' h' tk' (F.after k) (N.grown k)
theorem fr_dotB {rv b : Array UInt8} {t rt : Tok} {Q : Value → Shared → Prop} (F : Fr h₀ L s.heap m) (N : News h₀ L s.heap news) (P : Pat h₀ pa code1 1) (hr : rv = #[46, 46]) (hz : b.size ≤ 8000000)
    (hQ : ∀ t' h' tk', Fr h₀ L h' m → News h₀ L h' news → Q (.bytes ((dotE true (b.toList.map (·.toNat))).toArray.map (·.toUInt8)) t') { s with heap := h', toks := tk' }) :
    wpAny (model prog w) A (call (.builtin "re.Pattern.sub") [.ref pa, .bytes rv rt, .bytes b t]) Q E s := by
  subst hr
  exact sub_dotB (P.keeps F.keep) hz fun t' h' tk' k => hQ t' h' tk' (F.after k) (N.grown k)
end

local macro_rules | `(tactic| walk_at "getMethod ref") => `(tactic| first
  | (refine sub_method (pa := 53) ((pat3 (by assumption)).keeps (Fr.keep (by assumption))) ?_)
  | (refine sub_method (pa := 43) ((pat1 (by assumption)).keeps (Fr.keep (by assumption))) ?_)
  | (refine sub_method (pa := 48) ((pat2 (by assumption)).keeps (Fr.keep (by assumption))) ?_))
local macro_rules | `(tactic| walk_at "call builtin:re.Pattern.sub") => `(tactic| first
  | (refine fr_fix (pa := 53) (by assumption) (by assumption) (pat3 (by assumption)) (by decide +kernel) (by assumption) ?_; intro _ _ _ _ _)
  | (refine fr_dot (pa := 43) (by assumption) (by assumption) (pat1 (by assumption)) (by decide +kernel) (by assumption) ?_; intro _ _ _ _ _)
  | (refine fr_dotB (pa := 48) (by assumption) (by assumption) (pat2 (by assumption)) (by decide +kernel) (by assumption) ?_; intro _ _ _ _ _))

set_option maxHeartbeats 8000000 in
theorem fix_eols {prog p : Program} {loose : List Str} {w : World} {A : Around} {s : Shared} {mean : ExcName → Option Value} {mg mb : Str → Option Value} {x : Str} {t : Tok} {R : Result → Shared → Prop}
    (KX : (hd.heap_39 w.params).In s.heap) (T : Top p loose mean mg mb s.heap) (hroom : A.depth < 900) (hz : x.length ≤ 8000000)
    (h : ∀ t' h' tk', Keeps s.heap h' → R (.ok (.ret (.str ⟨(fixE x.cps.toList).toArray⟩ t'))) { s with heap := h', toks := tk' }) :
    codeAny (model prog w) A (.call (.ref 74) ⟨[.str x t], []⟩) R s := by
  refine call_own [(Str.ofString "data", .str x t)] KX T (by omega) (by k_is) (by k_is) rfl rfl (fun L h₁ hL F N => ?_)
  dsimp only [bnd, List.reverse, List.reverseAux] at F
  k_steps
  exact h _ _ _ (Fr.keep (by assumption))

set_option maxHeartbeats 8000000 in
theorem quotedata {prog p : Program} {loose : List Str} {w : World} {A : Around} {s : Shared} {mean : ExcName → Option Value} {mg mb : Str → Option Value} {x : Str} {t : Tok} {R : Result → Shared → Prop}
    (KX : (hd.heap_39 w.params).In s.heap) (T : Top p loose mean mg mb s.heap) (hroom : A.depth < 900) (hz : x.length ≤ 4000000)
    (h : ∀ t' h' tk', Keeps s.heap h' → R (.ok (.ret (.str ⟨(dotE true (fixE x.cps.toList)).toArray⟩ t'))) { s with heap := h', toks := tk' }) :
    codeAny (model prog w) A (.call (.ref 60) ⟨[.str x t], []⟩) R s := by
  refine call_own [(Str.ofString "data", .str x t)] KX T (by omega) (by k_is) (by k_is) rfl rfl (fun L h₁ hL F N => ?_)
  dsimp only [bnd, List.reverse, List.reverseAux] at F
  have hz1 : x.length ≤ 8000000 := by omega
  have hz2 : Str.length ⟨(fixE x.cps.toList).toArray⟩ ≤ 8000000 := by
    have := fixE_len x.cps.toList
    have hx : x.cps.size ≤ 4000000 := hz
    show (fixE x.cps.toList).toArray.size ≤ _
    simp only [List.size_toArray, Array.length_toList] at *; omega
  k_steps
  exact h _ _ _ (Fr.keep (by assumption))

set_option maxHeartbeats 8000000 in
theorem quote_periods {prog p : Program} {loose : List Str} {w : World} {A : Around} {s : Shared} {mean : ExcName → Option Value} {mg mb : Str → Option Value} {b : Array UInt8} {t : Tok} {R : Result → Shared → Prop}
    (KX : (hd.heap_39 w.params).In s.heap) (T : Top p loose mean mg mb s.heap) (hroom : A.depth < 900) (hz : b.size ≤ 8000000)
    (h : ∀ t' h' tk', Keeps s.heap h' → R (.ok (.ret (.bytes ((dotE true (b.toList.map (·.toNat))).toArray.map (·.toUInt8)) t'))) { s with heap := h', toks := tk' }) :
    codeAny (model prog w) A (.call (.ref 67) ⟨[.bytes b t], []⟩) R s := by
  refine call_own [(Str.ofString "bindata", .bytes b t)] KX T (by omega) (by k_is) (by k_is) rfl rfl (fun L h₁ hL F N => ?_)
  dsimp only [bnd, List.reverse, List.reverseAux] at F
  k_steps
  exact h _ _ _ (Fr.keep (by assumption))
end Mine
end

section
open PySem PySem.W PyProof.Rows PySem.Calls
set_option maxRecDepth 100000
namespace Mine
theorem fill2 : PySem.Challenge.rw_pk0010_01 = PySem.Challenge.rw_pk0010_01 ∧ hd.heap_39 = hd.heap_39 := by
  k_fill
  exact ⟨rfl, rfl⟩

def Asc (l : List Nat) : Prop := ∀ c ∈ l, c < 128
def bOf (l : List Nat) : Array UInt8 := l.toArray.map (·.toUInt8)
theorem u8_back {c : Nat} (h : c < 128) : c.toUInt8.toNat = c := by
  show (UInt8.ofNat c).toNat = c
  rw [UInt8.toNat_ofNat']
  omega
theorem bOf_back {l : List Nat} (h : Asc l) : (bOf l).toList.map (·.toNat) = l := by
  unfold bOf
  simp only [Array.toList_map, List.map_map]
  conv => rhs; rw [← List.map_id l]
  exact List.map_congr_left fun c hc => u8_back (h c hc)
theorem bOf_low {l : List Nat} (h : Asc l) : ∀ c ∈ bOf l, c.toNat < 128 := by
  intro c hc
  unfold bOf at hc
  obtain ⟨d, hd, rfl⟩ := Array.mem_map.mp hc
  rw [u8_back (h d (by simpa using hd))]; exact h d (by simpa using hd)
theorem bOf_size (l : List Nat) : (bOf l).size = l.length := by simp [bOf]
theorem asc_fix : ∀ {l : List Nat}, Asc l → Asc (fixE l)
  | [], h => by intro c hc; simp [fixE] at hc
  | [c], h => by
    intro d hd
    rw [fixE] at hd
    split at hd
    · simp at hd; omega
    · exact h d hd
  | c :: d :: r, h => by
    have h1 : Asc (fixE r) := asc_fix fun x hx => h x (.tail _ (.tail _ hx))
    have h2 : Asc (fixE (d :: r)) := asc_fix fun x hx => h x (.tail _ hx)
    have hc : c < 128 := h c (.head _)
    intro x hx
    rw [fixE] at hx
    split at hx
    · rcases List.mem_cons.mp hx with rfl | hx
      · omega
      · rcases List.mem_cons.mp hx with rfl | hx
        · omega
        · exact h1 x hx
    · split at hx
      · rcases List.mem_cons.mp hx with rfl | hx
        · omega
        · rcases List.mem_cons.mp hx with rfl | hx
          · omega
          · exact h2 x hx
      · rcases List.mem_cons.mp hx with rfl | hx
        · omega
        · exact h2 x hx
theorem asc_dot : ∀ {b : Bool} {l : List Nat}, Asc l → Asc (dotE b l)
  | _, [], h => by intro c hc; simp [dotE] at hc
  | b, c :: r, h => by
    intro x hx
    rw [dotE] at hx
    rcases List.mem_append.mp hx with hx | hx
    · split at hx
      · simp at hx; omega
      · rw [List.mem_singleton.mp hx]; exact h c (.head _)
    · exact asc_dot (fun y hy => h y (.tail _ hy)) x hx

section
variable {prog p : Program} {loose : List Str} {w : World} {A : Around} {E : Value → Shared → Prop} {s : Shared} {mean : ExcName → Option Value} {mg mb : Str → Option Value} {h₀ : Heap} {L : Addr} {m : Str → Option Value} {news : List (Addr × Obj)}
theorem fr_fix_eols {l : List Nat} {t : Tok} {Q : Value → Shared → Prop} (F : Fr h₀ L s.heap m) (N : News h₀ L s.heap news) (KX : (hd.heap_39 w.params).In h₀) (T : Top p loose mean mg mb h₀) (hroom : A.depth < 900) (hz : l.length ≤ 8000000)
    (h : ∀ t' h' tk', Fr h₀ L h' m → News h₀ L h' news → Q (.str ⟨(fixE l).toArray⟩ t') { s with heap := h', toks := tk' }) : wpAny (model prog w) A (call (.ref 74) [.str ⟨l.toArray⟩ t]) Q E s :=
  wpAny_call (fix_eols (KX.keeps F.keep) (T.keeps F.keep) hroom (by show l.toArray.size ≤ _; simpa using hz) fun t' h' tk' k => h t' h' tk' (F.after k) (N.grown k))
theorem fr_quotedata {l : List Nat} {t : Tok} {Q : Value → Shared → Prop} (F : Fr h₀ L s.heap m) (N : News h₀ L s.heap news) (KX : (hd.heap_39 w.params).In h₀) (T : Top p loose mean mg mb h₀) (hroom : A.depth < 900) (hz : l.length ≤ 4000000)
    (h : ∀ t' h' tk', Fr h₀ L h' m → News h₀ L h' news → Q (.str ⟨(dotE true (fixE l)).toArray⟩ t') { s with heap := h', toks := tk' }) : wpAny (model prog w) A (call (.ref 60) [.str ⟨l.toArray⟩ t]) Q E s :=
  wpAny_call (quotedata (KX.keeps F.keep) (T.keeps F.keep) hroom (by show l.toArray.size ≤ _; simpa using hz) fun t' h' tk' k => h t' h' tk' (F.after k) (N.grown k))
theorem fr_quote_periods {l : List Nat} {t : Tok} {Q : Value → Shared → Prop} (F : Fr h₀ L s.heap m) (N : News h₀ L s.heap news) (KX : (hd.heap_39 w.params).In h₀) (T : Top p loose mean mg mb h₀) (hroom : A.depth < 900) (hl : Asc l) (hz : l.length ≤ 8000000)
    (h : ∀ t' h' tk', Fr h₀ L h' m → News h₀ L h' news → Q (.bytes (bOf (dotE true l)) t') { s with heap := h', toks := tk' }) : wpAny (model prog w) A (call (.ref 67) [.bytes (bOf l) t]) Q E s :=
  wpAny_call (quote_periods (KX.keeps F.keep) (T.keeps F.keep) hroom (by rw [bOf_size]; exact hz) fun t' h' tk' k => by rw [bOf_back hl]; exact h t' h' tk' (F.after k) (N.grown k))
theorem encode_l {l : List Nat} {t u : Tok} {Q : Value → Shared → Prop} (hl : Asc l) (hz : l.length ≤ 16777216) (h : ∀ t' k, Q (.bytes (bOf l) t') { s with toks := k }) :
    wpAny (model prog w) A (call (.builtin "str.encode") [.str ⟨l.toArray⟩ t, .str (Str.ofString "ascii") u]) Q E s :=
  encode_any (fun c hc => hl c (by simpa using hc)) (by show l.toArray.size ≤ _; simpa using hz) h
theorem decode_l {l : List Nat} {t u : Tok} {Q : Value → Shared → Prop} (hl : Asc l) (hz : l.length ≤ 16777216) (h : ∀ t' k, Q (.str ⟨l.toArray⟩ t') { s with toks := k }) :
    wpAny (model prog w) A (call (.builtin "bytes.decode") [.bytes (bOf l) t, .str (Str.ofString "ascii") u]) Q E s := by
  refine decode_any (bOf_low hl) (by rw [bOf_size]; exact hz) fun t' k => ?_
  rw [show (bOf l).map (·.toNat) = l.toArray from by
    apply Array.toList_inj.mp
    rw [Array.toList_map, bOf_back hl]]
  exact h t' k
end
theorem encode_method {M : Model} {A : Around} {E : Value → Shared → Prop} {s : Shared} {x : Str} {t : Tok} {pl : Sem Bool} {Q : Value × List Value → Shared → Prop} (h : Q (.builtin "str.encode", [.str x t]) s) : wpAny M A (getMethod (.str x t) "encode" pl) Q E s := by
  with_reducible exact GM.of (.str x t) (typeIs_str _ _ _) F.slot_str_encode F.type_str_encode GM.noRef h

local macro_rules | `(tactic| walk_at "getMethod str") => `(tactic| (refine encode_method ?_))
local macro_rules | `(tactic| walk_at "getMethod bytes") => `(tactic| (refine KBd.method ?_))
local macro_rules | `(tactic| walk_at "call builtin:str.encode") => `(tactic| (refine encode_l (by assumption) (by omega) ?_; intro _ _))
local macro_rules | `(tactic| walk_at "call builtin:bytes.decode") => `(tactic| (refine decode_l (by assumption) (by omega) ?_; intro _ _))
local macro_rules | `(tactic| walk_at "call ref") => `(tactic| first
  | (refine fr_quotedata (by assumption) (by assumption) (by assumption) (by assumption) (by simp only [depth_deeper]; omega) (by omega) ?_; intro _ _ _ _ _)
  | (refine fr_quote_periods (by assumption) (by assumption) (by assumption) (by assumption) (by simp only [depth_deeper]; omega) (by assumption) (by omega) ?_; intro _ _ _ _ _)
  | (refine fr_fix_eols (by assumption) (by assumption) (by assumption) (by assumption) (by simp only [depth_deeper]; omega) (by omega) ?_; intro _ _ _ _ _))

/-- what a sending makes of a text -/
def sentE (way : Int) (l : List Nat) : List Nat := if way = 0 ∨ way = 1 then dotE true (fixE l) else fixE (dotE true l)

set_option maxHeartbeats 8000000 in
theorem law_sent {prog p : Program} {loose : List Str} {w : World} {A : Around} {s : Shared} {mean : ExcName → Option Value} {mg mb : Str → Option Value} {l : List Nat} {way : Int} {t u : Tok} {R : Result → Shared → Prop}
    (KX : (hd.heap_39 w.params).In s.heap) (T : Top p loose mean mg mb s.heap) (hroom : A.depth < 800) (hz : l.length ≤ 1000000) (hx : Asc l)
    (h : ∀ t' h' tk', Keeps s.heap h' → R (.ok (.ret (.str ⟨(sentE way l).toArray⟩ t'))) { s with heap := h', toks := tk' }) :
    codeAny (model prog w) A (.call (.ref 86) ⟨[.str ⟨l.toArray⟩ t, .int way u], []⟩) R s := by
  refine call_own [(Str.ofString "text", .str ⟨l.toArray⟩ t), (Str.ofString "way", .int way u)] KX T (by omega) (by k_is) (by k_is) rfl rfl (fun L h₁ hL F N => ?_)
  dsimp only [bnd, List.reverse, List.reverseAux] at F
  have a1 := asc_fix hx
  have a2 : Asc (dotE true l) := asc_dot hx
  have a3 : Asc (dotE true (fixE l)) := asc_dot a1
  have n1 := fixE_len l
  have n2 := dotE_len true l
  have n3 := dotE_len true (fixE l)
  k_steps
  · have : sentE way l = dotE true (fixE l) := by unfold sentE; rw [if_pos (by omega)]
    rw [← this]; exact h _ _ _ (Fr.keep (by assumption))
  · have : sentE way l = dotE true (fixE l) := by unfold sentE; rw [if_pos (by omega)]
    rw [← this]; exact h _ _ _ (Fr.keep (by assumption))
  · have : sentE way l = fixE (dotE true l) := by unfold sentE; rw [if_neg (by omega)]
    rw [← this]; exact h _ _ _ (Fr.keep (by assumption))
end Mine
end

section
open PySem PySem.W PyProof.Rows PySem.Calls
set_option maxRecDepth 100000
namespace Mine

section
variable {prog : Program} {w : World} {A : Around} {h₀ : Heap} {L : Addr} {m : Str → Option Value} {env : Env} {ct elt : Expr} {x : Str} {scope : Scope} {cl : List (Str × Addr)} {s : Shared} {S : List (Addr × Obj) → Prop} {P : Nat → Value → Prop} {Fin : List Value → List (Addr × Obj) → Prop} {news : List (Addr × Obj)}

/-- the turns of a comprehension: each item as it is told -/
theorem rest_any {n : Nat} (Rel : Nat → Value → Prop)
    (turn : ∀ i v I oI C oC D m₂ ys h tk (E' : Value → Shared → Prop), i < n → P i v → LCg.NsObj oC m₂ → m₂ x = some v → Fr h₀ L h m → News h₀ L h ((I, oI) :: (C, oC) :: (D, LCg.lst ys) :: news) → LCg.Off3 I C D news →
      wpAny (model prog w) A (eval elt (compEnvC scope cl C env)) (LCg.CompEnd h₀ L m { s with heap := h, toks := tk } I oI C oC D (LCg.lst ys) S (fun y news' => news' = news ∧ Rel i y)) E' { s with heap := h, toks := tk })
    (fin : ∀ ys : List Value, ys.length = n → (∀ i y, ys[i]? = some y → Rel i y) → Fin ys news) : LCg.CompRest prog w A h₀ L m env elt x scope cl s S P Fin n 0 [] news := by
  have key : ∀ (j i : Nat) (ys : List Value), i + j = n → ys.length = i → (∀ k y, ys[k]? = some y → Rel k y) → LCg.CompRest prog w A h₀ L m env elt x scope cl s S P Fin j i ys news := by
    intro j
    induction j with
    | zero =>
      intro i ys hi hl hy
      exact LCg.CompRest.zero (fin ys (by omega) hy)
    | succ j ih =>
      intro i ys hi hl hy
      refine LCg.CompRest.succ ?_
      intro v I oI C oC D m₂ h tk E' hv hC hx F N off ne
      refine wpAny_mono (turn i v I oI C oC D m₂ ys h tk E' (by omega) hv hC hx F N off) (fun y s₂ hq => ?_) fun _ _ e => e
      obtain ⟨h', tk', nw, e, F', N', off', hS, hn, hr⟩ := hq
      rw [hn] at N' off' hS
      refine ⟨h', tk', news, e, F', N', off', hS, ?_⟩
      refine ih (i + 1) _ (by omega) (by simp [hl]) ?_
      intro k z hz
      rw [List.getElem?_append] at hz
      split at hz
      · exact hy k z hz
      · have hk : k = i := by
          rename_i hnl
          by_cases e1 : k - ys.length = 0
          · omega
          · obtain ⟨d, hd⟩ := Nat.exists_eq_succ_of_ne_zero e1
            rw [hd] at hz; cases hz
        subst hk
        rw [hl, Nat.sub_self] at hz
        cases hz; exact hr
  exact key n 0 [] (by omega) rfl (fun k y hy => by cases hy)

/-- the same with a test: which places pass is told by p -/
theorem restT_any {n : Nat} (p : Nat → Bool) (Rel : Nat → Value → Prop)
    (turn : ∀ i v I oI C oC D m₂ ys h tk (E' : Value → Shared → Prop), i < n → P i v → LCg.NsObj oC m₂ → m₂ x = some v → Fr h₀ L h m → News h₀ L h ((I, oI) :: (C, oC) :: (D, LCg.lst ys) :: news) → LCg.Off3 I C D news →
      wpAny (model prog w) A (isTrue ct (compEnvC scope cl C env) (eval ct (compEnvC scope cl C env))) (fun ok s' => if ok = true then
        p i = true ∧ wpAny (model prog w) A (eval elt (compEnvC scope cl C env)) (LCg.CompEnd h₀ L m { s with heap := h, toks := tk } I oI C oC D (LCg.lst ys) S (fun y news' => news' = news ∧ Rel i y)) E' s'
        else p i = false ∧ LCg.CompEnd h₀ L m { s with heap := h, toks := tk } I oI C oC D (LCg.lst ys) S (fun _ news' => news' = news) Value.none s') E' { s with heap := h, toks := tk })
    (fin : ∀ ys : List Value, (∃ ks : List Nat, ks = (List.range n).filter p ∧ List.length ys = ks.length ∧ ∀ (j : Nat) (y : Value) (k : Nat), ys[j]? = some y → ks[j]? = some k → Rel k y) → Fin ys news) : LCt.CompRestT prog w A h₀ L m env ct elt x scope cl s S P Fin n 0 [] news := by
  have key : ∀ (j i : Nat) (ys : List Value), i + j = n → (ys.length = ((List.range i).filter p).length) → (∀ (j : Nat) (y : Value) (k : Nat), ys[j]? = some y → ((List.range i).filter p)[j]? = some k → Rel k y) → LCt.CompRestT prog w A h₀ L m env ct elt x scope cl s S P Fin j i ys news := by
    intro j
    induction j with
    | zero =>
      intro i ys hi hl hy
      obtain rfl : i = n := by omega
      exact LCt.CompRestT.zero (fin ys ⟨_, rfl, hl, hy⟩)
    | succ j ih =>
      intro i ys hi hl hy
      refine LCt.CompRestT.succ ?_
      intro v I oI C oC D m₂ h tk E' hv hC hx F N off ne
      refine wpAny_mono (turn i v I oI C oC D m₂ ys h tk E' (by omega) hv hC hx F N off) (fun ok s₁ h₁ => ?_) fun _ _ e => e
      cases ok with
      | true =>
        simp only [if_true] at h₁ ⊢
        obtain ⟨hp, h₁⟩ := h₁
        have er : (List.range (i + 1)).filter p = (List.range i).filter p ++ [i] := by rw [List.range_succ, List.filter_append]; simp [hp]
        refine wpAny_mono h₁ (fun y s₂ hq => ?_) fun _ _ e => e
        obtain ⟨h', tk', nw, e, F', N', off', hS, hn, hr⟩ := hq
        rw [hn] at N' off' hS
        refine ⟨h', tk', news, e, F', N', off', hS, ?_⟩
        refine ih (i + 1) _ (by omega) (by rw [er]; simp [hl]) ?_
        intro j' z k hz hk
        rw [er] at hk
        rw [List.getElem?_append] at hz hk
        rw [← hl] at hk
        split at hz
        · rename_i hlt
          rw [if_pos hlt] at hk
          exact hy j' z k hz hk
        · rename_i hnl
          rw [if_neg hnl] at hk
          by_cases e1 : j' - ys.length = 0
          · rw [e1] at hz hk
            cases hz; cases hk; exact hr
          · obtain ⟨d, hd⟩ := Nat.exists_eq_succ_of_ne_zero e1
            rw [hd] at hz; cases hz
      | false =>
        simp only [Bool.false_eq_true, if_false] at h₁ ⊢
        obtain ⟨hp, h₁⟩ := h₁
        have er : (List.range (i + 1)).filter p = (List.range i).filter p := by rw [List.range_succ, List.filter_append]; simp [hp]
        obtain ⟨h', tk', nw, e, F', N', off', hS, hn⟩ := h₁
        rw [hn] at N' off' hS
        refine ⟨h', tk', news, e, F', N', off', hS, ?_⟩
        exact ih (i + 1) _ (by omega) (by rw [er]; exact hl) (by rw [er]; exact hy)
  exact key n 0 [] (by omega) rfl (fun k y _ hy => by cases hy)
end
end Mine
end

section
open PySem PySem.W PyProof.Rows PySem.Calls
set_option maxRecDepth 100000
namespace Mine
theorem fill3 : PySem.Challenge.rw_pk0010_01 = PySem.Challenge.rw_pk0010_01 ∧ hd.heap_39 = hd.heap_39 := by
  k_fill
  exact ⟨rfl, rfl⟩

theorem item_at {prog : Program} {w : World} {A : Around} {E : Value → Shared → Prop} {s : Shared} {value slice : PySem.Expr} {l : Addr} {vs : List Value} {k : Int} {u : Tok} {v : Value} {Q : Value → Shared → Prop}
    (hl : s.heap.IsList l vs.toArray) (hx : vs[k.toNat]? = some v) (h0 : 0 ≤ k) (hb : vs.length ≤ 1000000) (h : Q v s)
    (hs : subscripted slice false (.ref l) (.int k u) = operate [.ref l, .int k u] (getItem (.ref l) (.int k u)) := by with_unfolding_all rfl) :
    wpAny (model prog w) A (subscriptTail value slice (.ref l) (.int k u)) Q E s := by
  have hk : k.toNat < vs.length := by
    rcases Nat.lt_or_ge k.toNat vs.length with h | h
    · exact h
    · rw [List.getElem?_eq_none h] at hx; cases hx
  exact tail_any hl.typeIs slot_list_getitem.lookup (wpAny_getItem_list hl h0 (by omega) (by simpa using hx) h) hs

theorem strs_at : ∀ {vs : List Value} {xs : List Str}, StrsAre vs xs → ∀ {i : Nat}, i < xs.length → ∃ t, vs[i]? = some (.str (xs.getD i Str.empty) t)
  | _, _, .nil, _, h => absurd h (Nat.not_lt_zero _)
  | _, _, .cons y t _, 0, _ => ⟨t, rfl⟩
  | _, _, .cons y t r, i + 1, h => by
    obtain ⟨u, hu⟩ := strs_at r (i := i) (by simpa using h)
    exact ⟨u, by simpa using hu⟩
theorem ints_of : ∀ {ys : List Value} {ks : List Int}, ys.length = ks.length → (∀ (j : Nat) (y : Value) (k : Int), ys[j]? = some y → ks[j]? = some k → ∃ t, y = .int k t) → IntsAre ys ks
  | [], [], _, _ => .nil
  | [], _ :: _, h, _ => by simp at h
  | _ :: _, [], h, _ => by simp at h
  | y :: ys, k :: ks, h, hr => by
    obtain ⟨t, rfl⟩ := hr 0 y k rfl rfl
    exact .cons k t (ints_of (by simpa using h) fun j y' k' h1 h2 => hr (j + 1) y' k' (by simpa using h1) (by simpa using h2))
theorem strs_of : ∀ {ys : List Value} {ks : List Str}, ys.length = ks.length → (∀ (j : Nat) (y : Value) (k : Str), ys[j]? = some y → ks[j]? = some k → ∃ t, y = .str k t) → StrsAre ys ks
  | [], [], _, _ => .nil
  | [], _ :: _, h, _ => by simp at h
  | _ :: _, [], h, _ => by simp at h
  | y :: ys, k :: ks, h, hr => by
    obtain ⟨t, rfl⟩ := hr 0 y k rfl rfl
    exact .cons k t (strs_of (by simpa using h) fun j y' k' h1 h2 => hr (j + 1) y' k' (by simpa using h1) (by simpa using h2))

local macro_rules | `(tactic| walk_at "call builtin:len") => `(tactic| ((with_reducible show wpAny _ _ (call (Value.builtin "len") [Value.ref _]) _ _ _); refine Calls.call_len_list (by is_list) (by simp only [List.size_toArray]; omega) ?_))
local macro_rules | `(tactic| walk_at "call builtin:len") => `(tactic| ((with_reducible show wpAny _ _ (call (Value.builtin "len") [Value.str _ _]) _ _ _); refine len_str (by omega) ?_))
local macro_rules | `(tactic| walk_at "subscriptTail") => `(tactic| ((with_reducible show wpAny _ _ (subscriptTail _ _ (Value.ref _) (Value.int _ _)) _ _ _); refine item_at (by is_list) (by assumption) (by omega) (by omega) ?_ (by with_unfolding_all rfl)))

theorem small_one {a b : Int} (ha : 0 ≤ a) (ha' : a ≤ 1000000000) (hb : 0 ≤ b) (hb' : b ≤ 1000000000) : Builtin.Range.small a b 1 = true := by
  have hn := rangeSize_nat a b
  unfold Builtin.Range.small Builtin.Range.rangeFitsLong
  rw [hn]
  simp only [Bool.and_eq_true, Bool.or_eq_true, decide_eq_true_eq, gt_iff_lt, Int.zero_lt_one, if_true]
  omega
def IsI (k : Int) (y : Value) : Prop := ∃ t, y = .int k t
def IsS (x : Str) (y : Value) : Prop := ∃ t, y = .str x t
/-- the places whose row has more than sixteen signs -/
def readyOf (xs : List Str) : List Int := ((List.range (xs.length - 1)).filter fun (i : Nat) => decide (16 < (xs.getD (i + 1) Str.empty).length)).map fun (i : Nat) => ((i : Int) + 1)

set_option maxHeartbeats 8000000 in
theorem law_ready {prog p : Program} {loose : List Str} {w : World} {A : Around} {s : Shared} {mean : ExcName → Option Value} {mg mb : Str → Option Value} {l : Addr} {vs : List Value} {xs : List Str} {R : Result → Shared → Prop}
    (KX : (hd.heap_39 w.params).In s.heap) (T : Top p loose mean mg mb s.heap) (hroom : A.depth < 500) (hh : A.handled = none) (hl : s.heap.IsList l vs.toArray) (hs : StrsAre vs xs) (hz : xs.length ≤ 1000) (hx : ∀ x ∈ xs, x.length ≤ 1000000)
    (h : ∀ D ys h' tk', Keeps s.heap h' → s.heap.get? D = none → h'.get? D = some (LCg.lst ys) → IntsAre ys (readyOf xs) → R (.ok (.ret (.ref D))) { s with heap := h', toks := tk' }) :
    codeAny (model prog w) A (.call (.ref 96) ⟨[.ref l], []⟩) R s := by
  have hlen : vs.length = xs.length := StrsAre.length hs
  refine call_ownC [(Str.ofString "rows", .ref l)] KX T (by omega) (by k_is) (by k_is) rfl rfl (by decide +kernel) (fun L h₁ tk cells hL F N Y => ?_)
  obtain ⟨o, rfl, d1⟩ := CellsAre.one Y
  clear Y
  have F' : Fr s.heap L h₁ (fun _ => none) := F
  have d1' : o.data = .cell (some (.ref l)) := d1
  clear F d1
  k_steps
  refine LCt.ListComp_T (F₀ := F') (by with_unfolding_all rfl) (by decide) (by rfl) (by decide) (by rfl) ?_
  k_steps
  refine LCt.CompSrcT.range (n := xs.length - 1) hh (by assumption) (by assumption) (by assumption) (small_one (by decide) (by decide) (by omega) (by simp only [List.size_toArray]; omega)) (by rw [rangeSize_nat, List.size_toArray]; omega) (by rw [sizeLine_eq]; omega) ?_
  intro g
  refine restT_any (fun i => decide (16 < (xs.getD (i + 1) Str.empty).length)) (fun i y => IsI ((i : Int) + 1) y) ?_ ?_
  · intro i v I oI C oC D m₂ ys h tk E' hi hv hC hx2 F2 N2 off2
    obtain ⟨t, rfl⟩ := hv
    obtain ⟨t', hat⟩ := strs_at hs (i := i + 1) (by omega)
    have hin : ((1 : Int) + (i : Int)).toNat = i + 1 := by omega
    have hxl : (xs.getD (i + 1) Str.empty).length ≤ 1000000 := by
      rw [List.getD_eq_getElem?_getD, List.getElem?_eq_getElem (by omega)]; exact hx _ (List.getElem_mem _)
    rw [← hin] at hxl
    simp only [LCg.Off3, and_true] at off2
    k_steps
    all_goals first
      | (rw [← hin]; exact decide_eq_true (by omega))
      | (rw [← hin]; exact decide_eq_false (by omega))
      | exact rfl
      | exact ⟨t, by rw [Int.add_comm]⟩
      | trace_state
  · intro ys hys
    obtain ⟨ks, hks, hl1, hr1⟩ := hys
    refine fun D h' tk' F2 N2 _ => h D ys h' tk' F2.keep ?_ ?_ ?_
    · exact (N2 _ (.head _)).2.2
    · exact (N2 _ (.head _)).1
    · unfold readyOf
      rw [← hks]
      refine ints_of (by simpa using hl1) fun j y k h1 h2 => ?_
      rw [List.getElem?_map] at h2
      cases hk : ks[j]? with
      | none => rw [hk] at h2; cases h2
      | some k' =>
        rw [hk] at h2
        cases h2
        exact hr1 j y k' h1 hk
end Mine
end

section
open PySem PySem.W PyProof.Rows PySem.Calls
set_option maxRecDepth 100000
namespace Mine
theorem fill4 : PySem.Challenge.rw_pk0010_01 = PySem.Challenge.rw_pk0010_01 ∧ hd.heap_39 = hd.heap_39 := by
  k_fill
  exact ⟨rfl, rfl⟩

/-- the letters of a number, the highest first -/
def apL (n : Nat) : List UInt8 := if _h : n = 0 then [] else apL (n / 16) ++ [(65 + n % 16).toUInt8]
termination_by n
decreasing_by omega

theorem fr_canon {h₀ h : Heap} {L : Addr} {m : Str → Option Value} (ps : List (Str × Value)) (F : Fr h₀ L h m) (hp : ∀ p ∈ ps, m p.1 = some p.2) : Fr h₀ L h (kstB m ps) := by
  have : kstB m ps = m := funext fun y => kstB_eq hp fun _ => rfl
  rw [this]; exact F

theorem apL_zero : apL 0 = [] := by rw [apL]; rfl
theorem apL_pos {n : Nat} (h : n ≠ 0) : apL n = apL (n / 16) ++ [(65 + n % 16).toUInt8] := by rw [apL, dif_neg h]
theorem apL_len : ∀ (j n : Nat), n < 16 ^ j → (apL n).length ≤ j
  | 0, n, h => by
    have : n = 0 := by simpa using h
    subst this; rw [apL_zero]; exact Nat.le_refl _
  | j + 1, n, h => by
    by_cases h0 : n = 0
    · subst h0; rw [apL_zero]; exact Nat.zero_le _
    · rw [apL_pos h0, List.length_append]
      have := apL_len j (n / 16) (by rw [Nat.pow_succ] at h; omega)
      simp only [List.length_singleton]; omega

section
variable {prog : Program} {w : World} {A : Around} {E : Value → Shared → Prop} {s : Shared} {value slice : PySem.Expr} {t : Tok} {h₀ : Heap} {L : Addr} {m : PySem.Str → Option Value} {news : List (Addr × Obj)} {l u : Value} {Q : Value → Shared → Prop} {k : Int}
theorem ap_pick (k : Int) (h0 : 0 ≤ k) (h1 : k < 16) : KBy.picked #[65, 66, 67, 68, 69, 70, 71, 72, 73, 74, 75, 76, 77, 78, 79, 80] (some k) (some (k + 1)) = #[(65 + k.toNat).toUInt8] := by
  obtain ⟨n, rfl⟩ := Int.eq_ofNat_of_zero_le h0
  have hn : n < 16 := by omega
  have key : ∀ n : Fin 16, KBy.picked #[65, 66, 67, 68, 69, 70, 71, 72, 73, 74, 75, 76, 77, 78, 79, 80] (some ((n.val : Nat) : Int)) (some (((n.val : Nat) : Int) + 1)) = #[(65 + ((n.val : Nat) : Int).toNat).toUInt8] := by decide +kernel
  exact key ⟨n, hn⟩
theorem ap_cut (hF : Fr h₀ L s.heap m) (hN : News h₀ L s.heap news) (hl : IsPart l (some k)) (hu : IsPart u (some (k + 1))) (h0 : 0 ≤ k) (h1 : k < 16)
    (h : ∀ h' t' tk, Fr h₀ L h' m → News h₀ L h' news → Q (.bytes #[(65 + k.toNat).toUInt8] t') { s with heap := h', toks := tk })
    (hs : subscripted slice false (.bytes #[65, 66, 67, 68, 69, 70, 71, 72, 73, 74, 75, 76, 77, 78, 79, 80] t) (.ref s.heap.objs.size) = operate [.ref s.heap.objs.size, .bytes #[65, 66, 67, 68, 69, 70, 71, 72, 73, 74, 75, 76, 77, 78, 79, 80] t] (getItem (.bytes #[65, 66, 67, 68, 69, 70, 71, 72, 73, 74, 75, 76, 77, 78, 79, 80] t) (.ref s.heap.objs.size)) := by with_unfolding_all rfl)
    (ht : ∀ r, letTemporaryGo value (.bytes #[65, 66, 67, 68, 69, 70, 71, 72, 73, 74, 75, 76, 77, 78, 79, 80] t) r = pure () := by intro _; with_unfolding_all rfl) :
    wpAny (model prog w) A (subscriptTail value slice (.bytes #[65, 66, 67, 68, 69, 70, 71, 72, 73, 74, 75, 76, 77, 78, 79, 80] t) (.ref s.heap.objs.size)) Q E { s with heap := s.heap.push { cls := .type "slice", data := .fields #[l, u, .none] } } :=
  KBc.slice_K hF hN rfl hl hu (by decide +kernel) (fun h' t' tk F N _ => by rw [ap_pick k h0 h1]; exact h h' t' tk F N) hs ht
end
theorem fmod16 (k : Nat) : ((k : Int).fmod 16) = ((k % 16 : Nat) : Int) := by rw [Int.fmod_eq_emod_of_nonneg _ (by decide)]; omega
theorem fdiv16 (k : Nat) : ((k : Int).fdiv 16) = ((k / 16 : Nat) : Int) := by rw [Int.fdiv_eq_ediv_of_nonneg _ (by decide)]; omega

local macro_rules | `(tactic| walk_at "subscriptTail") => `(tactic| ((with_reducible show wpAny _ _ (subscriptTail _ (Expr.Slice _ _ none _) (Value.bytes _ _) (Value.ref _)) _ _ _); (refine ap_cut (s := ⟨_, _, _, _, _⟩) (by assumption) (by assumption) (by constructor) (by constructor) (by rw [fmod16]; omega) (by rw [fmod16]; omega) ?_ (by with_unfolding_all rfl) (by intro _; with_unfolding_all rfl)); intro _ _ _ _ _))
local macro_rules | `(tactic| walk_at "binaryOp Add bytes bytes") => `(tactic| (refine KBy.add_bytes (by simp only [List.size_toArray, List.length_cons, List.length_nil]; omega) ?_; intro _ _))

set_option maxHeartbeats 8000000 in
theorem int2ap {prog p : Program} {loose : List Str} {w : World} {A : Around} {s : Shared} {mean : ExcName → Option Value} {mg mb : Str → Option Value} {n : Int} {t : Tok} {R : Result → Shared → Prop}
    (KX : (hd.heap_39 w.params).In s.heap) (T : Top p loose mean mg mb s.heap) (hroom : A.depth < 500) (hh : A.handled = none) (hn : n.natAbs < 2 ^ 400)
    (h : ∀ t' h' tk', Keeps s.heap h' → R (.ok (.ret (.bytes (apL n.natAbs).toArray t'))) { s with heap := h', toks := tk' }) :
    codeAny (model prog w) A (.call (.ref 38) ⟨[.int n t], []⟩) R s := by
  obtain ⟨ah, ad, af, ag, au⟩ := A
  obtain rfl : ah = none := hh
  replace hroom : ad < 500 := hroom
  refine call_own [(Str.ofString "num", .int n t)] KX T (by show ad < 900; omega) (by k_is) (by k_is) rfl rfl (fun L h₁ hL F N => ?_)
  dsimp only [bnd, List.reverse, List.reverseAux] at F
  repeat' ((fail_if_success (with_reducible show wpAny _ _ (exec (Stmt.While _ _ _ _) _) _ _ _)); (first | walk1 | (dsimp only; walk1)))
  have hab : (if n < 0 then -n else n) = (n.natAbs : Int) := by split <;> omega
  refine While_inv2 (n₀ := n.natAbs) (fun k m₁ nw => nw = [] ∧ ∃ vl, (∃ t₁, m₁ (Str.ofString "num") = some (.int (k : Int) t₁)) ∧ (∃ t₂, m₁ (Str.ofString "val") = some (.bytes (List.toArray vl) t₂)) ∧ (∃ t₃, m₁ (Str.ofString "AP") = some (.bytes #[65, 66, 67, 68, 69, 70, 71, 72, 73, 74, 75, 76, 77, 78, 79, 80] t₃)) ∧ apL n.natAbs = apL k ++ vl)
    (by assumption) (by assumption) ⟨rfl, [], ⟨_, by rw [← hab]; rfl⟩, ⟨_, rfl⟩, ⟨_, rfl⟩, by simp⟩ ?_
  intro k m₁ news₁ h₂ tk₂ F2 N2 hJ
  obtain ⟨rfl, vl, ⟨t₁, j1⟩, ⟨t₂, j2⟩, ⟨t₃, j3⟩, j4⟩ := hJ
  have F3 := fr_canon [(Str.ofString "num", .int (k : Int) t₁), (Str.ofString "val", .bytes vl.toArray t₂), (Str.ofString "AP", .bytes #[65, 66, 67, 68, 69, 70, 71, 72, 73, 74, 75, 76, 77, 78, 79, 80] t₃)] F2 (by
    intro p hp
    simp only [List.mem_cons, List.not_mem_nil, or_false] at hp
    rcases hp with rfl | rfl | rfl
    · exact j1
    · exact j2
    · exact j3)
  dsimp only [kstB] at F3
  clear F2
  have hvl : vl.length ≤ 100 := by
    have h1 := apL_len 100 n.natAbs (by rw [show (16 : Nat) ^ 100 = 2 ^ 400 from by decide +kernel]; exact hn)
    rw [j4, List.length_append] at h1; omega
  repeat' ((fail_if_success (with_reducible show WhileStep2 _ _ _ _ _ _ _ _)); (first | walk1 | (dsimp only; walk1)))
  · refine ⟨_, _, _, _, k / 16, rfl, by assumption, News.nil, by omega, rfl, [(65 + k % 16).toUInt8] ++ vl, ?_, ?_, ⟨_, rfl⟩, ?_⟩
    · exact ⟨_, by rw [← fdiv16]; rfl⟩
    · have e : (#[(65 + ((k : Int).fmod 16).toNat).toUInt8] ++ vl.toArray) = ([(65 + k % 16).toUInt8] ++ vl).toArray := by
        rw [fmod16, Int.toNat_natCast]
        apply Array.toList_inj.mp
        simp
      rw [← e]
      exact ⟨_, rfl⟩
    · rw [j4, apL_pos (by omega), List.append_assoc]
  · have hk0 : k = 0 := by omega
    subst hk0
    rw [apL_zero, List.nil_append] at j4
    rw [j4] at h
    exact h _ _ _ (Fr.keep (by assumption))
end Mine
end

section
open PySem PySem.W PyProof.Rows PySem.Calls
set_option maxRecDepth 100000
namespace Mine
section
variable {prog : Program} {w : World} {A : Around} {E : Value → Shared → Prop} {s : Shared} {Q : Value → Shared → Prop} {x y : Nat} {t u : Tok}
theorem fdiv_nat (x y : Nat) : ((x : Int).fdiv (y : Int)) = ((x / y : Nat) : Int) := by rw [Int.fdiv_eq_ediv_of_nonneg _ (by omega)]; exact (Int.natCast_ediv x y).symm
theorem fmod_nat (x y : Nat) : ((x : Int).fmod (y : Int)) = ((x % y : Nat) : Int) := by rw [Int.fmod_eq_emod_of_nonneg _ (by omega)]; exact (Int.natCast_emod x y).symm
theorem log2_lt {y : Nat} (h : y < 2 ^ 9000) : ((y : Nat) : Int).natAbs.log2 < 9000 := by
  rw [Int.natAbs_natCast]
  by_cases h0 : y = 0
  · subst h0; decide
  · exact (Nat.log2_lt h0).mpr h
theorem div_n (hy : 0 < y) (hz : y < 2 ^ 64) (h : Q (.int ((x / y : Nat) : Int) s.toks) { s with toks := s.toks + 1 }) : wpAny (model prog w) A (binaryOp .FloorDiv (.int (x : Int) t) (.int (y : Int) u)) Q E s :=
  floordiv_int (by omega) (by rw [fdiv_nat]; exact h) (.inl (PyProof.noPylong_of_log2 (log2_lt (Nat.lt_of_lt_of_le hz (Nat.pow_le_pow_right (by decide) (by decide))))))
theorem mod_n (hy : 0 < y) (h : Q (.int ((x % y : Nat) : Int) s.toks) { s with toks := s.toks + 1 }) : wpAny (model prog w) A (binaryOp .Mod (.int (x : Int) t) (.int (y : Int) u)) Q E s :=
  mod_int (by omega) (by rw [fmod_nat]; exact h)
theorem add_n (h : Q (.int ((x + y : Nat) : Int) s.toks) { s with toks := s.toks + 1 }) : wpAny (model prog w) A (binaryOp .Add (.int (x : Int) t) (.int (y : Int) u)) Q E s :=
  add_int (by rw [← Int.natCast_add]; exact h)
theorem iadd_n (h : Q (.int ((x + y : Nat) : Int) s.toks) { s with toks := s.toks + 1 }) : wpAny (model prog w) A (inplaceOp .Add (.int (x : Int) t) (.int (y : Int) u)) Q E s :=
  iadd_int (by rw [← Int.natCast_add]; exact h)
theorem mul_n (hx : x < 4294967296) (h : Q (.int ((x * y : Nat) : Int) s.toks) { s with toks := s.toks + 1 }) : wpAny (model prog w) A (binaryOp .Mult (.int (x : Int) t) (.int (y : Int) u)) Q E s :=
  PyProof.Rows.mul_int (by rw [← Int.natCast_mul]; exact h) (.of_left (PySem.intBits_le_64 (by omega) (by omega)))
theorem imul_n (hy : y < 4294967296) (h : Q (.int ((x * y : Nat) : Int) s.toks) { s with toks := s.toks + 1 }) : wpAny (model prog w) A (inplaceOp .Mult (.int (x : Int) t) (.int (y : Int) u)) Q E s :=
  PyProof.Rows.imul_int (by rw [← Int.natCast_mul]; exact h) (.of_right (PySem.intBits_le_64 (by omega) (by omega)))
theorem le_n {Q : Value → Shared → Prop} (h : Q (.bool (decide (x ≤ y))) s) : wpAny (model prog w) A (compareOp .LtE (.int (x : Int) t) (.int (y : Int) u)) Q E s := by
  refine PyProof.Rows.le_int ?_
  rw [show decide ((x : Int) ≤ (y : Int)) = decide (x ≤ y) from decide_eq_decide.mpr (by omega)]; exact h
theorem gt_n {Q : Value → Shared → Prop} (h : Q (.bool (decide (y < x))) s) : wpAny (model prog w) A (compareOp .Gt (.int (x : Int) t) (.int (y : Int) u)) Q E s := by
  refine PyProof.Rows.gt_int ?_
  rw [show decide ((y : Int) < (x : Int)) = decide (y < x) from decide_eq_decide.mpr (by omega)]; exact h
theorem mod16_n (h : Q (.int ((x % 16 : Nat) : Int) s.toks) { s with toks := s.toks + 1 }) : wpAny (model prog w) A (binaryOp .Mod (.int (x : Int) t) (.int 16 u)) Q E s := mod_n (y := 16) (by decide) h
theorem gt0_n (h : Q (.bool (decide (0 < x))) s) : wpAny (model prog w) A (compareOp .Gt (.int (x : Int) t) (.int 0 u)) Q E s := gt_n (y := 0) h
theorem imul16_n (h : Q (.int ((x * 16 : Nat) : Int) s.toks) { s with toks := s.toks + 1 }) : wpAny (model prog w) A (inplaceOp .Mult (.int (x : Int) t) (.int 16 u)) Q E s := imul_n (y := 16) (by decide) h
end
end Mine
end

section
open PySem PySem.W PyProof.Rows PySem.Calls
set_option maxRecDepth 100000
namespace Mine
theorem fill5 : PySem.Challenge.rw_pk0010_01 = PySem.Challenge.rw_pk0010_01 ∧ hd.heap_39 = hd.heap_39 := by
  k_fill
  exact ⟨rfl, rfl⟩

/-- what has grown when k places are looked at -/
def dueG (a b s : Nat) : Nat → Nat
  | 0 => 0
  | k + 1 => dueG a b s k + (if a / 16 ^ k % 16 + b / 16 ^ k % 16 > 0 then s * 16 ^ k else 0)
/-- how often place k goes off -/
def dueC (a b s k : Nat) : Nat := (a % 16 ^ (k + 1) + b % 16 ^ (k + 1) + dueG a b s (k + 1)) / 16 ^ (k + 1)

local macro_rules | `(tactic| walk_at "binaryOp FloorDiv int int") => `(tactic| (k_dflt (refine div_n (by first | assumption | omega) (by first | assumption | omega) ?_)))
local macro_rules | `(tactic| walk_at "binaryOp Mod int int") => `(tactic| (k_dflt (refine mod_n (by first | assumption | omega) ?_)))
local macro_rules | `(tactic| walk_at "binaryOp Add int int") => `(tactic| (k_dflt (refine add_n ?_)))
local macro_rules | `(tactic| walk_at "inplaceOp Add int int") => `(tactic| (k_dflt (refine iadd_n ?_)))
local macro_rules | `(tactic| walk_at "binaryOp Mult int int") => `(tactic| (k_dflt (refine mul_n (by omega) ?_)))
local macro_rules | `(tactic| walk_at "inplaceOp Mult int int") => `(tactic| (k_dflt (refine imul_n (by omega) ?_)))
local macro_rules | `(tactic| walk_at "compareOp LtE int int") => `(tactic| (k_dflt (refine le_n ?_)))
local macro_rules | `(tactic| walk_at "compareOp Gt int int") => `(tactic| (refine gt0_n ?_))
local macro_rules | `(tactic| walk_at "binaryOp Mod int int") => `(tactic| (refine mod16_n ?_))
local macro_rules | `(tactic| walk_at "inplaceOp Mult int int") => `(tactic| (refine imul16_n ?_))

section
variable {prog : Program} {w : World} {A : Around} {E : Value → Shared → Prop} {s : Shared} {h₀ : Heap} {L : Addr} {m : Str → Option Value}
theorem append_one {D : Addr} {vs : List Value} {n : Nat} {x : Value} {Q : Value → Shared → Prop} (F : Fr h₀ L s.heap m) (N : News h₀ L s.heap [(D, ({ cls := .type "list", data := .seq vs.toArray n } : Obj))]) (hz : vs.length ≤ 1000000)
    (h : ∀ h', Fr h₀ L h' m → News h₀ L h' [(D, ({ cls := .type "list", data := .seq (vs ++ [x]).toArray (n + 1) } : Obj))] → Q .none { s with heap := h' }) :
    wpAny (model prog w) A (call (.builtin "list.append") [.ref D, x]) Q E s := by
  have z := N _ (.head _)
  refine append_at z.1 (fun h' hs hD => h h' (F.change hs z.2.1 z.2.2) (fun p hp => ?_)) (by rw [sizeLine_eq, List.size_toArray]; omega)
  rw [List.mem_singleton.mp hp]
  exact ⟨by rw [hD, List.push_toArray], z.2⟩
end
local macro_rules | `(tactic| walk_at "call builtin:list.append") => `(tactic| (k_dflt (refine append_one (by assumption) (by assumption) (by omega) ?_); intro _ _ _))
local macro_rules | `(tactic| walk_at "subscriptTail") => `(tactic| ((with_reducible show wpAny _ _ (subscriptTail _ (Expr.Slice none none (some _) _) (Value.ref _) (Value.ref _)) _ _ _); (k_dflt (refine krv_lit (s := ⟨_, _, _, _, _⟩) (by assumption) (by assumption) (by is_list) (by constructor) rfl ?_ (by with_unfolding_all rfl) (by intro _; with_unfolding_all rfl) (by rw [sizeLine_eq, List.size_toArray]; omega))); intro _ _ _ _ _))
local macro_rules | `(tactic| walk_at "binaryOp Add ref ref") => `(tactic| ((have hLen9 := IntsAre.length (by assumption)); (k_dflt (refine add_arrays (by assumption) (by assumption) (by is_list) (by is_list) ?_ (by rw [sizeLine_eq]; simp only [List.size_toArray, List.length_cons, List.length_nil, List.length_reverse, List.length_map, List.length_range] at *; omega))); intro _ _ _))

theorem due_yes {a b sd k z : Nat} (hz : 16 ^ k = z) (h : 0 < a / z % 16 + b / z % 16) : dueG a b sd (k + 1) = dueG a b sd k + sd * z ∧ dueC a b sd k = (a % (z * 16) + b % (z * 16) + (dueG a b sd k + sd * z)) / (z * 16) := by
  have e : dueG a b sd (k + 1) = dueG a b sd k + sd * z := by
    show dueG a b sd k + (if a / 16 ^ k % 16 + b / 16 ^ k % 16 > 0 then sd * 16 ^ k else 0) = _
    rw [hz, if_pos h]
  refine ⟨e, ?_⟩
  unfold dueC
  rw [e, Nat.pow_succ, hz]
theorem due_no {a b sd k z : Nat} (hz : 16 ^ k = z) (h : ¬ 0 < a / z % 16 + b / z % 16) : dueG a b sd (k + 1) = dueG a b sd k ∧ dueC a b sd k = (a % (z * 16) + b % (z * 16) + dueG a b sd k) / (z * 16) := by
  have e : dueG a b sd (k + 1) = dueG a b sd k := by
    show dueG a b sd k + (if a / 16 ^ k % 16 + b / 16 ^ k % 16 > 0 then sd * 16 ^ k else 0) = _
    rw [hz, if_neg h]; rfl
  refine ⟨e, ?_⟩
  unfold dueC
  rw [e, Nat.pow_succ, hz]
theorem ints_more {vs : List Value} {a b sd k x : Nat} {t : Tok} (h : IntsAre vs ((List.range k).map fun i => (dueC a b sd i : Int))) (e : dueC a b sd k = x) : IntsAre (vs ++ [.int (x : Int) t]) ((List.range (k + 1)).map fun i => (dueC a b sd i : Int)) := by
  rw [List.range_succ, List.map_append, ← e]
  exact h.append (.cons _ t .nil)

theorem pow_le_of {k : Nat} (h : k ≤ 9) : 16 ^ k ≤ 68719476736 := by
  have : 16 ^ k ≤ 16 ^ 9 := Nat.pow_le_pow_right (by decide) h
  have e : (16 : Nat) ^ 9 = 68719476736 := by decide
  omega

set_option maxHeartbeats 2000000 in
theorem law_due {prog p : Program} {loose : List Str} {w : World} {A : Around} {s : Shared} {mean : ExcName → Option Value} {mg mb : Str → Option Value} {a b sd : Nat} {ta tb ts : Tok} {R : Result → Shared → Prop}
    (KX : (hd.heap_39 w.params).In s.heap) (T : Top p loose mean mg mb s.heap) (hroom : A.depth < 500) (hh : A.handled = none) (ha : a < 68719476736) (hb : b < 68719476736) (hsd : sd ≤ 3)
    (h : ∀ W T D ys e e' t h' tk', W ≤ 9 → (∀ j, j < W → (16 ^ j ≤ a ∨ 16 ^ j ≤ b)) → a < 16 ^ W → b < 16 ^ W → Keeps s.heap h' → s.heap.get? T = none → s.heap.get? D = none →
      h'.get? T = some { cls := .type "tuple", data := .seq #[.int ((a + b + dueG a b sd W : Nat) : Int) t, .ref D] e } → h'.get? D = some { cls := .type "list", data := .seq (List.toArray ys) e' } →
      IntsAre ys (0 :: ((List.range W).map fun i => (dueC a b sd i : Int)).reverse) → R (.ok (.ret (.ref T))) { s with heap := h', toks := tk' }) :
    codeAny (model prog w) A (.call (.ref 110) ⟨[.int (a : Int) ta, .int (b : Int) tb, .int (sd : Int) ts], []⟩) R s := by
  obtain ⟨ah, ad, af, ag, au⟩ := A
  obtain rfl : ah = none := hh
  replace hroom : ad < 500 := hroom
  refine call_own [(Str.ofString "a", .int (a : Int) ta), (Str.ofString "b", .int (b : Int) tb), (Str.ofString "sendings", .int (sd : Int) ts)] KX T (by show ad < 900; omega) (by k_is) (by k_is) rfl rfl (fun L h₁ hL F N => ?_)
  dsimp only [bnd, List.reverse, List.reverseAux, List.append] at F
  repeat' ((fail_if_success (with_reducible show wpAny _ _ (exec (Stmt.While _ _ _ _) _) _ _ _)); (first | walk1 | (dsimp only; walk1)))
  refine While_inv2 (n₀ := 10) (fun n m₁ nw => ∃ k D vs e, n = 10 - k ∧ k ≤ 9 ∧ (∀ j, j < k → (16 ^ j ≤ a ∨ 16 ^ j ≤ b)) ∧ nw = [(D, ({ cls := .type "list", data := .seq (List.toArray vs) e } : Obj))] ∧ IntsAre vs ((List.range k).map fun i => (dueC a b sd i : Int)) ∧
      (∃ t, m₁ (Str.ofString "size") = some (.int ((16 ^ k : Nat) : Int) t)) ∧ (∃ t, m₁ (Str.ofString "grown") = some (.int (dueG a b sd k : Int) t)) ∧ m₁ (Str.ofString "counts") = some (.ref D) ∧
      m₁ (Str.ofString "a") = some (.int (a : Int) ta) ∧ m₁ (Str.ofString "b") = some (.int (b : Int) tb) ∧ m₁ (Str.ofString "sendings") = some (.int (sd : Int) ts))
    (by assumption) (by assumption) ⟨0, _, [], _, rfl, by decide, fun j hj => absurd hj (Nat.not_lt_zero _), rfl, .nil, ⟨_, rfl⟩, ⟨_, rfl⟩, rfl, rfl, rfl, rfl⟩ ?_
  intro n m₁ news₁ h₂ tk₂ F2 N2 hJ
  obtain ⟨k, D, vs, e, rfl, hk, hlow, rfl, hvs, ⟨t₁, j1⟩, ⟨t₂, j2⟩, j3, j4, j5, j6⟩ := hJ
  have F3 := fr_canon [(Str.ofString "size", .int ((16 ^ k : Nat) : Int) t₁), (Str.ofString "grown", .int (dueG a b sd k : Int) t₂), (Str.ofString "counts", .ref D), (Str.ofString "a", .int (a : Int) ta), (Str.ofString "b", .int (b : Int) tb), (Str.ofString "sendings", .int (sd : Int) ts)] F2 (by
    intro p hp
    simp only [List.mem_cons, List.not_mem_nil, or_false] at hp
    rcases hp with rfl | rfl | rfl | rfl | rfl | rfl
    · exact j1
    · exact j2
    · exact j3
    · exact j4
    · exact j5
    · exact j6)
  dsimp only [kstB] at F3
  clear F2
  have hz0 : 0 < 16 ^ k := Nat.pow_pos (by decide)
  have hz1 := pow_le_of hk
  generalize hz : 16 ^ k = z at *
  have hk9 : k = 9 → z = 68719476736 := by rintro rfl; rw [← hz]
  have hz2 : 0 < z * 16 := by omega
  have hz3 : z < 2 ^ 64 := by omega
  have hz4 : z * 16 < 2 ^ 64 := by omega
  have hvl : vs.length = k := by have := hvs.length; simpa using this
  repeat' ((fail_if_success (with_reducible show WhileStep2 _ _ _ _ _ _ _ _)); (first | walk1 | (dsimp only; walk1)))
  all_goals first
    | (have hy := due_yes (a := a) (b := b) (sd := sd) hz (by assumption)
       refine ⟨_, _, _, _, 10 - (k + 1), rfl, by assumption, by assumption, by omega, k + 1, D, _, _, rfl, by omega, ?_, rfl, ints_more hvs hy.2, ⟨_, by rw [Nat.pow_succ, hz]; rfl⟩, ⟨_, by rw [hy.1]; rfl⟩, rfl, rfl, rfl, rfl⟩
       intro j hj
       by_cases hjk : j = k
       · subst hjk; rw [hz]; omega
       · exact hlow j (by omega))
    | (have hy := due_no (a := a) (b := b) (sd := sd) hz (by assumption)
       refine ⟨_, _, _, _, 10 - (k + 1), rfl, by assumption, by assumption, by omega, k + 1, D, _, _, rfl, by omega, ?_, rfl, ints_more hvs hy.2, ⟨_, by rw [Nat.pow_succ, hz]; rfl⟩, ⟨_, by rw [hy.1]; rfl⟩, rfl, rfl, rfl, rfl⟩
       intro j hj
       by_cases hjk : j = k
       · subst hjk; rw [hz]; omega
       · exact hlow j (by omega))
    | skip
  rename News _ _ _ _ => NE
  rename Fr _ _ _ _ => FE
  rename IntsAre _ (List.reverse _) => hIE
  exact h k _ _ _ _ _ _ _ _ hk hlow (by rw [hz]; omega) (by rw [hz]; omega) FE.keep (NE _ (.head _)).2.2 (NE _ (.tail _ (.head _))).2.2 (NE _ (.head _)).1 (NE _ (.tail _ (.head _))).1 (.cons 0 _ hIE)
end Mine
end

section
open PySem PySem.W PyProof.Rows PySem.Calls
set_option maxRecDepth 100000
namespace Mine
theorem fill6 : PySem.Challenge.rw_pk0010_01 = PySem.Challenge.rw_pk0010_01 ∧ hd.heap_39 = hd.heap_39 := by
  k_fill
  exact ⟨rfl, rfl⟩

/-- a number's letters, filled up by A's -/
def padA (w : Nat) (x : List UInt8) : List UInt8 := List.replicate (w - x.length) 65 ++ x
theorem padA_len {w : Nat} {x : List UInt8} (h : x.length ≤ w) : (padA w x).length = w := by simp [padA]; omega
/-- how many dots the letters at a place tell -/
def dotAt (x y : List UInt8) (i : Nat) : Int := (((padA (max x.length y.length) x).getD i 0).toNat : Int) + (((padA (max x.length y.length) y).getD i 0).toNat : Int) - 130
/-- the row for so many dots -/
def rowOf (c : Int) : Str := if 0 < c then ⟨(List.replicate (c + 1).toNat 46).toArray⟩ else Str.empty

theorem fold_dots (k : Nat) : ∀ acc : Array Nat, (List.replicate k #[46]).foldl (· ++ ·) acc = acc ++ (List.replicate k 46).toArray := by
  induction k with
  | zero => intro acc; simp
  | succ k ih =>
    intro acc
    rw [List.replicate_succ, List.foldl_cons, ih, List.replicate_succ]
    apply Array.toList_inj.mp; simp
theorem mul_dot {n : Int} : Txt.mul (Str.ofString ".") n = ⟨(List.replicate n.toNat 46).toArray⟩ := by
  have e : Str.ofString "." = ⟨#[46]⟩ := by decide
  rw [e]
  unfold Txt.mul
  by_cases h1 : n < 1
  · rw [if_pos h1, show n.toNat = 0 from by omega]; rfl
  · rw [if_neg h1]
    by_cases h2 : n = 1
    · subst h2; rfl
    · rw [if_neg (by simp [h2, Str.length])]
      congr 1
      show (List.replicate n.toNat #[46]).foldl (· ++ ·) #[] = _
      rw [fold_dots]; simp

section
variable {prog : Program} {w : World} {A : Around} {E : Value → Shared → Prop} {s : Shared} {h₀ : Heap} {L : Addr} {m : Str → Option Value} {news : List (Addr × Obj)} {Q : Value → Shared → Prop}
theorem max_nn {a b : Nat} {t u : Tok} (hh : A.handled = none) (F : Fr h₀ L s.heap m) (N : News h₀ L s.heap news)
    (h : ∀ h' tk t', Fr h₀ L h' m → News h₀ L h' news → Q (.int ((max a b : Nat) : Int) t') { s with heap := h', toks := tk }) : wpAny (model prog w) A (call (.builtin "max") [.int (a : Int) t, .int (b : Int) u]) Q E s :=
  max_two_N hh F N fun h' tk F' N' => by
    have e : (if (b : Int) > (a : Int) then (b : Int) else (a : Int)) = ((max a b : Nat) : Int) := by split <;> omega
    rw [e]; exact h h' tk _ F' N'
theorem lenB {x : List UInt8} {t : Tok} (hx : x.length ≤ 1000000) (h : Q (.int (x.length : Int) (s.toks + 1)) { s with toks := s.toks + 1 + 1 }) : wpAny (model prog w) A (call (.builtin "len") [.bytes x.toArray t]) Q E s :=
  len_bytes (by rw [List.size_toArray]; omega) (by rw [List.size_toArray]; exact h)
theorem mulA {n : Int} {t u : Tok} (hlo : -1048576 ≤ n) (hn : n ≤ 1048576) (h : ∀ t' k, Q (.bytes (List.replicate n.toNat (65 : UInt8)).toArray t') { s with toks := k }) : wpAny (model prog w) A (binaryOp .Mult (.bytes #[65] t) (.int n u)) Q E s := by
  refine bytes_mul_any (b := [65]) (by decide) hlo hn (by decide) fun t' k => ?_
  rw [show (List.replicate n.toNat [(65 : UInt8)]).flatten = List.replicate n.toNat 65 from by
    induction n.toNat with
    | zero => rfl
    | succ k ih => rw [List.replicate_succ, List.flatten_cons, ih, List.replicate_succ]; rfl]
  exact h t' k
theorem addB {x y : List UInt8} {t u : Tok} (hz : x.length + y.length ≤ 1000000) (h : ∀ t' k, Q (.bytes (x ++ y).toArray t') { s with toks := k }) : wpAny (model prog w) A (binaryOp .Add (.bytes x.toArray t) (.bytes y.toArray u)) Q E s := by
  refine KBy.add_bytes (by simp only [List.size_toArray]; omega) fun t' k => ?_
  rw [List.append_toArray]; exact h t' k
end
local macro_rules | `(tactic| walk_at "call builtin:max") => `(tactic| ((k_dflt (refine max_nn rfl (by assumption) (by assumption) ?_)); intro _ _ _ _ _))
local macro_rules | `(tactic| walk_at "call builtin:len") => `(tactic| ((with_reducible show wpAny _ _ (call (Value.builtin "len") [Value.bytes _ _]) _ _ _); (refine lenB (by omega) ?_)))
local macro_rules | `(tactic| walk_at "binaryOp Mult bytes int") => `(tactic| (k_dflt (refine mulA (by omega) (by omega) ?_); intro _ _))
local macro_rules | `(tactic| walk_at "binaryOp Add bytes bytes") => `(tactic| (k_dflt (refine addB (by simp only [List.length_replicate]; omega) ?_); intro _ _))

theorem itemB {prog : Program} {w : World} {A : Around} {E : Value → Shared → Prop} {s : Shared} {value slice : PySem.Expr} {Q : Value → Shared → Prop} {x : List UInt8} {i : Nat} {t ui : Tok} (hi : i < x.length) (hz : x.length ≤ 1000000) (h : Q (.int ((x.getD i 0).toNat : Int) s.toks) { s with toks := s.toks + 1 })
    (hs : subscripted slice false (.bytes x.toArray t) (.int (0 + (i : Int)) ui) = operate [.bytes x.toArray t, .int (0 + (i : Int)) ui] (getItem (.bytes x.toArray t) (.int (0 + (i : Int)) ui)) := by with_unfolding_all rfl)
    (ht : ∀ r, letTemporaryGo value (.bytes x.toArray t) r = pure () := by intro _; with_unfolding_all rfl) :
    wpAny (model prog w) A (subscriptTail value slice (.bytes x.toArray t) (.int (0 + (i : Int)) ui)) Q E s :=
  KBy.item_N (by omega) (by omega) (by omega) (by rw [show (0 + (i : Int)).toNat = i from by omega]; exact h) hs ht
local macro_rules | `(tactic| walk_at "subscriptTail") => `(tactic| ((with_reducible show wpAny _ _ (subscriptTail _ _ (Value.bytes _ _) (Value.int _ _)) _ _ _); k_dflt (refine itemB (by simp only [List.length_append, List.length_replicate]; omega) (by simp only [List.length_append, List.length_replicate]; omega) ?_ (by with_unfolding_all rfl) (by intro _; with_unfolding_all rfl))))

set_option maxHeartbeats 2000000 in
theorem law_rows {prog p : Program} {loose : List Str} {w : World} {A : Around} {s : Shared} {mean : ExcName → Option Value} {mg mb : Str → Option Value} {x y : List UInt8} {t u : Tok} {R : Result → Shared → Prop}
    (KX : (hd.heap_39 w.params).In s.heap) (T : Top p loose mean mg mb s.heap) (hroom : A.depth < 500) (hh : A.handled = none) (hx : x.length ≤ 100) (hy : y.length ≤ 100)
    (h : ∀ D ys e h' tk', Keeps s.heap h' → s.heap.get? D = none → h'.get? D = some { cls := .type "list", data := .seq (List.toArray ys) e } → StrsAre ys (Str.empty :: (List.range (max x.length y.length)).map fun i => rowOf (dotAt x y i)) → R (.ok (.ret (.ref D))) { s with heap := h', toks := tk' }) :
    codeAny (model prog w) A (.call (.ref 79) ⟨[.bytes x.toArray t, .bytes y.toArray u], []⟩) R s := by
  obtain ⟨ah, ad, af, ag, au⟩ := A
  obtain rfl : ah = none := hh
  replace hroom : ad < 500 := hroom
  refine call_ownC [(Str.ofString "one", .bytes x.toArray t), (Str.ofString "other", .bytes y.toArray u)] KX T (by show ad < 900; omega) (by k_is) (by k_is) rfl rfl (by decide +kernel) (fun L h₁ tk cells hL F N Y => ?_)
  obtain ⟨o1, o2, rfl, d1, d2⟩ := CellsAre.two Y
  clear Y
  have F' : Fr s.heap L h₁ (fun z => if z = Str.ofString "other" then some (.bytes y.toArray u) else if z = Str.ofString "one" then some (.bytes x.toArray t) else none) := F
  have d1' : o1.data = .cell none := d1
  have d2' : o2.data = .cell none := d2
  clear F d1 d2
  repeat' ((fail_if_success (with_reducible show wpAny _ _ (exec (Stmt.Assign _ (Expr.ListComp _ _ _ _) _) _) _ _ _)); (first | walk1 | (dsimp only; walk1)))
  have hW : max x.length y.length ≤ 100 := by omega
  refine LCg.Assign_ListComp_U (F₀ := by assumption) rfl (by with_unfolding_all rfl) (by with_unfolding_all rfl) (by decide) rfl (by decide) rfl rfl rfl ?_
  repeat' ((fail_if_success (with_reducible show LCg.CompSrc _ _ _ _ _ _ _ _ _ _ _ _ _ _)); (first | walk1 | (dsimp only; walk1)))
  refine LCg.CompSrc.range (n := max x.length y.length) rfl (by assumption) (by assumption) (by assumption) (small_one (by decide) (by decide) (by omega) (by omega)) (by rw [rangeSize_nat]; omega) (by rw [sizeLine_eq]; omega) ?_
  intro g
  refine rest_any (fun i v => IsI (dotAt x y i) v) ?_ ?_
  · intro i v I oI C oC D m₂ ys hp tk E' hi hv hC hx2 F2 N2 off2
    obtain ⟨t, rfl⟩ := hv
    simp only [LCg.Off3, and_true] at off2
    k_steps
    have e1 : (((max x.length y.length : Nat) : Int) - (x.length : Int)).toNat = max x.length y.length - x.length := by omega
    have e2 : (((max x.length y.length : Nat) : Int) - (y.length : Int)).toNat = max x.length y.length - y.length := by omega
    unfold dotAt padA
    rw [← e1, ← e2]
    exact ⟨_, rfl⟩
  · intro ys hyl hys D h' tk' F2 N2 off2
    simp only [LCg.Off1, and_true] at off2
    dsimp only
    repeat' ((fail_if_success (with_reducible show wpAny _ _ (eval (Expr.ListComp _ _ _ _) _) _ _ _)); (first | walk1 | (dsimp only; walk1)))
    refine LCg.ListComp_U (F₀ := by assumption) (by with_unfolding_all rfl) (by decide) (by rfl) (by decide) (by rfl) ?_
    repeat' ((fail_if_success (with_reducible show LCg.CompSrc _ _ _ _ _ _ _ _ _ _ _ _ _ _)); (first | walk1 | (dsimp only; walk1)))
    refine LCg.CompSrc.ledger rfl (by assumption) (by assumption) (by k_mem) (by rw [sizeLine_eq, List.size_toArray]; omega) ?_
    intro g2
    refine rest_any (fun i v => IsS (rowOf (dotAt x y i)) v) ?_ ?_
    · intro i v I oI C oC D2 m₂ zs h tk E' hi hv hC hx2 F3 N3 off3
      obtain ⟨t3, rfl⟩ := hys i v (by simpa using hv)
      have hb : dotAt x y i ≤ 380 := by
        unfold dotAt
        have h1 := UInt8.toNat_lt ((padA (max x.length y.length) x).getD i 0)
        have h2 := UInt8.toNat_lt ((padA (max x.length y.length) y).getD i 0)
        omega
      simp only [LCg.Off3, and_true] at off3
      k_steps
      · rw [mul_dot]; unfold rowOf; rw [if_pos (by assumption)]; exact ⟨_, rfl⟩
      · unfold rowOf; rw [if_neg (by assumption)]; exact ⟨_, rfl⟩
    · intro zs hzl hzs D2 h2 tk2 F3 N3 off3
      simp only [LCg.Off1, and_true] at off3
      have hzs' : StrsAre zs ((List.range (max x.length y.length)).map fun i => rowOf (dotAt x y i)) := by
        refine strs_of (by simp [hzl, hyl]) fun j z k h1 h2 => ?_
        have hj : j < max x.length y.length := by
          rcases Nat.lt_or_ge j zs.length with h | h
          · simpa [hzl, hyl] using h
          · rw [List.getElem?_eq_none h] at h1; cases h1
        rw [List.getElem?_map, List.getElem?_range hj] at h2
        cases h2
        exact hzs j z h1
      k_steps
      rename News _ _ _ _ => NE
      rename Fr _ _ _ _ => FE
      rename StrsAre _ _ => hzs'
      exact h _ _ _ _ _ FE.keep (NE _ (.head _)).2.2 (NE _ (.head _)).1 (.cons _ _ hzs')
end Mine
end

section
open PySem PySem.W PyProof.Rows PySem.Calls
set_option maxRecDepth 100000
namespace Mine
open PySem.StrLaws Builtin Builtin.Str

/-- no end of a row in it -/
def Clean (p : List Nat) : Prop := ∀ c ∈ p, c ≠ 10 ∧ c ≠ 13
/-- rows with both signs behind each, and what stands behind the last -/
def crlf (ps : List (List Nat)) (last : List Nat) : List Nat := (ps.map fun p => p ++ [13, 10]).flatten ++ last
theorem crlf_cons (p : List Nat) (ps : List (List Nat)) (last : List Nat) : crlf (p :: ps) last = p ++ 13 :: 10 :: crlf ps last := by simp [crlf]

def sepS : Str := ⟨#[13, 10]⟩

theorem at_sep (x : Str) (k : Nat) : At x sepS x.length k ↔ (x.cps.toList.drop k).take 2 = [13, 10] := by
  unfold At
  rw [subAt_eq]
  have e : (sepS.cps.toList) = [13, 10] := rfl
  have e2 : sepS.length = 2 := rfl
  rw [e, e2]
  constructor
  · intro h; simpa using h.2
  · intro h
    refine ⟨?_, by simpa using h⟩
    have := congrArg List.length h
    simp at this
    show k + 2 ≤ x.cps.size
    omega

theorem not_at_clean {x : Str} {a k : Nat} {p r : List Nat} (hx : x.cps.toList.drop a = p ++ r) (hp : Clean p) (h1 : a ≤ k) (h2 : k < a + p.length) : ¬ At x sepS x.length k := by
  rw [at_sep]
  intro h
  have e : x.cps.toList.drop k = (x.cps.toList.drop a).drop (k - a) := by rw [List.drop_drop]; congr 1; omega
  rw [e, hx, List.drop_append_of_le_length (by omega)] at h
  have hne : (p.drop (k - a)) ≠ [] := by
    intro hn; have := congrArg List.length hn; simp at this; omega
  obtain ⟨c, q, hq⟩ := List.exists_cons_of_ne_nil hne
  rw [hq] at h
  simp only [List.cons_append, List.take_succ_cons, List.cons.injEq] at h
  have hc : c ∈ p := List.mem_of_mem_drop (by rw [hq]; exact List.mem_cons_self)
  exact (hp c hc).2 h.1
theorem not_at_clean' {x : Str} {a k : Nat} {p : List Nat} (hx : x.cps.toList.drop a = p) (hp : Clean p) (h1 : a ≤ k) : ¬ At x sepS x.length k := by
  by_cases h2 : k < a + p.length
  · exact not_at_clean (r := []) (by simpa using hx) hp h1 h2
  · rw [at_sep]
    intro h
    have e : x.cps.toList.drop k = (x.cps.toList.drop a).drop (k - a) := by rw [List.drop_drop]; congr 1; omega
    rw [e, hx, List.drop_eq_nil_of_le (by omega)] at h
    cases h

theorem parts_crlf {x : Str} {last : List Nat} (hlast : Clean last) : ∀ (ps : List (List Nat)) (a f : Nat) (cuts : List Nat), (∀ p ∈ ps, Clean p) → x.cps.toList.drop a = crlf ps last → ChainG x sepS x.length a cuts f → (∀ k, f ≤ k → ¬ At x sepS x.length k) →
    (partsFrom x 2 a cuts).map (·.cps.toList) = ps ++ [last]
  | [], a, f, cuts, _, hx, hG, hn => by
    have hx' : x.cps.toList.drop a = last := by simpa [crlf] using hx
    cases cuts with
    | nil =>
      show [(strSub x a x.length).cps.toList] = [last]
      rw [strSub_toList, hx', List.take_of_length_le]
      have := congrArg List.length hx'
      simp at this
      show last.length ≤ x.cps.size - a
      omega
    | cons c r => exact absurd hG.2.1 (not_at_clean' hx' hlast hG.1)
  | p :: ps, a, f, cuts, hps, hx, hG, hn => by
    rw [crlf_cons] at hx
    have hp : Clean p := hps p List.mem_cons_self
    have hxl := congrArg List.length hx
    simp at hxl
    have hd : x.cps.toList.drop (a + p.length) = 13 :: 10 :: crlf ps last := by
      rw [← List.drop_drop, hx, List.drop_left]
    have hat : At x sepS x.length (a + p.length) := by rw [at_sep, hd]; rfl
    have hno : ∀ k, a ≤ k → k < a + p.length → ¬ At x sepS x.length k := fun k h1 h2 => not_at_clean hx hp h1 h2
    cases cuts with
    | nil =>
      have e : f = a := hG
      subst e
      exact absurd hat (hn _ (by omega))
    | cons c r =>
      have hc : c = a + p.length := by
        rcases Nat.lt_trichotomy c (a + p.length) with h | h | h
        · exact absurd hG.2.1 (hno c hG.1 h)
        · exact h
        · exact absurd hat (hG.2.2.1 _ (by omega) h)
      subst hc
      show (strSub x a (a + p.length)).cps.toList :: (partsFrom x 2 (a + p.length + 2) r).map (·.cps.toList) = p :: (ps ++ [last])
      have h1 : (strSub x a (a + p.length)).cps.toList = p := by
        rw [strSub_toList, hx, Nat.add_sub_cancel_left, List.take_left]
      have hd2 : x.cps.toList.drop (a + p.length + 2) = crlf ps last := by
        rw [← List.drop_drop, hd]; rfl
      rw [h1, parts_crlf hlast ps (a + p.length + 2) f r (fun q hq => hps q (List.mem_cons_of_mem _ hq)) hd2 hG.2.2.2 hn]

theorem split_crlf (ps : List (List Nat)) (last : List Nat) (hps : ∀ p ∈ ps, Clean p) (hlast : Clean last) (h255 : ∀ c ∈ crlf ps last, c < 128) :
    Txt.split ⟨(crlf ps last).toArray⟩ sepS = (ps ++ [last]).map fun p => (⟨p.toArray⟩ : Str) := by
  have key : (Txt.split ⟨(crlf ps last).toArray⟩ sepS).map (·.cps.toList) = ps ++ [last] := by
    obtain ⟨f, hG, hn⟩ := occ_tight (⟨(crlf ps last).toArray⟩ : Str) sepS (by decide)
    have hp := parts_crlf (x := ⟨(crlf ps last).toArray⟩) hlast ps 0 f _ hps (by simp) hG hn
    unfold Txt.split
    by_cases h1 : (decide ((⟨(crlf ps last).toArray⟩ : Str).length < sepS.length) || decide (Builtin.Str.strKind ⟨(crlf ps last).toArray⟩ < Builtin.Str.strKind sepS)) = true
    · rw [if_pos h1]
      have hlen : (crlf ps last).length < 2 := by
        rw [Bool.or_eq_true] at h1
        rcases h1 with h | h
        · have := of_decide_eq_true h
          have e : (⟨(crlf ps last).toArray⟩ : Str).length = (crlf ps last).length := by simp [Str.length]
          rw [e] at this; exact this
        · exfalso
          have := of_decide_eq_true h
          have e1 : Builtin.Str.strKind ⟨(crlf ps last).toArray⟩ = 1 := by
            unfold Builtin.Str.strKind
            rw [if_pos]
            rw [Array.all_eq_true_iff_forall_mem]
            intro c hc
            have := h255 c (by simpa using hc)
            exact decide_eq_true (by omega)
          rw [e1] at this
          have e2 : Builtin.Str.strKind sepS = 1 := by decide +kernel
          omega
      cases ps with
      | nil => simp [crlf]
      | cons p ps => rw [crlf_cons] at hlen; simp at hlen; omega
    · rw [if_neg h1]
      by_cases h2 : (Builtin.Str.occurrences ⟨(crlf ps last).toArray⟩ sepS 0 (⟨(crlf ps last).toArray⟩ : Str).length ((⟨(crlf ps last).toArray⟩ : Str).length + 1)).isEmpty = true
      · rw [if_pos h2]
        have h3 := List.isEmpty_iff.mp h2
        rw [h3] at hp
        rw [← hp]
        show [(crlf ps last)] = [(strSub (⟨(crlf ps last).toArray⟩ : Str) 0 _).cps.toList]
        rw [sub_whole]
      · rw [if_neg h2, partsBetween_eq]
        exact hp
  have back : ∀ (ss : List Str) (ls : List (List Nat)), ss.map (·.cps.toList) = ls → ss = ls.map fun p => (⟨p.toArray⟩ : Str) := by
    intro ss ls e
    subst e
    rw [List.map_map]
    conv => lhs; rw [← List.map_id ss]
    exact List.map_congr_left fun x _ => by cases x; rfl
  exact back _ _ key
end Mine
end

section
open PySem PySem.W PyProof.Rows PySem.Calls
set_option maxRecDepth 100000
namespace Mine

def txt (P E : Nat → List Nat) (tail : List Nat) (k n : Nat) : List Nat := ((List.range' k n).map fun i => P i ++ E i).flatten ++ tail
theorem txt_zero (P E : Nat → List Nat) (tail : List Nat) (k : Nat) : txt P E tail k 0 = tail := by simp [txt]
theorem txt_succ (P E : Nat → List Nat) (tail : List Nat) (k n : Nat) : txt P E tail k (n + 1) = P k ++ (E k ++ txt P E tail (k + 1) n) := by
  unfold txt; rw [List.range'_succ]; simp
/-- a row's dot at its begin doubled -/
def dotP : List Nat → List Nat
  | [] => []
  | c :: r => if c = 46 then 46 :: 46 :: r else c :: r
theorem clean_dot : ∀ {p : List Nat}, Clean p → Clean (dotP p)
  | [], h => h
  | c :: r, h => by
    show Clean (if c = 46 then 46 :: 46 :: r else c :: r)
    split
    · rename_i hc
      intro d hd
      rcases List.mem_cons.mp hd with rfl | hd
      · decide
      · rcases List.mem_cons.mp hd with rfl | hd
        · decide
        · exact h d (List.mem_cons_of_mem _ hd)
    · exact h

theorem fix_clean : ∀ {p : List Nat} (r : List Nat), Clean p → fixE (p ++ r) = p ++ fixE r
  | [], r, _ => rfl
  | c :: p, r, h => by
    have hc := h c List.mem_cons_self
    rw [List.cons_append, fix_plain (fun h' => h'.elim hc.1 hc.2), fix_clean r fun d hd => h d (List.mem_cons_of_mem _ hd)]; rfl
theorem fix_lf (r : List Nat) : fixE (10 :: r) = 13 :: 10 :: fixE r := by
  cases r with
  | nil => rfl
  | cons d r => rw [fixE, if_neg (fun h => absurd h.1 (by decide)), if_pos (.inl rfl)]
theorem fix_crlf (r : List Nat) : fixE (13 :: 10 :: r) = 13 :: 10 :: fixE r := by rw [fixE, if_pos ⟨rfl, rfl⟩]
theorem fix_cr (r : List Nat) (h : ∀ q, r ≠ 10 :: q) : fixE (13 :: r) = 13 :: 10 :: fixE r := by
  cases r with
  | nil => rfl
  | cons d r =>
    have hd : d ≠ 10 := fun e => h r (by rw [e])
    rw [fixE, if_neg (fun h' => hd h'.2), if_pos (.inr rfl)]

section
variable {P E : Nat → List Nat} {tail : List Nat} (hP : ∀ i, Clean (P i)) (hE : ∀ i, E i = [10] ∨ E i = [13] ∨ E i = [13, 10]) (hF : ∀ i, E i = [13] → E (i + 1) ≠ [10]) (ht : Clean tail)
include hP hE hF ht
theorem txt_head : ∀ (n k : Nat) (q : List Nat), (n = 0 ∨ E k ≠ [10]) → txt P E tail k n ≠ 10 :: q := by
  intro n k q hn e
  cases n with
  | zero =>
    rw [txt_zero] at e
    exact (ht 10 (by rw [e]; exact List.mem_cons_self)).1 rfl
  | succ n =>
    rw [txt_succ] at e
    have hk : E k ≠ [10] := hn.resolve_left (by omega)
    cases hp : P k with
    | nil =>
      rw [hp, List.nil_append] at e
      rcases hE k with h | h | h
      · exact hk h
      · rw [h] at e; cases e
      · rw [h] at e; cases e
    | cons c r =>
      rw [hp] at e
      have : c = 10 := by simpa using congrArg List.head? e
      exact (hP k c (by rw [hp]; exact List.mem_cons_self)).1 this
theorem fix_lines : ∀ (n k : Nat), fixE (txt P E tail k n) = crlf ((List.range' k n).map P) tail
  | 0, k => by
    rw [txt_zero]
    have := fix_clean [] ht
    simpa [crlf, fixE] using this
  | n + 1, k => by
    rw [txt_succ, fix_clean _ (hP k), List.range'_succ, List.map_cons, crlf_cons]
    congr 1
    have ih := fix_lines n (k + 1)
    rcases hE k with h | h | h
    · rw [h, List.singleton_append, fix_lf, ih]
    · rw [h, List.singleton_append, fix_cr _ (fun q => txt_head hP hE hF ht n (k + 1) q (by
        by_cases hn : n = 0
        · exact .inl hn
        · exact .inr (hF k h))), ih]
    · rw [h]
      show fixE (13 :: 10 :: txt P E tail (k + 1) n) = _
      rw [fix_crlf, ih]
end

theorem dot_clean_false : ∀ {p : List Nat} (r : List Nat), Clean p → ∃ b : Bool, (p ≠ [] → b = false) ∧ dotE false (p ++ r) = p ++ dotE b r ∧ (p = [] → b = false)
  | [], r, _ => ⟨false, fun h => absurd rfl h, rfl, fun _ => rfl⟩
  | c :: p, r, h => by
    have hc := h c List.mem_cons_self
    obtain ⟨b, h1, h2, h3⟩ := dot_clean_false (p := p) r fun d hd => h d (List.mem_cons_of_mem _ hd)
    have hb : b = false := by
      by_cases hp : p = []
      · exact h3 hp
      · exact h1 hp
    refine ⟨b, fun _ => hb, ?_, fun e => by cases e⟩
    rw [List.cons_append, dotE, if_neg (fun h' => Bool.false_ne_true h'.1), show (c == 10) = false from by rw [beq_eq_false_iff_ne]; exact hc.1, h2]; rfl
theorem dot_false {p : List Nat} (r : List Nat) (h : Clean p) : dotE false (p ++ r) = p ++ dotE false r := by
  obtain ⟨b, h1, h2, h3⟩ := dot_clean_false r h
  have hb : b = false := by
    by_cases hp : p = []
    · exact h3 hp
    · exact h1 hp
  rw [h2, hb]
theorem dot_true {p : List Nat} {r : List Nat} (h : Clean p) (hr : p = [] → ∀ q, r ≠ 46 :: q) : dotE true (p ++ r) = dotP p ++ dotE (p == []) r := by
  cases p with
  | nil => rfl
  | cons c p =>
    have hc := h c List.mem_cons_self
    have hp : Clean p := fun d hd => h d (List.mem_cons_of_mem _ hd)
    rw [List.cons_append, dotE, show (c == 10) = false from by rw [beq_eq_false_iff_ne]; exact hc.1, dot_false r hp]
    show _ = (if c = 46 then 46 :: 46 :: p else c :: p) ++ dotE false r
    by_cases h46 : c = 46
    · rw [if_pos ⟨rfl, h46⟩, if_pos h46]; simp
    · rw [if_neg (fun h' => h46 h'.2), if_neg h46]; simp
theorem dot_lf (b : Bool) (r : List Nat) : dotE b (10 :: r) = 10 :: dotE true r := by rw [dotE, if_neg (fun h => absurd h.2 (by decide))]; rfl
theorem dot_cr (b : Bool) (r : List Nat) : dotE b (13 :: r) = 13 :: dotE false r := by rw [dotE, if_neg (fun h => absurd h.2 (by decide))]; rfl

theorem dot_tail {tail : List Nat} (ht : Clean tail) : dotE true tail = dotP tail := by
  have := dot_true (r := []) ht (fun _ q => by intro h; cases h)
  simpa [dotE] using this
theorem dot_crlf {tail : List Nat} (ht : Clean tail) : ∀ (ps : List (List Nat)), (∀ p ∈ ps, Clean p) → dotE true (crlf ps tail) = crlf (ps.map dotP) (dotP tail)
  | [], _ => by simpa [crlf] using dot_tail ht
  | p :: ps, h => by
    rw [crlf_cons, List.map_cons, crlf_cons, dot_true (h p List.mem_cons_self) (fun _ q => by intro e; cases e), dot_cr, dot_lf, dot_crlf ht ps fun q hq => h q (List.mem_cons_of_mem _ hq)]

section
variable {P E : Nat → List Nat} {tail : List Nat} (hP : ∀ i, Clean (P i)) (hE : ∀ i, E i = [10] ∨ E i = [13, 10]) (ht : Clean tail)
include hP hE ht
theorem dot_lines : ∀ (n k : Nat), dotE true (txt P E tail k n) = txt (fun i => dotP (P i)) E (dotP tail) k n
  | 0, k => by rw [txt_zero, txt_zero]; exact dot_tail ht
  | n + 1, k => by
    rw [txt_succ, txt_succ]
    have ih := dot_lines n (k + 1)
    rcases hE k with h | h
    · rw [h, List.singleton_append, dot_true (hP k) (fun _ q => by intro e; cases e), dot_lf, ih]; rfl
    · rw [h, dot_true (hP k) (fun _ q => by intro e; cases e)]
      show dotP (P k) ++ dotE _ (13 :: 10 :: txt P E tail (k + 1) n) = _
      rw [dot_cr, dot_lf, ih]; rfl
end

/-- a sending of rows: each row comes with both signs, its dot doubled -/
theorem sent_lines {way : Int} {P E : Nat → List Nat} {tail : List Nat} {n k : Nat} (hP : ∀ i, Clean (P i)) (ht : Clean tail)
    (hE : (¬ way = 2 → (∀ i, E i = [10] ∨ E i = [13] ∨ E i = [13, 10]) ∧ (∀ i, E i = [13] → E (i + 1) ≠ [10]))) (hE2 : way = 2 → ∀ i, E i = [10] ∨ E i = [13, 10]) (hw : way = 0 ∨ way = 1 ∨ way = 2) :
    sentE way (txt P E tail k n) = crlf ((List.range' k n).map fun i => dotP (P i)) (dotP tail) := by
  unfold sentE
  by_cases h2 : way = 2
  · rw [if_neg (by omega), dot_lines hP (hE2 h2) ht, fix_lines (fun i => clean_dot (hP i)) (fun i => (hE2 h2 i).imp_right .inr) (fun i hi => by rcases hE2 h2 i with h | h <;> rw [h] at hi <;> cases hi) (clean_dot ht)]
  · rw [if_pos (by omega), fix_lines hP (hE h2).1 (hE h2).2 ht, dot_crlf ht _ (fun p hp => by obtain ⟨i, _, rfl⟩ := List.mem_map.mp hp; exact hP i), List.map_map]; rfl
end Mine
end

section
open PySem PySem.W PyProof.Rows PySem.Calls PySem.Spec PySem.Builtin
set_option maxRecDepth 100000
namespace Mine
/-- a text from its signs -/
abbrev S (l : List Nat) : Str := ⟨l.toArray⟩
theorem S_len (l : List Nat) : (S l).length = l.length := by simp [Str.length]
theorem S_app (a b : List Nat) : S a ++ S b = S (a ++ b) := by
  show (⟨a.toArray ++ b.toArray⟩ : Str) = _
  simp
theorem S_inj {a b : List Nat} (h : S a = S b) : a = b := by
  have := congrArg (fun x : Str => x.cps.toList) h
  simpa using this
theorem slice_to1 (l : List Nat) : Txt.slice (S l) none (some 1) = S (l.take 1) := by
  cases l with
  | nil => decide
  | cons c r =>
    have := eq_of_beq (slice_closes_toL (x := S (c :: r)) (j := 1) (by decide) (by rw [S_len, List.length_cons]; omega))
    rw [this]; simp
theorem slice_from1 (l : List Nat) : Txt.slice (S l) (some 1) none = S (l.drop 1) := by
  cases l with
  | nil => decide
  | cons c r =>
    have := eq_of_beq (slice_closes_fromL (x := S (c :: r)) (i := 1) (b := (S (c :: r)).length) (by decide) (by rw [S_len, List.length_cons]; omega) rfl)
    rw [this, S_len]; simp
theorem strip_dots {l : List Nat} (h : ∀ c ∈ l, c = 46) : Txt.stripChars (S l) (Str.ofString ".") = Str.empty := by
  unfold Txt.stripChars
  rw [PyProof.Rows.stripBy_eq]
  have hg : (Str.ofString ".").cps.contains 46 = true := by decide +kernel
  have h1 := lo_facts (Str.ofString ".").cps.contains (S l)
  have h2 := hi_facts (Str.ofString ".").cps.contains (S l) _ h1.1
  have e : stripLo (Str.ofString ".").cps.contains true (S l) = (S l).length := by
    rcases h1.2.2 with e | e
    · exact e
    · rcases Nat.lt_or_ge (stripLo (Str.ofString ".").cps.contains true (S l)) l.length with hlt | hge
      · have hm : (S l).cps.getD (stripLo (Str.ofString ".").cps.contains true (S l)) 0 = 46 := by
          apply h
          generalize stripLo _ _ _ = k at hlt
          simp [Array.getD, hlt]
        rw [hm] at e
        rw [hg] at e; cases e
      · have := h1.1
        rw [S_len] at this ⊢
        omega
  rw [e] at h2 ⊢
  have e2 : stripHi (Str.ofString ".").cps.contains true (S l) (S l).length = (S l).length := by have := h2.1; have := h2.2.1; omega
  rw [e2]
  simp [Str.strSub, Str.empty]

section
variable {prog p : Program} {w : World} {A : Around} {E : Value → Shared → Prop} {s : Shared} {h₀ : Heap} {L : Addr} {m : Str → Option Value} {news : List (Addr × Obj)} {Q : Value → Shared → Prop}
theorem rmul_str {x : Str} {n : Int} {t u : Tok} (hok : MulOk x n) (h : ∀ t' k, Q (.str (Txt.mul x n) t') { s with toks := k }) : wpAny (model prog w) A (binaryOp .Mult (.int n u) (.str x t)) Q E s := by
  refine lm_binaryOp_repeat_right (T := "str") (U := "int") (by decide) (fun s' => typeIs_int s' n u) (typeIs_str s x t) F.fills_int_mul noFill_str_mul F.slot_int_mul lm_noRepeat_int repeat_str F.slot_int_index.lookup
    (call_gives F.slot_int_mul (typeIs_int s n u) F.entry_int_mul (F.args_int_mul_2 _ _) (AutoIntG3.int___mul___int_str_0 n u x t)
      ⟨rfl, typeIs_str _ x t, call_gives F.slot_str_mul (typeIs_str s x t) F.entry_str_mul (F.args_str_mul_2 _ _) (gives_str_mul x n t u hok.1 hok.2.1 hok.2.2) ?_⟩)
  unfold Txt.mul at h
  by_cases h1 : n < 1
  · rw [if_pos h1]; have h' := h s.toks (s.toks + 1); rw [if_pos h1] at h'; exact ⟨by decide, h'⟩
  · rw [if_neg h1]; refine post_val_or_made (fun hc => fits_reps (hok.2.2 h1 (by simpa using hc))) fun t' k => ?_
    have h' := h t' k; rw [if_neg h1] at h'; exact h'
theorem mul_two (l : List Nat) : Txt.mul (S l) 2 = S (l ++ l) := by
  unfold Txt.mul
  rw [if_neg (by decide)]
  split
  · rename_i h
    rw [Bool.or_eq_true] at h
    rcases h with h | h
    · exact absurd h (by decide)
    · rw [beq_iff_eq, S_len] at h
      rw [List.eq_nil_of_length_eq_zero h]; rfl
  · show (⟨_⟩ : Str) = _
    congr 1
    show (#[] ++ l.toArray) ++ l.toArray = _
    simp
theorem two_S {l : List Nat} {t u : Tok} (hz : l.length ≤ 1000) (h : ∀ t' k, Q (.str (S (l ++ l)) t') { s with toks := k }) : wpAny (model prog w) A (binaryOp .Mult (.int 2 u) (.str (S l) t)) Q E s :=
  rmul_str (mulOk_of 1000 2 (by rw [S_len]; exact hz) (by decide) (by decide) (by decide) (by decide)) fun t' k => by rw [mul_two]; exact h t' k
theorem dots_S {n : Int} {t u : Tok} (h0 : 0 ≤ n) (hz : n ≤ 1000) (h : ∀ t' k, Q (.str (S (List.replicate n.toNat 46)) t') { s with toks := k }) : wpAny (model prog w) A (binaryOp .Mult (.str (Str.ofString ".") t) (.int n u)) Q E s :=
  SB.mul (mulOk_of 16 1048576 (by decide) (by omega) (by omega) (by decide) (by decide)) fun t' k => by rw [mul_dot]; exact h t' k
theorem add_S {a b : List Nat} {t u : Tok} (hz : a.length + b.length ≤ 1000000) (h : ∀ t' k, Q (.str (S (a ++ b)) t') { s with toks := k }) : wpAny (model prog w) A (binaryOp .Add (.str (S a) t) (.str (S b) u)) Q E s :=
  SB.add (fun t' k => by rw [S_app]; exact h t' k) (by rw [S_len, S_len, sizeLine_eq]; omega)
theorem sum_lens : ∀ ls : List (List Nat), ((ls.map S).map (·.length)).sum = ls.flatten.length
  | [] => rfl
  | l :: ls => by rw [List.map_cons, List.map_cons, List.sum_cons, sum_lens ls, List.flatten_cons, List.length_append, S_len]
theorem join_S {D : Addr} {items : List Value} {ls : List (List Nat)} {t : Tok} (hl : s.heap.IsList D items.toArray) (hi : StrsAre items (ls.map S)) (hok : ls.flatten.length ≤ 1000000)
    (h : ∀ t' k, Q (.str (S ls.flatten) t') { s with toks := k }) : wpAny (model prog w) A (call (.builtin "str.join") [.str Str.empty t, .ref D]) Q E s :=
  join_list hl hi (by rw [sum_lens]; show _ + _ * 0 ≤ _; omega) fun t' k => by
    rw [show Txt.join Str.empty (ls.map S) = S ls.flatten from glued_nil ls]; exact h t' k
theorem split_S {ps : List (List Nat)} {last : List Nat} {t u : Tok} (hF : Fr h₀ L s.heap m) (hN : News h₀ L s.heap news) (hc : ∀ q ∈ ps, Clean q) (hc' : Clean last) (ha : ∀ c ∈ crlf ps last, c < 128) (hz : (crlf ps last).length ≤ 1000000)
    (h : ∀ vs h' k, StrsAre vs ((ps ++ [last]).map S) → Fr h₀ L h' m → News h₀ L h' ((s.heap.objs.size, { cls := .type "list", data := .seq vs.toArray }) :: news) → Q (.ref s.heap.objs.size) { s with heap := h', toks := k }) :
    wpAny (model prog w) A (call (.builtin "str.split") [.str (S (crlf ps last)) t, .str sepS u]) Q E s :=
  splitN1A hF hN (by decide) (fun l h' k e hs _ _ F N => h _ h' k (by rw [e] at hs; exact split_crlf ps last hc hc' ha ▸ hs) F N) (by rw [S_len, sizeLine_eq]; omega)
theorem last_S {value slice : PySem.Expr} {l : Addr} {vs : List Value} {ps : List (List Nat)} {z : List Nat} {u : Tok} (hl : s.heap.IsList l vs.toArray) (hs' : StrsAre vs ((ps ++ [z]).map S)) (h : ∀ t, Q (.str (S z) t) s)
    (hs : subscripted slice false (.ref l) (.int (-1) u) = operate [.ref l, .int (-1) u] (getItem (.ref l) (.int (-1) u)) := by with_unfolding_all rfl) :
    wpAny (model prog w) A (subscriptTail value slice (.ref l) (.int (-1) u)) Q E s := by
  have hlen : vs.length = ps.length + 1 := by have := StrsAre.length hs'; simpa using this
  obtain ⟨t', hat⟩ := strs_at hs' (i := ps.length) (by simp)
  have e : ((ps ++ [z]).map S).getD ps.length Str.empty = S z := by simp [List.getD_eq_getElem?_getD]
  rw [e] at hat
  exact tail_any hl.typeIs slot_list_getitem.lookup (wpAny_getItem_list_neg hl (by decide) (by simp; omega) (by decide) (x := .str (S z) t') (by
    rw [show (-1 + ((vs.toArray.size : Nat) : Int)).toNat = ps.length from by simp; omega]; simpa using hat) (h _)) hs
theorem pick_init (vs : List Value) : slicePick vs.toArray none (some (-1)) none = (vs.take (vs.length - 1)).toArray := by
  have e := slicePick_upto' vs.toArray (vs.length - 1)
  rw [show vs.toArray.toList = vs from rfl] at e
  rw [← e]
  unfold slicePick sliceBounds
  simp only [Option.getD_none, List.size_toArray, show ((-1 : Int) < 0) from by decide, if_true, show ((1 : Int) > 0) from by decide]
  rw [show max (0 : Int) (min (-1 + (vs.length : Int)) vs.length) = max (0 : Int) (min (if ((vs.length - 1 : Nat) : Int) < 0 then ((vs.length - 1 : Nat) : Int) + vs.length else ((vs.length - 1 : Nat) : Int)) vs.length) from by
    rw [if_neg (by omega)]; omega]
theorem strs_lay : ∀ {zs : List Str}, (∀ z ∈ zs, PyData.strOk z = true) → PyData.canLayAll0 (zs.map PyData.str) = true ∧ PyData.depthAll (zs.map PyData.str) = 0
  | [], _ => ⟨rfl, rfl⟩
  | z :: zs, h => by
    have ih := strs_lay fun y hy => h y (List.mem_cons_of_mem z hy)
    simp [PyData.canLayAll0, PyData.canLay0, PyData.depthAll, PyData.depth, ih.1, ih.2, h z List.mem_cons_self]
theorem strs_carried : ∀ {vs : List Value} {zs : List Str}, StrsAre vs zs → CarriedAll vs (zs.map PyData.str)
  | _, _, .nil => .nil
  | _, _, .cons _ t r => .cons (.str _ t) (strs_carried r)
theorem strs_shaped {zs : List Str} (h : ∀ z ∈ zs, PyData.strOk z = true) : SeqAt.shaped (.list (zs.map PyData.str)) = true := by
  have := strs_lay h
  simp [SeqAt.shaped, PyData.canLay0, PyData.depth, this.1, this.2]
theorem strs_same : ∀ ns ms : List Str, PySem.Spec.sameAll (ns.map PyData.str) (ms.map PyData.str) = decide (ns = ms)
  | [], [] => by simp [PySem.Spec.sameAll]
  | [], _ :: _ => by simp [PySem.Spec.sameAll]
  | _ :: _, [] => by simp [PySem.Spec.sameAll]
  | a :: r, b :: t => by
    simp only [List.map_cons, PySem.Spec.sameAll, PySem.Spec.same, strs_same r t]
    by_cases h : a = b <;> by_cases h' : r = t <;> simp [h, h']
variable {a b : Addr} {xs ys : List Value} {ns ms : List Str}
theorem eq_strs (ha : s.heap.IsList a xs.toArray) (hb : s.heap.IsList b ys.toArray) (hi : StrsAre xs ns) (hj : StrsAre ys ms) (oa : ∀ z ∈ ns, PyData.strOk z = true) (ob : ∀ z ∈ ms, PyData.strOk z = true) (hu : A.units + 64 < cLine) (h : Q (.bool (decide (ns = ms))) s) :
    wpAny (model prog w) A (compareOp .Eq (.ref a) (.ref b)) Q E s :=
  eq_dataH_same (reads_newData ha (strs_carried hi)) (reads_newData hb (strs_carried hj)) (strs_shaped oa) (strs_shaped ob) hu (SeqAt.noMix_of_shape (.list .str) rfl _ _ (list_map_has fun _ => rfl) (list_map_has fun _ => rfl)) (by
    rw [show PySem.Spec.same (.list (ns.map PyData.str)) (.list (ms.map PyData.str)) = decide (ns = ms) from by simp only [PySem.Spec.same]; exact strs_same ns ms]; exact h)
theorem ne_strs (ha : s.heap.IsList a xs.toArray) (hb : s.heap.IsList b ys.toArray) (hi : StrsAre xs ns) (hj : StrsAre ys ms) (oa : ∀ z ∈ ns, PyData.strOk z = true) (ob : ∀ z ∈ ms, PyData.strOk z = true) (hu : A.units + 64 < cLine) (h : Q (.bool (!decide (ns = ms))) s) :
    wpAny (model prog w) A (compareOp .NotEq (.ref a) (.ref b)) Q E s :=
  ne_dataH_same (reads_newData ha (strs_carried hi)) (reads_newData hb (strs_carried hj)) (strs_shaped oa) (strs_shaped ob) hu (SeqAt.noMix_of_shape (.list .str) rfl _ _ (list_map_has fun _ => rfl) (list_map_has fun _ => rfl)) (by
    rw [show PySem.Spec.same (.list (ns.map PyData.str)) (.list (ms.map PyData.str)) = decide (ns = ms) from by simp only [PySem.Spec.same]; exact strs_same ns ms]; exact h)
theorem S_ok {l : List Nat} (h : ∀ c ∈ l, c < 128) : PyData.strOk (S l) = true := by
  unfold PyData.strOk
  simp only [Array.all_eq_true, decide_eq_true_eq]
  intro i hi
  have := h (l[i]'(by simpa using hi)) (List.getElem_mem _)
  simp; omega
end
end Mine
end

section
open PySem PySem.W PyProof.Rows PySem.Calls
set_option maxRecDepth 100000
namespace Mine
/-- the sign that ends a row -/
def endE (two : Bool) (X : Int) : List Nat := if two then (if X = 1 then [13, 10] else [10]) else (if X = 0 then [10] else if X = 1 then [13] else [13, 10])
theorem end_t0 {X : Int} (l : List Nat) (h : X = 0) : S (l ++ endE true X) = S l ++ Str.ofString "\n" := by
  subst h; rw [← S_app]; congr 1
theorem end_t1 {X : Int} (l : List Nat) (h : X = 1) : S (l ++ endE true X) = S l ++ Str.ofString "\r\n" := by
  subst h; rw [← S_app]; congr 1
theorem end_t2 {X : Int} (l : List Nat) (h : X = 2) : S (l ++ endE true X) = S l ++ Str.ofString "\n" := by
  subst h; rw [← S_app]; congr 1
theorem end_f0 {X : Int} (l : List Nat) (h : X = 0) : S (l ++ endE false X) = S l ++ Str.ofString "\n" := by
  subst h; rw [← S_app]; congr 1
theorem end_f1 {X : Int} (l : List Nat) (h : X = 1) : S (l ++ endE false X) = S l ++ Str.ofString "\r" := by
  subst h; rw [← S_app]; congr 1
theorem end_f2 {X : Int} (l : List Nat) (h : X = 2) : S (l ++ endE false X) = S l ++ Str.ofString "\r\n" := by
  subst h; rw [← S_app]; congr 1
theorem map_range_getD (rl : List (List Nat)) : (List.range' 0 rl.length).map (fun i => dotP (rl.getD i [])) = rl.map dotP := by
  apply List.ext_getElem?
  intro i
  rw [List.getElem?_map, List.getElem?_map]
  rcases Nat.lt_or_ge i rl.length with h | h
  · rw [List.getElem?_range' h, List.getElem?_eq_getElem h]
    simp [List.getD_eq_getElem?_getD, h]
  · rw [List.getElem?_eq_none (by simpa using h), List.getElem?_eq_none h]; rfl
theorem getD_prop {p : List Nat → Prop} {rl : List (List Nat)} (h : ∀ x ∈ rl, p x) (h0 : p []) (i : Nat) : p (rl.getD i []) := by
  rw [List.getD_eq_getElem?_getD]
  rcases Nat.lt_or_ge i rl.length with hi | hi
  · rw [List.getElem?_eq_getElem hi]; exact h _ (List.getElem_mem hi)
  · rw [List.getElem?_eq_none hi]; exact h0
theorem flat_len {K : Nat} : ∀ {ls : List (List Nat)}, (∀ x ∈ ls, x.length ≤ K) → ls.flatten.length ≤ ls.length * K
  | [], _ => by simp
  | l :: ls, h => by
    have ih := flat_len fun x hx => h x (List.mem_cons_of_mem l hx)
    have := h l List.mem_cons_self
    rw [List.flatten_cons, List.length_append, List.length_cons, Nat.succ_mul]; omega
theorem dot_dots (z : Int) (h : z = 0 ∨ z = 1) : dotP (List.replicate z.toNat 46) = List.replicate z.toNat 46 ++ List.replicate z.toNat 46 := by
  rcases h with rfl | rfl <;> rfl
theorem end_len (b : Bool) (X : Int) : (endE b X).length ≤ 2 := by
  unfold endE; split <;> split <;> (try split) <;> decide
theorem end_asc (b : Bool) (X : Int) : ∀ c ∈ endE b X, c < 128 := by
  unfold endE; split <;> split <;> (try split) <;> decide

/-- the text that a mailing sends -/
def mailT (b : Bool) (rl : List (List Nat)) (turn go : Nat) : List Nat :=
  ((List.range' 0 rl.length).map fun (i : Nat) => rl.getD i [] ++ endE b (((turn : Int).fdiv 36 + (go : Int) + (1 + (i : Int))).fmod 3)).flatten
theorem mail_len {b : Bool} {rl : List (List Nat)} {turn go : Nat} (hz : rl.length ≤ 100) (hx : ∀ x ∈ rl, x.length ≤ 1000) : (mailT b rl turn go).length ≤ 100200 := by
  unfold mailT
  refine Nat.le_trans (flat_len (K := 1002) fun x hx' => ?_) ?_
  · obtain ⟨i, _, rfl⟩ := List.mem_map.mp hx'
    have h1 := getD_prop hx (by simp : ([] : List Nat).length ≤ 1000) i
    have h2 := end_len b (((turn : Int).fdiv 36 + (go : Int) + (1 + (i : Int))).fmod 3)
    rw [List.length_append]; omega
  · rw [List.length_map, List.length_range']; omega
theorem mail_asc {b : Bool} {rl : List (List Nat)} {turn go : Nat} (ha : ∀ x ∈ rl, ∀ c ∈ x, c < 128) : Asc (mailT b rl turn go) := by
  intro c hc
  unfold mailT at hc
  obtain ⟨l, hl, hc⟩ := List.mem_flatten.mp hc
  obtain ⟨i, _, rfl⟩ := List.mem_map.mp hl
  rcases List.mem_append.mp hc with h | h
  · exact getD_prop (p := fun x => ∀ c ∈ x, c < 128) ha (by simp) i c h
  · exact end_asc _ _ c h
theorem mail_sent {b : Bool} {rl : List (List Nat)} {turn go : Nat} (hb : b = true ↔ ((turn : Int).fdiv 12 + (go : Int)).fmod 3 = 2) (hc : ∀ x ∈ rl, Clean x) :
    sentE (((turn : Int).fdiv 12 + (go : Int)).fmod 3) (mailT b rl turn go ++ List.replicate (((turn : Int).fdiv 108 + (go : Int)).fmod 2).toNat 46) =
      crlf (rl.map dotP) (List.replicate (((turn : Int).fdiv 108 + (go : Int)).fmod 2).toNat 46 ++ List.replicate (((turn : Int).fdiv 108 + (go : Int)).fmod 2).toNat 46) := by
  have w0 := Int.fmod_nonneg_of_pos ((turn : Int).fdiv 12 + (go : Int)) (show (0 : Int) < 3 by decide)
  have w1 := Int.fmod_lt_of_pos ((turn : Int).fdiv 12 + (go : Int)) (show (0 : Int) < 3 by decide)
  have t0 := Int.fmod_nonneg_of_pos ((turn : Int).fdiv 108 + (go : Int)) (show (0 : Int) < 2 by decide)
  have t1 := Int.fmod_lt_of_pos ((turn : Int).fdiv 108 + (go : Int)) (show (0 : Int) < 2 by decide)
  have hx : ∀ X : Int, endE b X = [10] ∨ endE b X = [13] ∨ endE b X = [13, 10] := by
    intro X; unfold endE; split <;> split <;> (try split) <;> simp
  rw [← dot_dots _ (by omega), ← map_range_getD]
  refine sent_lines (P := fun i => rl.getD i []) (E := fun i => endE b (((turn : Int).fdiv 36 + (go : Int) + (1 + (i : Int))).fmod 3)) (k := 0) (n := rl.length) (fun i => getD_prop hc (fun _ h => by cases h) i) ?_ ?_ ?_ (by omega)
  · intro c hc'
    rw [List.eq_of_mem_replicate hc']; exact ⟨by decide, by decide⟩
  · intro h2
    have hbf : b = false := by
      cases b with
      | false => rfl
      | true => exact absurd (hb.mp rfl) h2
    subst hbf
    refine ⟨fun i => hx _, fun i hi => ?_⟩
    have hi' : ((turn : Int).fdiv 36 + (go : Int) + (1 + (i : Int))).fmod 3 = 1 := by
      have h0 := Int.fmod_nonneg_of_pos ((turn : Int).fdiv 36 + (go : Int) + (1 + (i : Int))) (show (0 : Int) < 3 by decide)
      try dsimp only at hi
      unfold endE at hi
      by_cases a0 : ((turn : Int).fdiv 36 + (go : Int) + (1 + (i : Int))).fmod 3 = 0
      · rw [a0] at hi; exact absurd hi (by decide)
      · by_cases a1 : ((turn : Int).fdiv 36 + (go : Int) + (1 + (i : Int))).fmod 3 = 1
        · exact a1
        · rw [if_neg (by decide), if_neg a0, if_neg a1] at hi; exact absurd hi (by decide)
    try dsimp only
    have e : ((turn : Int).fdiv 36 + (go : Int) + (1 + ((i + 1 : Nat) : Int))).fmod 3 = 2 := by
      rw [Int.fmod_eq_emod_of_nonneg _ (by decide)] at hi' ⊢
      push_cast
      omega
    rw [e]; decide
  · intro h2 i
    have hbt := hb.mpr h2
    subst hbt
    unfold endE
    rw [if_pos rfl]
    split
    · exact .inr rfl
    · exact .inl rfl
theorem crlf_low : ∀ {ps : List (List Nat)} {z : List Nat}, (∀ p ∈ ps, ∀ c ∈ p, c < 128) → (∀ c ∈ z, c < 128) → ∀ c ∈ crlf ps z, c < 128
  | [], z, _, hz => by simpa [crlf] using hz
  | p :: ps, z, hp, hz => by
    intro c hc
    rw [crlf_cons] at hc
    rcases List.mem_append.mp hc with h | h
    · exact hp p List.mem_cons_self c h
    · rcases List.mem_cons.mp h with rfl | h
      · decide
      · rcases List.mem_cons.mp h with rfl | h
        · decide
        · exact crlf_low (fun q hq => hp q (List.mem_cons_of_mem _ hq)) hz c h
theorem crlf_len {K : Nat} : ∀ {ps : List (List Nat)} {z : List Nat}, (∀ p ∈ ps, p.length ≤ K) → (crlf ps z).length ≤ ps.length * (K + 2) + z.length
  | [], z, _ => by simp [crlf]
  | p :: ps, z, hp => by
    have ih := crlf_len (z := z) fun q hq => hp q (List.mem_cons_of_mem p hq)
    have := hp p List.mem_cons_self
    rw [crlf_cons, List.length_append, List.length_cons, List.length_cons, List.length_cons, Nat.succ_mul]; omega
theorem dotP_len : ∀ (p : List Nat), (dotP p).length ≤ p.length + 1
  | [] => by simp [dotP]
  | c :: r => by
    show (if c = 46 then 46 :: 46 :: r else c :: r).length ≤ _
    split <;> simp
theorem dotP_low : ∀ {p : List Nat}, (∀ c ∈ p, c < 128) → ∀ c ∈ dotP p, c < 128
  | [], h => h
  | c :: r, h => by
    show ∀ d ∈ (if c = 46 then 46 :: 46 :: r else c :: r), d < 128
    split
    · intro d hd
      rcases List.mem_cons.mp hd with rfl | hd
      · decide
      · rcases List.mem_cons.mp hd with rfl | hd
        · decide
        · exact h d (List.mem_cons_of_mem _ hd)
    · exact h
theorem dotP_take : ∀ (p : List Nat), (dotP p).take 1 = p.take 1
  | [] => rfl
  | c :: r => by
    show (if c = 46 then 46 :: 46 :: r else c :: r).take 1 = _
    split
    · rename_i h; rw [h]; rfl
    · rfl
theorem dotP_dots : ∀ {p : List Nat}, (∀ c ∈ p.drop 1, c = 46) → ∀ c ∈ (dotP p).drop 1, c = 46
  | [], h => h
  | c :: r, h => by
    show ∀ d ∈ (if c = 46 then 46 :: 46 :: r else c :: r).drop 1, d = 46
    split
    · intro d hd
      rcases List.mem_cons.mp hd with rfl | hd
      · rfl
      · exact h d hd
    · exact h
end Mine
end

section
open PySem PySem.W PyProof.Rows PySem.Calls
set_option maxRecDepth 100000
namespace Mine
theorem fill7 : PySem.Challenge.rw_pk0010_01 = PySem.Challenge.rw_pk0010_01 ∧ hd.heap_39 = hd.heap_39 := by
  k_fill
  exact ⟨rfl, rfl⟩

section
variable {prog p : Program} {loose : List Str} {w : World} {A : Around} {E : Value → Shared → Prop} {s : Shared} {mean : ExcName → Option Value} {mg mb : Str → Option Value} {h₀ : Heap} {L : Addr} {m : Str → Option Value} {news : List (Addr × Obj)} {Q : Value → Shared → Prop}
theorem fr_sent {l z : List Nat} {way : Int} {t u : Tok} (F : Fr h₀ L s.heap m) (N : News h₀ L s.heap news) (KX : (hd.heap_39 w.params).In h₀) (T : Top p loose mean mg mb h₀) (hroom : A.depth < 800) (hz : l.length ≤ 1000000) (hx : Asc l) (hsent : sentE way l = z)
    (h : ∀ t' h' tk', Fr h₀ L h' m → News h₀ L h' news → Q (.str (S z) t') { s with heap := h', toks := tk' }) : wpAny (model prog w) A (call (.ref 86) [.str (S l) t, .int way u]) Q E s :=
  wpAny_call (law_sent (KX.keeps F.keep) (T.keeps F.keep) hroom hz hx fun t' h' tk' k => by rw [hsent]; exact h t' h' tk' (F.after k) (N.grown k))
theorem init_S {value slice : PySem.Expr} {l : Addr} {vs : List Value} {ps : List (List Nat)} {z : List Nat} {ops : List Value} {u : Tok} (F : Fr h₀ L s.heap m) (N : News h₀ L s.heap news) (hl : s.heap.IsList l vs.toArray) (hs' : StrsAre vs ((ps ++ [z]).map S)) (hz : ps.length ≤ 1000)
    (h : ∀ ws h', StrsAre ws (ps.map S) → Fr h₀ L h' m → News h₀ L h' ((s.heap.objs.size + 1, { cls := .type "list", data := .seq ws.toArray }) :: news) → Q (.ref (s.heap.objs.size + 1)) { s with heap := h' })
    (hs : subscripted slice false (.ref l) (.ref s.heap.objs.size) = operate ops (getItem (.ref l) (.ref s.heap.objs.size)) := by with_unfolding_all rfl)
    (ht : ∀ r, letTemporaryGo value (.ref l) r = pure () := by intro _; with_unfolding_all rfl) :
    wpAny (model prog w) A (subscriptTail value slice (.ref l) (.ref s.heap.objs.size)) Q E { s with heap := s.heap.push { cls := .type "slice", data := .fields #[.none, .int (-1) u, .none] } } := by
  have hlen : vs.length = ps.length + 1 := by have := StrsAre.length hs'; simpa using this
  refine slice_list3 F N hl (lo := none) (hi := some (-1)) (st := none) (by constructor) (by constructor) (by constructor) (by intro h; cases h) (fun h' F' N' => ?_) hs ht (by rw [List.size_toArray, sizeLine_eq]; omega)
  rw [pick_init] at N'
  refine h _ h' ?_ F' N'
  have := StrsAre.take' hs' (vs.length - 1)
  rw [hlen] at this ⊢
  simpa using this
theorem head_S {value slice : PySem.Expr} {l : Addr} {vs : List Value} {zs : List Str} {ops : List Value} {u : Tok} (F : Fr h₀ L s.heap m) (N : News h₀ L s.heap news) (hl : s.heap.IsList l vs.toArray) (hs' : StrsAre vs zs) (hz : zs.length ≤ 1000)
    (h : ∀ ws h', StrsAre ws (zs.take 1) → Fr h₀ L h' m → News h₀ L h' ((s.heap.objs.size + 1, { cls := .type "list", data := .seq ws.toArray }) :: news) → Q (.ref (s.heap.objs.size + 1)) { s with heap := h' })
    (hs : subscripted slice false (.ref l) (.ref s.heap.objs.size) = operate ops (getItem (.ref l) (.ref s.heap.objs.size)) := by with_unfolding_all rfl)
    (ht : ∀ r, letTemporaryGo value (.ref l) r = pure () := by intro _; with_unfolding_all rfl) :
    wpAny (model prog w) A (subscriptTail value slice (.ref l) (.ref s.heap.objs.size)) Q E { s with heap := s.heap.push { cls := .type "slice", data := .fields #[.none, .int 1 u, .none] } } := by
  have hlen : vs.length = zs.length := StrsAre.length hs'
  refine slice_list3 F N hl (lo := none) (hi := some 1) (st := none) (by constructor) (by constructor) (by constructor) (by intro h; cases h) (fun h' F' N' => ?_) hs ht (by rw [List.size_toArray, sizeLine_eq]; omega)
  rw [show (some (1 : Int)) = some ((1 : Nat) : Int) from rfl, slicePick_upto'] at N'
  exact h _ h' (StrsAre.take' hs' 1) F' N'
theorem tail_S {value slice : PySem.Expr} {l : Addr} {vs : List Value} {zs : List Str} {ops : List Value} {u : Tok} (F : Fr h₀ L s.heap m) (N : News h₀ L s.heap news) (hl : s.heap.IsList l vs.toArray) (hs' : StrsAre vs zs) (hz : zs.length ≤ 1000)
    (h : ∀ ws h', StrsAre ws (zs.drop 1) → Fr h₀ L h' m → News h₀ L h' ((s.heap.objs.size + 1, { cls := .type "list", data := .seq ws.toArray }) :: news) → Q (.ref (s.heap.objs.size + 1)) { s with heap := h' })
    (hs : subscripted slice false (.ref l) (.ref s.heap.objs.size) = operate ops (getItem (.ref l) (.ref s.heap.objs.size)) := by with_unfolding_all rfl)
    (ht : ∀ r, letTemporaryGo value (.ref l) r = pure () := by intro _; with_unfolding_all rfl) :
    wpAny (model prog w) A (subscriptTail value slice (.ref l) (.ref s.heap.objs.size)) Q E { s with heap := s.heap.push { cls := .type "slice", data := .fields #[.int 1 u, .none, .none] } } := by
  have hlen : vs.length = zs.length := StrsAre.length hs'
  refine slice_list3 F N hl (lo := some 1) (hi := none) (st := none) (by constructor) (by constructor) (by constructor) (by intro h; cases h) (fun h' F' N' => ?_) hs ht (by rw [List.size_toArray, sizeLine_eq]; omega)
  rw [show (some (1 : Int)) = some ((1 : Nat) : Int) from rfl, slicePick_from'] at N'
  exact h _ h' (StrsAre.drop' hs' 1) F' N'
end
end Mine
end

section
open PySem PySem.W PyProof.Rows PySem.Calls
set_option maxRecDepth 100000
namespace Mine
theorem fill8 : PySem.Challenge.rw_pk0010_01 = PySem.Challenge.rw_pk0010_01 ∧ hd.heap_39 = hd.heap_39 := by
  k_fill
  exact ⟨rfl, rfl⟩

/-- the names of a comprehension's own frame -/
abbrev sc1 (x : Str) : Scope := { kind := .function, names := [(Str.ofString ".0", .local), (x, .local)], isGenerator := false, isCoroutine := false, more := [] }
abbrev cut1 (x : Str) (p1 p2 p3 p4 : Pos) (kk : Nat) : Expr := .Subscript (.Name x p1) (.Slice none (some (.Constant (.int 1) kk p2)) none p3) p4
abbrev cut2 (x : Str) (p1 p2 p3 p4 : Pos) (kk : Nat) : Expr := .Subscript (.Name x p1) (.Slice (some (.Constant (.int 1) kk p2)) none none p3) p4

section
variable {prog p : Program} {loose : List Str} {w : World} {A : Around} {E : Value → Shared → Prop} {s : Shared} {mean : ExcName → Option Value} {mg mb : Str → Option Value} {h₀ : Heap} {L I C D : Addr} {m m₂ : Str → Option Value} {oI oC : Obj} {ys : List Value} {news : List (Addr × Obj)} {Q : Value → Shared → Prop} {env : Env} {cl : List (Str × Addr)} {l : List Nat} {t : Tok}
  {p1 p2 p3 p4 : Pos} {kk : Nat}
set_option maxHeartbeats 1000000 in
theorem turn_part1 (KX : (hd.heap_39 w.params).In h₀) (hC : LCg.NsObj oC m₂) (hx2 : m₂ (Str.ofString "part") = some (.str (S l) t)) (hz : l.length ≤ 1001) (F : Fr h₀ L s.heap m) (N : News h₀ L s.heap ((I, oI) :: (C, oC) :: (D, LCg.lst ys) :: news))
    (h : ∀ t' h' tk', Fr h₀ L h' m → News h₀ L h' ((I, oI) :: (C, oC) :: (D, LCg.lst ys) :: news) → Q (.str (S (l.take 1)) t') { s with heap := h', toks := tk' }) :
    wpAny (model prog w) A (eval (cut1 (Str.ofString "part") p1 p2 p3 p4 kk) (compEnvC (sc1 (Str.ofString "part")) cl C env)) Q E s := by
  have hsl' : (S l).length ≤ 1001 := by rw [S_len]; exact hz
  k_steps
  dsimp only
  rw [slice_to1]
  exact h _ _ _ (by assumption) (by assumption)
set_option maxHeartbeats 1000000 in
theorem turn_row1 (KX : (hd.heap_39 w.params).In h₀) (hC : LCg.NsObj oC m₂) (hx2 : m₂ (Str.ofString "row") = some (.str (S l) t)) (hz : l.length ≤ 1001) (F : Fr h₀ L s.heap m) (N : News h₀ L s.heap ((I, oI) :: (C, oC) :: (D, LCg.lst ys) :: news))
    (h : ∀ t' h' tk', Fr h₀ L h' m → News h₀ L h' ((I, oI) :: (C, oC) :: (D, LCg.lst ys) :: news) → Q (.str (S (l.take 1)) t') { s with heap := h', toks := tk' }) :
    wpAny (model prog w) A (eval (cut1 (Str.ofString "row") p1 p2 p3 p4 kk) (compEnvC (sc1 (Str.ofString "row")) cl C env)) Q E s := by
  have hsl' : (S l).length ≤ 1001 := by rw [S_len]; exact hz
  k_steps
  dsimp only
  rw [slice_to1]
  exact h _ _ _ (by assumption) (by assumption)
set_option maxHeartbeats 1000000 in
theorem turn_part2 (KX : (hd.heap_39 w.params).In h₀) (hC : LCg.NsObj oC m₂) (hx2 : m₂ (Str.ofString "part") = some (.str (S l) t)) (hz : l.length ≤ 1001) (F : Fr h₀ L s.heap m) (N : News h₀ L s.heap ((I, oI) :: (C, oC) :: (D, LCg.lst ys) :: news))
    (h : ∀ t' h' tk', Fr h₀ L h' m → News h₀ L h' ((I, oI) :: (C, oC) :: (D, LCg.lst ys) :: news) → Q (.str (S (l.drop 1)) t') { s with heap := h', toks := tk' }) :
    wpAny (model prog w) A (eval (cut2 (Str.ofString "part") p1 p2 p3 p4 kk) (compEnvC (sc1 (Str.ofString "part")) cl C env)) Q E s := by
  have hsl' : (S l).length ≤ 1001 := by rw [S_len]; exact hz
  k_steps
  dsimp only
  rw [slice_from1]
  exact h _ _ _ (by assumption) (by assumption)

theorem strs_S {ws : List Value} {ls : List (List Nat)} (h : StrsAre ws (ls.map S)) {i : Nat} {v : Value} (hi : i < ls.length) (hv : ws[i]? = some v) : ∃ t, v = .str (S (ls.getD i [])) t := by
  obtain ⟨t, ht⟩ := strs_at h (i := i) (by simpa using hi)
  rw [ht] at hv
  cases hv
  exact ⟨t, by simp [List.getD_eq_getElem?_getD, hi]⟩
theorem strs_end {zs : List Value} {ls : List (List Nat)} (f : List Nat → List Nat) (hl : zs.length = ls.length) (h : ∀ (i : Nat) (v : Value), zs[i]? = some v → IsS (S (f (ls.getD i []))) v) : StrsAre zs ((ls.map f).map S) := by
  refine strs_of (by simpa using hl) fun j z k h1 h2 => ?_
  have hj : j < ls.length := by
    rcases Nat.lt_or_ge j zs.length with h | h
    · omega
    · rw [List.getElem?_eq_none h] at h1; cases h1
  rw [List.getElem?_map, List.getElem?_map, List.getElem?_eq_getElem hj] at h2
  cases h2
  have := h j z h1
  rw [List.getD_eq_getElem?_getD, List.getElem?_eq_getElem hj] at this
  exact this

/-- a comprehension over a list of texts at the ledger's head -/
theorem src_strs {ax : Addr} {k : Nat} {ws : List Value} {ls ms : List (List Nat)} {elt : Expr} {x : Str} {scope : Scope} (f : List Nat → List Nat) (hh : A.handled = none) (F : Fr h₀ L s.heap m) (N : News h₀ L s.heap ((ax, { cls := .type "list", data := .seq ws.toArray k }) :: news))
    (hs : StrsAre ws (ls.map S)) (hz : ls.length ≤ 1000) (hx : ∀ y ∈ ls, y.length ≤ 1001) (he : ls.map f = ms)
    (turn : ∀ (l : List Nat) t I oI C oC D m₂ ys nw h tk (E' Q' : Value → Shared → Prop), l.length ≤ 1001 → LCg.NsObj oC m₂ → m₂ x = some (.str (S l) t) → Fr h₀ L h m → News h₀ L h ((I, oI) :: (C, oC) :: (D, LCg.lst ys) :: nw) →
      (∀ t' h' tk', Fr h₀ L h' m → News h₀ L h' ((I, oI) :: (C, oC) :: (D, LCg.lst ys) :: nw) → Q' (.str (S (f l)) t') { s with heap := h', toks := tk' }) →
      wpAny (model prog w) A (eval elt (compEnvC scope cl C env)) Q' E' { s with heap := h, toks := tk })
    (fin : ∀ D zs h' tk', StrsAre zs (ms.map S) → Fr h₀ L h' m → News h₀ L h' ((D, LCg.lst zs) :: news) → Q (.ref D) { s with heap := h', toks := tk' }) :
    LCg.CompSrc prog w A h₀ L m env elt x scope cl (fun s₂ => LCg.FinE h₀ L m s₂ Q) (.ref ax) s := by
  have hwl := StrsAre.length hs
  rw [List.length_map] at hwl
  refine LCg.CompSrc.ledger hh F N (.head _) (by rw [sizeLine_eq, List.size_toArray]; omega) fun g => ?_
  refine rest_any (fun i v => IsS (S (f (ls.getD i []))) v) ?_ ?_
  · intro i v I oI C oC D m₂ zs h tk E' hi hv hC hx2 F3 N3 off3
    obtain ⟨t3, rfl⟩ := strs_S hs (by simpa [hwl] using hi) (by simpa using hv)
    refine turn _ t3 I oI C oC D m₂ zs _ h tk E' _ (getD_prop (p := fun x => x.length ≤ 1001) hx (by simp) i) hC hx2 F3 N3 fun t' h' tk' F4 N4 => ?_
    exact ⟨h', tk', _, rfl, F4, N4, off3, .inr ⟨_, .head _, rfl, _, rfl⟩, rfl, t', rfl⟩
  · intro zs hzl hzs D h tk F3 N3 off3
    have := strs_end (ls := ls) f (by simpa [hwl] using hzl) hzs
    rw [he] at this
    refine fin D zs h tk this F3 (fun p hp => N3 p ?_)
    rcases List.mem_cons.mp hp with rfl | hp
    · exact .head _
    · exact .tail _ (.tail _ hp)
end
end Mine
end

section
open PySem PySem.W PyProof.Rows PySem.Calls
set_option maxRecDepth 100000
namespace Mine
theorem fill7b : PySem.Challenge.rw_pk0010_01 = PySem.Challenge.rw_pk0010_01 ∧ hd.heap_39 = hd.heap_39 := by
  k_fill
  exact ⟨rfl, rfl⟩
section
variable {prog : Program} {w : World} {A : Around} {E : Value → Shared → Prop} {s : Shared} {Q : Value → Shared → Prop} {h₀ : Heap} {L : Addr} {m : Str → Option Value} {news : List (Addr × Obj)} {env : Env} {X : Expr}
theorem join_S2 {D : Addr} {items : List Value} {ls : List (List Nat)} {z : List Nat} {t : Tok} (hl : s.heap.IsList D items.toArray) (hi : StrsAre items (ls.map S)) (he : ls.flatten = z) (hok : z.length ≤ 1000000)
    (h : ∀ t' k, Q (.str (S z) t') { s with toks := k }) : wpAny (model prog w) A (call (.builtin "str.join") [.str Str.empty t, .ref D]) Q E s := by
  subst he; exact join_S hl hi hok h
theorem dots_S2 {n : Int} {t u : Tok} {z : List Nat} (he : List.replicate n.toNat 46 = z) (h0 : 0 ≤ n) (hz : n ≤ 1000) (h : ∀ t' k, Q (.str (S z) t') { s with toks := k }) : wpAny (model prog w) A (binaryOp .Mult (.str (Str.ofString ".") t) (.int n u)) Q E s := by
  subst he; exact dots_S h0 hz h
theorem ne_self {x : Str} {t u : Tok} (h : Q (.bool false) s) : wpAny (model prog w) A (compareOp .NotEq (.str x t) (.str x u)) Q E s :=
  ne_str (by rw [show (x != x) = false from by simp]; exact h)
theorem ne_sameL {a b : Addr} {xs ys : List Value} {ns : List Str} (ha : s.heap.IsList a xs.toArray) (hb : s.heap.IsList b ys.toArray) (hi : StrsAre xs ns) (hj : StrsAre ys ns) (oa : ∀ z ∈ ns, PyData.strOk z = true) (hu : A.units + 64 < cLine) (h : Q (.bool false) s) :
    wpAny (model prog w) A (compareOp .NotEq (.ref a) (.ref b)) Q E s := ne_strs ha hb hi hj oa oa hu (by rw [decide_eq_true rfl]; exact h)
/-- the three ends in their list -/
def endV (b : Bool) (t1 t2 t3 : Tok) : List Value := if b then [.str (Str.ofString "\n") t1, .str (Str.ofString "\r\n") t2, .str (Str.ofString "\n") t3] else [.str (Str.ofString "\n") t1, .str (Str.ofString "\r") t2, .str (Str.ofString "\r\n") t3]
theorem endV_len (b : Bool) (t1 t2 t3 : Tok) : (endV b t1 t2 t3).length = 3 := by cases b <;> rfl
theorem endV_at (b : Bool) (t1 t2 t3 : Tok) (k : Int) (h0 : 0 ≤ k) (h3 : k < 3) : ∃ t, (endV b t1 t2 t3)[k.toNat]? = some (.str (S (endE b k)) t) := by
  have : k = 0 ∨ k = 1 ∨ k = 2 := by omega
  rcases this with rfl | rfl | rfl <;> cases b <;> exact ⟨_, rfl⟩
theorem ends_at {value slice : PySem.Expr} {l : Addr} {b : Bool} {t1 t2 t3 u : Tok} {k : Int} (hl : s.heap.IsList l (endV b t1 t2 t3).toArray) (h0 : 0 ≤ k) (h3 : k < 3) (h : ∀ t, Q (.str (S (endE b k)) t) s)
    (hs : subscripted slice false (.ref l) (.int k u) = operate [.ref l, .int k u] (getItem (.ref l) (.int k u)) := by with_unfolding_all rfl) :
    wpAny (model prog w) A (subscriptTail value slice (.ref l) (.int k u)) Q E s := by
  obtain ⟨t, ht⟩ := endV_at b t1 t2 t3 k h0 h3
  exact item_at hl ht h0 (by rw [endV_len]; decide) (h t) hs
theorem ends_cut {T : Type} {M : Sem T} {Q : T → Shared → Prop} {E : Value → Shared → Prop} (P : Bool → Prop) (V : Value → T) (_ : Fr h₀ L s.heap m) (_ : News h₀ L s.heap news)
    (walk : ∀ Q' : T → Shared → Prop, (∀ b D h' tk' t1 t2 t3 e, P b → Fr h₀ L h' m → News h₀ L h' ((D, { cls := .type "list", data := .seq (endV b t1 t2 t3).toArray e }) :: news) → AllLt D news → Q' (V (.ref D)) { s with heap := h', toks := tk' }) → wpAny (model prog w) A M Q' E s)
    (rest : ∀ b D h' tk' t1 t2 t3 e, P b → Fr h₀ L h' m → News h₀ L h' ((D, { cls := .type "list", data := .seq (endV b t1 t2 t3).toArray e }) :: news) → AllLt D news → Q (V (.ref D)) { s with heap := h', toks := tk' }) :
    wpAny (model prog w) A M Q E s := walk Q rest
end
section
variable {prog : Program} {w : World} {A : Around} {E : Value → Shared → Prop} {Q : Value → Shared → Prop} {h₀ h : Heap} {L : Addr} {m : Str → Option Value} {news : List (Addr × Obj)} {gs : Array GenState} {dr : Drawn} {tk : Nat} {os : OsState}
theorem init_S2 {value slice : PySem.Expr} {l : Addr} {vs : List Value} {ps : List (List Nat)} {z : List Nat} {ops : List Value} {u : Tok} (F : Fr h₀ L h m) (N : News h₀ L h news) (hl : h.IsList l vs.toArray) (hs' : StrsAre vs ((ps ++ [z]).map S)) (hz : ps.length ≤ 1000)
    (hq : ∀ D ws h', StrsAre ws (ps.map S) → Fr h₀ L h' m → News h₀ L h' ((D, { cls := .type "list", data := .seq ws.toArray }) :: news) → Q (.ref D) ⟨h', gs, dr, tk, os⟩)
    (hs : subscripted slice false (.ref l) (.ref h.objs.size) = operate ops (getItem (.ref l) (.ref h.objs.size)) := by with_unfolding_all rfl)
    (ht : ∀ r, letTemporaryGo value (.ref l) r = pure () := by intro _; with_unfolding_all rfl) :
    wpAny (model prog w) A (subscriptTail value slice (.ref l) (.ref h.objs.size)) Q E ⟨h.push { cls := .type "slice", data := .fields #[.none, .int (-1) u, .none] }, gs, dr, tk, os⟩ :=
  init_S (s := ⟨h, gs, dr, tk, os⟩) F N hl hs' hz (fun ws h' a b c => hq _ ws h' a b c) hs ht
theorem head_S2 {value slice : PySem.Expr} {l : Addr} {vs : List Value} {zs : List Str} {ops : List Value} {u : Tok} (F : Fr h₀ L h m) (N : News h₀ L h news) (hl : h.IsList l vs.toArray) (hs' : StrsAre vs zs) (hz : zs.length ≤ 1000)
    (hq : ∀ D ws h', StrsAre ws (zs.take 1) → Fr h₀ L h' m → News h₀ L h' ((D, { cls := .type "list", data := .seq ws.toArray }) :: news) → Q (.ref D) ⟨h', gs, dr, tk, os⟩)
    (hs : subscripted slice false (.ref l) (.ref h.objs.size) = operate ops (getItem (.ref l) (.ref h.objs.size)) := by with_unfolding_all rfl)
    (ht : ∀ r, letTemporaryGo value (.ref l) r = pure () := by intro _; with_unfolding_all rfl) :
    wpAny (model prog w) A (subscriptTail value slice (.ref l) (.ref h.objs.size)) Q E ⟨h.push { cls := .type "slice", data := .fields #[.none, .int 1 u, .none] }, gs, dr, tk, os⟩ :=
  head_S (s := ⟨h, gs, dr, tk, os⟩) F N hl hs' hz (fun ws h' a b c => hq _ ws h' a b c) hs ht
theorem tail_S2 {value slice : PySem.Expr} {l : Addr} {vs : List Value} {zs : List Str} {ops : List Value} {u : Tok} (F : Fr h₀ L h m) (N : News h₀ L h news) (hl : h.IsList l vs.toArray) (hs' : StrsAre vs zs) (hz : zs.length ≤ 1000)
    (hq : ∀ D ws h', StrsAre ws (zs.drop 1) → Fr h₀ L h' m → News h₀ L h' ((D, { cls := .type "list", data := .seq ws.toArray }) :: news) → Q (.ref D) ⟨h', gs, dr, tk, os⟩)
    (hs : subscripted slice false (.ref l) (.ref h.objs.size) = operate ops (getItem (.ref l) (.ref h.objs.size)) := by with_unfolding_all rfl)
    (ht : ∀ r, letTemporaryGo value (.ref l) r = pure () := by intro _; with_unfolding_all rfl) :
    wpAny (model prog w) A (subscriptTail value slice (.ref l) (.ref h.objs.size)) Q E ⟨h.push { cls := .type "slice", data := .fields #[.int 1 u, .none, .none] }, gs, dr, tk, os⟩ :=
  tail_S (s := ⟨h, gs, dr, tk, os⟩) F N hl hs' hz (fun ws h' a b c => hq _ ws h' a b c) hs ht
theorem split_S2 {s : Shared} {ps : List (List Nat)} {last : List Nat} {t u : Tok} (hF : Fr h₀ L s.heap m) (hN : News h₀ L s.heap news) (hc : ∀ q ∈ ps, Clean q) (hc' : Clean last) (ha : ∀ c ∈ crlf ps last, c < 128) (hz : (crlf ps last).length ≤ 1000000)
    (h : ∀ D vs h' k, StrsAre vs ((ps ++ [last]).map S) → Fr h₀ L h' m → News h₀ L h' ((D, { cls := .type "list", data := .seq vs.toArray }) :: news) → Q (.ref D) { s with heap := h', toks := k }) :
    wpAny (model prog w) A (call (.builtin "str.split") [.str (S (crlf ps last)) t, .str sepS u]) Q E s :=
  split_S hF hN hc hc' ha hz fun vs h' k a b c => h _ vs h' k a b c
end
local macro_rules | `(tactic| walk_at "compareOp NotEq str str") => `(tactic| k_dflt (refine ne_self ?_))
local macro_rules | `(tactic| walk_at "call builtin:len") => `(tactic| ((with_reducible show wpAny _ _ (call (Value.builtin "len") [Value.ref _]) _ _ _); refine Calls.call_len_list (by is_list) (by simp only [List.size_toArray]; omega) ?_))
local macro_rules | `(tactic| walk_at "subscriptTail") => `(tactic| ((with_reducible show wpAny _ _ (subscriptTail _ (Expr.Name _ _) (Value.ref _) (Value.int _ _)) _ _ _); refine item_at (by is_list) (by assumption) (by omega) (by omega) ?_ (by with_unfolding_all rfl)))
local macro_rules | `(tactic| walk_at "subscriptTail") => `(tactic| ((with_reducible show wpAny _ _ (subscriptTail _ (Expr.BinOp _ _ _ _) (Value.ref _) (Value.int _ _)) _ _ _); (k_dflt (refine ends_at (by is_list) (by assumption) (by assumption) ?_ (by with_unfolding_all rfl)); intro _)))
local macro_rules | `(tactic| walk_at "subscriptTail") => `(tactic| ((with_reducible show wpAny _ _ (subscriptTail _ (Expr.UnaryOp _ _ _) (Value.ref _) (Value.int _ _)) _ _ _); k_dflt (refine last_S (by is_list) (by assumption) ?_ (by with_unfolding_all rfl)); intro _))
local macro_rules | `(tactic| walk_at "call builtin:str.join") => `(tactic| (k_dflt (refine join_S2 (by is_list) (by assumption) (by assumption) (by omega) ?_); intro _ _))
local macro_rules | `(tactic| walk_at "call builtin:str.split") => `(tactic| (k_dflt (refine split_S2 (by assumption) (by assumption) (by assumption) (by assumption) (by assumption) (by omega) ?_); intro _ _ _ _ _ _ _))
local macro_rules | `(tactic| walk_at "call builtin:str.strip") => `(tactic| (refine SCL.stripChars (hsz := by rw [S_len, sizeLine_eq]; omega) ?_; rw [strip_dots (by assumption)]; intro _ _ _))
local macro_rules | `(tactic| walk_at "binaryOp Mult str int") => `(tactic| (k_dflt (refine dots_S2 (by assumption) (by omega) (by omega) ?_); intro _ _))
local macro_rules | `(tactic| walk_at "binaryOp Mult int str") => `(tactic| (k_dflt (refine two_S (by omega) ?_); intro _ _))
local macro_rules | `(tactic| walk_at "binaryOp Add str str") => `(tactic| (k_dflt (refine add_S (by assumption) ?_); intro _ _))
local macro_rules | `(tactic| walk_at "call ref") => `(tactic| (k_dflt (refine fr_sent (by assumption) (by assumption) (by assumption) (by assumption) (by simp only [depth_deeper]; omega) (by assumption) (by assumption) (by assumption) ?_); intro _ _ _ _ _))
local macro_rules | `(tactic| walk_at "subscriptTail Name Slice ref ref") => `(tactic| ((with_reducible show wpAny _ _ (subscriptTail _ (Expr.Slice none (some _) none _) (Value.ref _) (Value.ref _)) _ _ _); (try dsimp only); k_dflt (first
  | refine init_S2 (by assumption) (by assumption) (by is_list) (by assumption) (by assumption) ?_ (by with_unfolding_all rfl) (by intro _; with_unfolding_all rfl)
  | refine head_S2 (by assumption) (by assumption) (by is_list) (by assumption) (by assumption) ?_ (by with_unfolding_all rfl) (by intro _; with_unfolding_all rfl)); intro _ _ _ _ _ _))
local macro_rules | `(tactic| walk_at "subscriptTail Name Slice ref ref") => `(tactic| ((with_reducible show wpAny _ _ (subscriptTail _ (Expr.Slice (some _) none none _) (Value.ref _) (Value.ref _)) _ _ _); (try dsimp only); k_dflt (
  refine tail_S2 (by assumption) (by assumption) (by is_list) (by assumption) (by assumption) ?_ (by with_unfolding_all rfl) (by intro _; with_unfolding_all rfl)); intro _ _ _ _ _ _))

set_option maxHeartbeats 1500000 in
theorem law_mailed {prog p : Program} {loose : List Str} {w : World} {A : Around} {s : Shared} {mean : ExcName → Option Value} {mg mb : Str → Option Value} {l : Addr} {vs : List Value} {r0 : List Nat} {rl : List (List Nat)} {go turn : Nat} {t u : Tok} {R : Result → Shared → Prop}
    (KX : (hd.heap_39 w.params).In s.heap) (T : Top p loose mean mg mb s.heap) (hroom : A.depth < 500) (hh : A.handled = none) (hu : A.units < 1000) (hl : s.heap.IsList l vs.toArray) (hs : StrsAre vs ((r0 :: rl).map S)) (hz : rl.length ≤ 100) (hx : ∀ x ∈ rl, x.length ≤ 1000)
    (hcl : ∀ x ∈ rl, Clean x) (hlow : ∀ x ∈ rl, ∀ c ∈ x, c < 128) (hdots : ∀ x ∈ rl, ∀ c ∈ x.drop 1, c = 46)
    (hgo : go ≤ 10) (hturn : turn < 1000000000000)
    (h : ∀ D ys e h' tk', Keeps s.heap h' → s.heap.get? D = none → h'.get? D = some { cls := .type "list", data := .seq (List.toArray ys) e } → StrsAre ys ((r0 :: rl.map dotP).map S) → R (.ok (.ret (.ref D))) { s with heap := h', toks := tk' }) :
    codeAny (model prog w) A (.call (.ref 91) ⟨[.ref l, .int (go : Int) t, .int (turn : Int) u], []⟩) R s := by
  obtain ⟨ah, ad, af, ag, au⟩ := A
  obtain rfl : ah = none := hh
  replace hroom : ad < 500 := hroom
  replace hu : au < 1000 := hu
  have hlen : vs.length = rl.length + 1 := by have := StrsAre.length hs; simpa using this
  refine call_ownC [(Str.ofString "rows", .ref l), (Str.ofString "go", .int (go : Int) t), (Str.ofString "turn", .int (turn : Int) u)] KX T (by show ad < 900; omega) (by k_is) (by k_is) rfl rfl (by decide +kernel) (fun L h₁ tk cells hL F N Y => ?_)
  obtain ⟨o1, o2, o3, o4, rfl, d1, d2, d3, d4⟩ := CellsAre.four Y
  clear Y
  have F' : Fr s.heap L h₁ (fun _ => none) := F
  have d1' : o1.data = .cell none := d1
  have d2' : o2.data = .cell (some (.int (turn : Int) u)) := d2
  have d3' : o3.data = .cell (some (.int (go : Int) t)) := d3
  have d4' : o4.data = .cell (some (.ref l)) := d4
  clear F d1 d2 d3 d4
  have t0 := Int.fmod_nonneg_of_pos ((turn : Int).fdiv 108 + (go : Int)) (show (0 : Int) < 2 by decide)
  have t1 := Int.fmod_lt_of_pos ((turn : Int).fdiv 108 + (go : Int)) (show (0 : Int) < 2 by decide)
  repeat' ((fail_if_success (with_reducible show wpAny _ _ (eval (Expr.IfExp _ _ _ _) _) _ _ _)); (first | walk1 | (dsimp only; walk1)))
  rename Fr _ _ _ _ => FF
  rename News _ _ _ _ => NN
  dsimp only at FF NN ⊢
  refine ends_cut (fun b => b = true ↔ ((turn : Int).fdiv 12 + (go : Int)).fmod 3 = 2) (fun v => v) FF NN ?_ ?_
  · intro Q' hQ
    k_steps
    · exact hQ true _ _ _ _ _ _ 0 ⟨fun _ => by assumption, fun _ => rfl⟩ (by assumption) (by assumption) (by simp only [AllLt, and_true]; assumption)
    · exact hQ false _ _ _ _ _ _ 0 ⟨fun h => (by cases h), fun h => absurd h (by assumption)⟩ (by assumption) (by assumption) (by simp only [AllLt, and_true]; assumption)
  · intro b De he tke e1 e2 e3 en hb FE NE LE
    clear FF NN
    simp only [AllLt, and_true] at LE
    dsimp only
    have hsent := mail_sent (b := b) (rl := rl) (turn := turn) (go := go) hb hcl
    have hml := mail_len (b := b) (turn := turn) (go := go) hz hx
    have hma := mail_asc (b := b) (turn := turn) (go := go) hlow
    generalize hT : List.replicate (((turn : Int).fdiv 108 + (go : Int)).fmod 2).toNat 46 = TT at hsent
    have hTl : TT.length ≤ 1 := by rw [← hT, List.length_replicate]; omega
    have hTa : ∀ c ∈ TT, c = 46 := by rw [← hT]; exact fun c hc => List.eq_of_mem_replicate hc
    generalize hM : mailT b rl turn go = MT at hsent hml hma
    have hfl : MT.length + TT.length ≤ 1000000 := by omega
    have hfl' : (MT ++ TT).length ≤ 1000000 := by rw [List.length_append]; omega
    have hfa : Asc (MT ++ TT) := fun c hc => (List.mem_append.mp hc).elim (hma c) (fun h => by rw [hTa c h]; decide)
    repeat' ((fail_if_success (with_reducible show wpAny _ _ (eval (Expr.ListComp _ _ _ _) _) _ _ _)); (first | walk1 | (dsimp only; walk1)))
    refine LCg.ListComp_U (F₀ := by assumption) (by with_unfolding_all rfl) (by decide) (by rfl) (by decide) (by rfl) ?_
    repeat' ((fail_if_success (with_reducible show LCg.CompSrc _ _ _ _ _ _ _ _ _ _ _ _ _ _)); (first | walk1 | (dsimp only; walk1)))
    refine LCg.CompSrc.range (n := rl.length) rfl (by assumption) (by assumption) (by assumption) (small_one (by decide) (by decide) (by omega) (by simp only [List.size_toArray]; omega)) (by rw [rangeSize_nat, List.size_toArray]; omega) (by rw [sizeLine_eq]; omega) ?_
    intro g
    refine rest_any (fun i v => IsS (S (rl.getD i [] ++ endE b (((turn : Int).fdiv 36 + (go : Int) + (1 + (i : Int))).fmod 3))) v) ?_ ?_
    · intro i v I oI C oC D m₂ ys hp tk E' hi hv hC hx2 F2 N2 off2
      clear hsent hml hma hfl hfl' hfa hM hcl hlow hdots
      obtain ⟨t, rfl⟩ := hv
      obtain ⟨t', hat⟩ := strs_at hs (i := i + 1) (by simp; omega)
      have hin : ((1 : Int) + (i : Int)).toNat = i + 1 := by omega
      have hat2 : vs[((1 : Int) + (i : Int)).toNat]? = some (.str (S (rl.getD i [])) t') := by
        rw [hin, hat, List.getD_eq_getElem?_getD, List.getD_eq_getElem?_getD, List.getElem?_map, List.getElem?_cons_succ, List.getElem?_eq_getElem hi]; rfl
      clear hat
      have hxl : (rl.getD i []).length ≤ 1000 := getD_prop (p := fun x => x.length ≤ 1000) hx (by simp) i
      have hel := end_len b (((turn : Int).fdiv 36 + (go : Int) + (1 + (i : Int))).fmod 3)
      have hsum : (rl.getD i []).length + (endE b (((turn : Int).fdiv 36 + (go : Int) + (1 + (i : Int))).fmod 3)).length ≤ 1000000 := by omega
      have x0 := Int.fmod_nonneg_of_pos ((turn : Int).fdiv 36 + (go : Int) + (1 + (i : Int))) (show (0 : Int) < 3 by decide)
      have x1 := Int.fmod_lt_of_pos ((turn : Int).fdiv 36 + (go : Int) + (1 + (i : Int))) (show (0 : Int) < 3 by decide)
      simp only [LCg.Off3, and_true] at off2
      dsimp only
      k_steps
      exact ⟨_, rfl⟩
    · intro ys hyl hys D h' tk' F2 N2 off2
      simp only [LCg.Off1, and_true] at off2
      have hys' : StrsAre ys (((List.range' 0 rl.length).map fun (i : Nat) => rl.getD i [] ++ endE b (((turn : Int).fdiv 36 + (go : Int) + (1 + (i : Int))).fmod 3)).map S) := by
        refine strs_of (by simp [hyl]) fun j z k h1 h2 => ?_
        have hj : j < rl.length := by
          rcases Nat.lt_or_ge j ys.length with h | h
          · simpa [hyl] using h
          · rw [List.getElem?_eq_none h] at h1; cases h1
        rw [List.getElem?_map, List.getElem?_map, List.getElem?_range' hj] at h2
        cases h2
        have := hys j z h1
        rw [show 0 + 1 * j = j from by omega]
        exact this
      clear hys
      have hflat : (((List.range' 0 rl.length).map fun (i : Nat) => rl.getD i [] ++ endE b (((turn : Int).fdiv 36 + (go : Int) + (1 + (i : Int))).fmod 3))).flatten = MT := hM
      have hps : ∀ q ∈ rl.map dotP, Clean q := fun q hq => by obtain ⟨x, hx', rfl⟩ := List.mem_map.mp hq; exact clean_dot (hcl x hx')
      have hTT : Clean (TT ++ TT) := fun c hc => by
        have : c = 46 := (List.mem_append.mp hc).elim (hTa c) (hTa c)
        subst this; exact ⟨by decide, by decide⟩
      have hca : ∀ c ∈ crlf (rl.map dotP) (TT ++ TT), c < 128 := crlf_low (fun q hq => by obtain ⟨x, hx', rfl⟩ := List.mem_map.mp hq; exact dotP_low (hlow x hx')) (fun c hc => by
        have : c = 46 := (List.mem_append.mp hc).elim (hTa c) (hTa c)
        subst this; decide)
      have hcn : (crlf (rl.map dotP) (TT ++ TT)).length ≤ 1000000 := by
        have := crlf_len (K := 1001) (ps := rl.map dotP) (z := TT ++ TT) (fun q hq => by obtain ⟨x, hx', rfl⟩ := List.mem_map.mp hq; have := dotP_len x; have := hx x hx'; omega)
        rw [List.length_map, List.length_append] at this
        omega
      have hpl : (rl.map dotP).length ≤ 1000 := by rw [List.length_map]; omega
      have hrl : ((r0 :: rl).map S).length ≤ 1000 := by simp; omega
      have hx2 : ∀ y ∈ rl.map dotP, y.length ≤ 1001 := fun y hy => by obtain ⟨x, hx', rfl⟩ := List.mem_map.mp hy; have := dotP_len x; have := hx x hx'; omega
      have hx3 : ∀ y ∈ rl, y.length ≤ 1001 := fun y hy => Nat.le_trans (hx y hy) (by decide)
      have he12 : (rl.map dotP).map (fun x => x.take 1) = rl.map (fun x => x.take 1) := by rw [List.map_map]; exact List.map_congr_left fun x _ => dotP_take x
      have hok1 : ∀ z ∈ (rl.map fun x => x.take 1).map S, PyData.strOk z = true := fun z hz' => by
        obtain ⟨y, hy, rfl⟩ := List.mem_map.mp hz'
        obtain ⟨x, hx', rfl⟩ := List.mem_map.mp hy
        exact S_ok fun c hc => hlow x hx' c (List.mem_of_mem_take hc)
      have hdd : ∀ c ∈ ((rl.map dotP).map (fun x => x.drop 1)).flatten, c = 46 := fun c hc => by
        obtain ⟨y, hy, hc⟩ := List.mem_flatten.mp hc
        obtain ⟨x, hx', rfl⟩ := List.mem_map.mp hy
        obtain ⟨z, hz', rfl⟩ := List.mem_map.mp hx'
        exact dotP_dots (hdots z hz') c hc
      have hdl : ((rl.map dotP).map (fun x => x.drop 1)).flatten.length ≤ 1000000 := by
        have := flat_len (K := 1001) (ls := (rl.map dotP).map (fun x => x.drop 1)) (fun y hy => by
          obtain ⟨x, hx', rfl⟩ := List.mem_map.mp hy
          have := hx2 x hx'; rw [List.length_drop]; omega)
        rw [List.length_map] at this
        have h2 : (rl.map dotP).length ≤ 100 := by rw [List.length_map]; exact hz
        omega
      obtain ⟨ZZ, hZ⟩ : ∃ ZZ, ((rl.map dotP).map (fun x => x.drop 1)).flatten = ZZ := ⟨_, rfl⟩
      rw [hZ] at hdd hdl
      dsimp only
      repeat' ((fail_if_success (with_reducible show wpAny _ _ (eval (Expr.ListComp _ _ _ _) _) _ _ _)); (first | walk1 | (dsimp only; walk1)))
      refine LCg.ListComp_U (F₀ := by assumption) (by with_unfolding_all rfl) (by decide) (by rfl) (by decide) (by rfl) ?_
      repeat' ((fail_if_success (with_reducible show LCg.CompSrc _ _ _ _ _ _ _ _ _ _ _ _ _ _)); (first | walk1 | (dsimp only; walk1)))
      try dsimp only
      refine src_strs (ls := rl.map dotP) (fun x => x.take 1) rfl (by assumption) (by assumption) (by assumption) hpl hx2 he12 ?_ ?_
      · intro l t I oI C oC D m₂ ys nw h tk E' Q' hz' hC hx' F3 N3 hq
        exact turn_part1 KX hC hx' hz' F3 N3 hq
      intro _ _ _ _ _ _ _
      try dsimp only
      repeat' ((fail_if_success (with_reducible show wpAny _ _ (eval (Expr.ListComp _ _ _ _) _) _ _ _)); (first | walk1 | (dsimp only; walk1)))
      refine LCg.ListComp_U (F₀ := by assumption) (by with_unfolding_all rfl) (by decide) (by rfl) (by decide) (by rfl) ?_
      repeat' ((fail_if_success (with_reducible show LCg.CompSrc _ _ _ _ _ _ _ _ _ _ _ _ _ _)); (first | walk1 | (dsimp only; walk1)))
      try dsimp only
      refine src_strs (ls := rl) (fun x => x.take 1) rfl (by assumption) (by assumption) (by assumption) (by omega) hx3 rfl ?_ ?_
      · intro l t I oI C oC D m₂ ys nw h tk E' Q' hz' hC hx' F3 N3 hq
        exact turn_row1 KX hC hx' hz' F3 N3 hq
      intro _ _ _ _ _ _ _
      try dsimp only
      k_dflt (refine ne_sameL (by is_list) (by is_list) (by assumption) (by assumption) (by assumption) (by show au + 3 + 64 < 9900; omega) ?_)
      repeat' ((fail_if_success (with_reducible show wpAny _ _ (eval (Expr.ListComp _ _ _ _) _) _ _ _)); (first | walk1 | (dsimp only; walk1)))
      refine LCg.ListComp_U (F₀ := by assumption) (by with_unfolding_all rfl) (by decide) (by rfl) (by decide) (by rfl) ?_
      repeat' ((fail_if_success (with_reducible show LCg.CompSrc _ _ _ _ _ _ _ _ _ _ _ _ _ _)); (first | walk1 | (dsimp only; walk1)))
      try dsimp only
      refine src_strs (ls := rl.map dotP) (fun x => x.drop 1) rfl (by assumption) (by assumption) (by assumption) hpl hx2 rfl ?_ ?_
      · intro l t I oI C oC D m₂ ys nw h tk E' Q' hz' hC hx' F3 N3 hq
        exact turn_part2 KX hC hx' hz' F3 N3 hq
      intro _ _ _ _ _ _ _
      try dsimp only
      repeat' ((fail_if_success (with_reducible show wpAny _ _ (binaryOp Operator.Add (Value.ref _) (Value.ref _)) _ _ _)); (first | walk1 | (dsimp only; walk1)))
      rename News _ _ _ _ => N9
      rename Fr _ _ _ _ => F9
      rename StrsAre _ (List.map S (List.map dotP rl)) => hb9
      rename StrsAre _ (List.take 1 (List.map S (r0 :: rl))) => ha9
      have la9 := StrsAre.length ha9
      have lb9 := StrsAre.length hb9
      rw [List.length_map, List.length_map] at lb9
      rw [List.length_take] at la9
      k_dflt (refine add_lists F9 N9 (N9.isList (.tail _ (.head _))) (N9.isList (.head _)) (fun h' FF NN => ?_) (by rw [sizeLine_eq]; omega))
      exact h _ _ _ _ _ FF.keep (NN _ (.head _)).2.2 (NN _ (.head _)).1 (ha9.append' hb9)
end Mine
end

section
open PySem PySem.W PyProof.Rows PySem.Calls
set_option maxRecDepth 100000
namespace Mine
/-- how many dots stand behind a row's first sign -/
def val (x : List Nat) : Nat := x.length - 1
/-- does a row begin by a dot? -/
def dotH (x : List Nat) : Bool := x.head? == some 46
/-- a row: empty, or its first sign and dots -/
def RowOk (mk : Nat) (x : List Nat) : Prop := x = [] ∨ ∃ c r, x = c :: r ∧ (c = 46 ∨ c = mk) ∧ ∀ d ∈ r, d = 46
def Mark (mk : Nat) : Prop := mk = 92 ∨ mk = 32 ∨ mk = 11 ∨ mk = 28
/-- the row that a row's dot goes to -/
def fullR (mk : Nat) (x : List Nat) : List Nat := (if x = [] then [mk] else x) ++ [46]
def cutR (x : List Nat) : List Nat := x.take (x.length - 16)
def fireR (mk : Nat) (rows : List (List Nat)) (p : Nat) : List (List Nat) := rows.take (p - 1) ++ [fullR mk (rows.getD (p - 1) []), cutR (rows.getD p [])] ++ rows.drop (p + 1)
def fireC (cs : List Nat) (p : Nat) : List Nat := cs.set p (cs.getD p 0 + 1)

structure Run (mk sd : Nat) (xs : List (List Nat)) (left n : Nat) (rows : List (List Nat)) (cs : List Nat) : Prop where
  len : rows.length = xs.length
  clen : cs.length = xs.length
  ok : ∀ x ∈ rows, RowOk mk x
  hd : ∀ i, dotH (rows.getD i []) = dotH (xs.getD i [])
  eq : ∀ i, val (rows.getD i []) + 16 * cs.getD i 0 = val (xs.getD i []) + cs.getD (i + 1) 0 + (if dotH (xs.getD i []) = true then sd - left else 0)
  c0 : cs.getD 0 0 = 0
  ll : left ≤ sd
  me : n = (rows.map val).sum + left * rows.length

theorem two_set {α : Type} {a b : α} : ∀ (l : List α) (p : Nat), p + 1 < l.length → l.take p ++ [a, b] ++ l.drop (p + 2) = (l.set p a).set (p + 1) b
  | [], p, h => absurd h (Nat.not_lt_zero _)
  | [x], p, h => by simp at h
  | x :: y :: r, 0, _ => rfl
  | x :: y :: r, p + 1, h => by
    have := two_set (a := a) (b := b) (y :: r) p (by simpa using h)
    simpa using this
theorem sum_set {α : Type} {f : α → Nat} {a d : α} : ∀ (l : List α) (i : Nat), i < l.length → ((l.set i a).map f).sum + f (l.getD i d) = (l.map f).sum + f a
  | [], i, h => absurd h (Nat.not_lt_zero _)
  | x :: r, 0, _ => by simp; omega
  | x :: r, i + 1, h => by
    have := sum_set (f := f) (a := a) (d := d) r i (by simpa using h)
    simp only [List.set_cons_succ, List.map_cons, List.sum_cons, List.getD_cons_succ]
    omega
theorem getD_set {α : Type} {a d : α} (l : List α) (i j : Nat) (h : i < l.length) : (l.set i a).getD j d = if j = i then a else l.getD j d := by
  rw [List.getD_eq_getElem?_getD, List.getElem?_set]
  by_cases e : i = j
  · subst e; simp [h]
  · rw [if_neg e, if_neg (fun x => e x.symm), List.getD_eq_getElem?_getD]
theorem getD_mem {α : Type} {d : α} {l : List α} {i : Nat} (h : i < l.length) : l.getD i d ∈ l := by
  rw [List.getD_eq_getElem?_getD, List.getElem?_eq_getElem h]; exact List.getElem_mem h

section
variable {mk : Nat} {x : List Nat}
theorem val_dot (x : List Nat) : val (dotP x) = val x + (if dotH x = true then 1 else 0) := by
  cases x with
  | nil => rfl
  | cons c r =>
    show val (if c = 46 then 46 :: 46 :: r else c :: r) = _
    by_cases h : c = 46
    · subst h; rfl
    · have : dotH (c :: r) = false := by simp [dotH, h]
      rw [if_neg h, this]; rfl
theorem dotH_dot (x : List Nat) : dotH (dotP x) = dotH x := by
  cases x with
  | nil => rfl
  | cons c r =>
    show dotH (if c = 46 then 46 :: 46 :: r else c :: r) = _
    split
    · rename_i h; subst h; rfl
    · rfl
theorem dot_id (h : dotH x = false) : dotP x = x := by
  cases x with
  | nil => rfl
  | cons c r =>
    show (if c = 46 then 46 :: 46 :: r else c :: r) = _
    rw [if_neg (by intro e; subst e; cases h)]
theorem ok_dot (h : RowOk mk x) : RowOk mk (dotP x) := by
  rcases h with rfl | ⟨c, r, rfl, hc, hr⟩
  · exact .inl rfl
  · refine .inr ?_
    show ∃ c' r', (if c = 46 then 46 :: 46 :: r else c :: r) = c' :: r' ∧ _
    split
    · exact ⟨46, 46 :: r, rfl, .inl rfl, fun d hd => by rcases List.mem_cons.mp hd with rfl | hd; rfl; exact hr d hd⟩
    · exact ⟨c, r, rfl, hc, hr⟩
theorem ok_full (h : RowOk mk x) : RowOk mk (fullR mk x) := by
  unfold fullR
  rcases h with rfl | ⟨c, r, rfl, hc, hr⟩
  · exact .inr ⟨mk, [46], rfl, .inr rfl, fun d hd => by simpa using hd⟩
  · refine .inr ⟨c, r ++ [46], by simp, hc, fun d hd => ?_⟩
    rcases List.mem_append.mp hd with h | h
    · exact hr d h
    · simpa using h
theorem ok_cut (h : RowOk mk x) : RowOk mk (cutR x) := by
  unfold cutR
  rcases h with rfl | ⟨c, r, rfl, hc, hr⟩
  · exact .inl (by simp)
  · cases hk : (c :: r).length - 16 with
    | zero => exact .inl rfl
    | succ k => exact .inr ⟨c, r.take k, rfl, hc, fun d hd => hr d (List.mem_of_mem_take hd)⟩
theorem val_full (x : List Nat) : val (fullR mk x) = val x + 1 := by
  unfold fullR val
  cases x with
  | nil => rfl
  | cons c r => simp
theorem val_cut (h : 16 < x.length) : val (cutR x) + 16 = val x := by
  unfold cutR val
  rw [List.length_take]; omega
theorem dotH_full (hm : mk ≠ 46) (x : List Nat) : dotH (fullR mk x) = dotH x := by
  unfold fullR
  cases x with
  | nil => simp [dotH, hm]
  | cons c r => simp [dotH]
theorem dotH_cut (h : 16 < x.length) : dotH (cutR x) = dotH x := by
  unfold cutR
  cases x with
  | nil => simp at h
  | cons c r =>
    obtain ⟨k, hk⟩ : ∃ k, (c :: r).length - 16 = k + 1 := ⟨(c :: r).length - 17, by omega⟩
    rw [hk]; simp [dotH]
theorem mark_ne (h : Mark mk) : mk ≠ 46 := by unfold Mark at h; omega
theorem ok_clean (hm : Mark mk) (h : RowOk mk x) : Clean x := by
  rcases h with rfl | ⟨c, r, rfl, hc, hr⟩
  · intro d hd; cases hd
  · intro d hd
    unfold Mark at hm
    rcases List.mem_cons.mp hd with rfl | hd
    · omega
    · have := hr d hd; omega
theorem ok_low (hm : Mark mk) (h : RowOk mk x) : ∀ c ∈ x, c < 128 := by
  rcases h with rfl | ⟨c, r, rfl, hc, hr⟩
  · intro d hd; cases hd
  · intro d hd
    unfold Mark at hm
    rcases List.mem_cons.mp hd with rfl | hd
    · omega
    · have := hr d hd; omega
theorem ok_dots (h : RowOk mk x) : ∀ c ∈ x.drop 1, c = 46 := by
  rcases h with rfl | ⟨c, r, rfl, hc, hr⟩
  · intro d hd; cases hd
  · exact hr
end

section
variable {mk sd left n : Nat} {xs rows : List (List Nat)} {cs : List Nat}
theorem getD_map_dot (rows : List (List Nat)) (i : Nat) : (rows.map dotP).getD i [] = dotP (rows.getD i []) := by
  rw [List.getD_eq_getElem?_getD, List.getD_eq_getElem?_getD, List.getElem?_map]
  cases rows[i]? <;> rfl
theorem sum_dot : ∀ rows : List (List Nat), ((rows.map dotP).map val).sum ≤ (rows.map val).sum + rows.length
  | [] => by simp
  | x :: r => by
    have := sum_dot r
    have h := val_dot x
    simp only [List.map_cons, List.sum_cons, List.length_cons]
    split at h <;> omega
theorem val_le_sum : ∀ {rows : List (List Nat)} {x : List Nat}, x ∈ rows → val x ≤ (rows.map val).sum
  | y :: r, x, h => by
    simp only [List.map_cons, List.sum_cons]
    rcases List.mem_cons.mp h with rfl | h
    · omega
    · have := val_le_sum h; omega
theorem Run.short (h : Run mk sd xs left n rows cs) : ∀ x ∈ rows, x.length ≤ n + 1 := fun x hx => by
  have h1 := val_le_sum hx
  have h2 := h.me
  have h3 : val x = x.length - 1 := rfl
  have : 0 ≤ left * rows.length := Nat.zero_le _
  omega

/-- a sending -/
theorem Run.mail {r0 : List Nat} {rl : List (List Nat)} (h : Run mk sd xs (left + 1) n (r0 :: rl) cs) (h0 : dotH (xs.getD 0 []) = false) : ∃ n', n' < n ∧ Run mk sd xs left n' (r0 :: rl.map dotP) cs := by
  have hr0 : dotH r0 = false := by have := h.hd 0; rw [h0] at this; exact this
  have e : r0 :: rl.map dotP = (r0 :: rl).map dotP := by rw [List.map_cons, dot_id hr0]
  refine ⟨_, ?_, ⟨?_, h.clen, ?_, ?_, ?_, h.c0, by have := h.ll; omega, rfl⟩⟩
  · rw [h.me]
    have := sum_dot rl
    simp only [List.map_cons, List.sum_cons, List.length_cons, List.length_map] at this ⊢
    rw [Nat.succ_mul left]; omega
  · have := h.len; simpa using this
  · rw [e]
    intro x hx
    obtain ⟨y, hy, rfl⟩ := List.mem_map.mp hx
    exact ok_dot (h.ok y hy)
  · intro i; rw [e, getD_map_dot, dotH_dot]; exact h.hd i
  · intro i
    have q := h.eq i
    have q2 := h.hd i
    have q3 := h.ll
    rw [e, getD_map_dot, val_dot, q2]
    by_cases hx : dotH (xs.getD i []) = true
    · rw [if_pos hx] at q ⊢
      rw [if_pos hx]; omega
    · rw [if_neg hx] at q ⊢
      rw [if_neg hx]; omega

theorem fire_eq {p : Nat} (h1 : 1 ≤ p) (hp : p < rows.length) : fireR mk rows p = (rows.set (p - 1) (fullR mk (rows.getD (p - 1) []))).set p (cutR (rows.getD p [])) := by
  unfold fireR
  have := two_set (a := fullR mk (rows.getD (p - 1) [])) (b := cutR (rows.getD p [])) rows (p - 1) (by omega)
  rw [show p - 1 + 2 = p + 1 from by omega, show p - 1 + 1 = p from by omega] at this
  exact this
/-- a row goes off -/
theorem Run.fire {p : Nat} (h : Run mk sd xs left n rows cs) (hm : Mark mk) (h1 : 1 ≤ p) (hp : p < rows.length) (hz : 16 < (rows.getD p []).length) : ∃ n', n' < n ∧ Run mk sd xs left n' (fireR mk rows p) (fireC cs p) := by
  have e := fire_eq (mk := mk) h1 hp
  have hcp : p < cs.length := by rw [h.clen, ← h.len]; exact hp
  have g : ∀ i, (fireR mk rows p).getD i [] = if i = p then cutR (rows.getD p []) else if i = p - 1 then fullR mk (rows.getD (p - 1) []) else rows.getD i [] := fun i => by
    rw [e, getD_set _ _ _ (by rw [List.length_set]; exact hp), getD_set _ _ _ (by omega)]
  have gc : ∀ i, (fireC cs p).getD i 0 = if i = p then cs.getD p 0 + 1 else cs.getD i 0 := fun i => getD_set _ _ _ hcp
  have hlen : (fireR mk rows p).length = rows.length := by rw [e]; simp
  have hsum : ((fireR mk rows p).map val).sum + 15 = (rows.map val).sum := by
    have s1 := sum_set (f := val) (a := cutR (rows.getD p [])) (d := []) (rows.set (p - 1) (fullR mk (rows.getD (p - 1) []))) p (by rw [List.length_set]; exact hp)
    have s2 := sum_set (f := val) (a := fullR mk (rows.getD (p - 1) [])) (d := []) rows (p - 1) (by omega)
    rw [← e, getD_set _ _ _ (by omega), if_neg (by omega)] at s1
    rw [val_full] at s2
    have := val_cut hz
    omega
  refine ⟨_, ?_, ⟨by rw [hlen]; exact h.len, by unfold fireC; rw [List.length_set]; exact h.clen, ?_, ?_, ?_, ?_, h.ll, rfl⟩⟩
  · rw [h.me, hlen]; omega
  · intro x hx
    rw [e] at hx
    rcases List.mem_or_eq_of_mem_set hx with hx | rfl
    · rcases List.mem_or_eq_of_mem_set hx with hx | rfl
      · exact h.ok x hx
      · exact ok_full (h.ok _ (getD_mem (by omega)))
    · exact ok_cut (h.ok _ (getD_mem hp))
  · intro i
    rw [g, ← h.hd i]
    split
    · rename_i e; subst e; exact dotH_cut hz
    · split
      · rename_i e; subst e; exact dotH_full (mark_ne hm) _
      · rfl
  · intro i
    have q := h.eq i
    rw [g, gc, gc]
    by_cases a1 : i = p
    · subst a1
      have := val_cut hz
      rw [if_pos rfl, if_pos rfl, if_neg (by omega)]; omega
    · by_cases a2 : i = p - 1
      · subst a2
        rw [if_neg a1, if_pos rfl, if_neg a1, if_pos (by omega), val_full]
        rw [show p - 1 + 1 = p from by omega] at q
        omega
      · rw [if_neg a1, if_neg a2, if_neg a1, if_neg (by omega)]; exact q
  · rw [gc, if_neg (by omega)]; exact h.c0
end
end Mine
end

section
open PySem PySem.W PyProof.Rows PySem.Calls
set_option maxRecDepth 100000
namespace Mine

/-- a number by its figures, the highest first -/
def num (l : List Nat) : Nat := l.foldl (fun acc d => acc * 16 + d) 0
theorem fold_acc : ∀ (l : List Nat) (acc : Nat), l.foldl (fun acc d => acc * 16 + d) acc = acc * 16 ^ l.length + num l
  | [], acc => by simp [num]
  | d :: r, acc => by
    unfold num
    rw [List.foldl_cons, fold_acc r, List.foldl_cons, fold_acc r (0 * 16 + d), List.length_cons, Nat.pow_succ, Nat.zero_mul, Nat.zero_add, Nat.add_mul, Nat.mul_assoc, Nat.mul_comm 16 (16 ^ r.length)]
    omega
theorem num_cons (d : Nat) (l : List Nat) : num (d :: l) = d * 16 ^ l.length + num l := by
  show List.foldl _ (0 * 16 + d) l = _
  rw [fold_acc]; simp
theorem num_snoc (l : List Nat) (d : Nat) : num (l ++ [d]) = num l * 16 + d := by
  unfold num; rw [List.foldl_append]; rfl
theorem num_lt : ∀ {l : List Nat}, (∀ d ∈ l, d ≤ 15) → num l < 16 ^ l.length
  | [], _ => by simp [num]
  | d :: r, h => by
    have ih := num_lt fun x hx => h x (List.mem_cons_of_mem d hx)
    have hd := h d List.mem_cons_self
    rw [num_cons, List.length_cons, Nat.pow_succ]
    have : d * 16 ^ r.length ≤ 15 * 16 ^ r.length := Nat.mul_le_mul_right _ hd
    omega

/-- without the A's ahead -/
def stripA (l : List UInt8) : List UInt8 := l.dropWhile (· == 65)
theorem apL_nil {n : Nat} : apL n = [] ↔ n = 0 := by
  constructor
  · intro h
    by_cases h0 : n = 0
    · exact h0
    · rw [apL_pos h0] at h; simp at h
  · rintro rfl; exact apL_zero
theorem lett_ne {d : Nat} (h : d ≤ 15) (h0 : d ≠ 0) : ((65 + d).toUInt8 == (65 : UInt8)) = false := by
  rw [beq_eq_false_iff_ne]
  intro e
  have := congrArg UInt8.toNat e
  rw [u8_back (by omega)] at this
  have e2 : (65 : UInt8).toNat = 65 := rfl
  omega
theorem strip_snoc (l : List UInt8) (x : UInt8) : stripA (l ++ [x]) = if stripA l = [] then stripA [x] else stripA l ++ [x] := by
  unfold stripA
  rw [List.dropWhile_append]
  by_cases h : List.dropWhile (fun x => x == 65) l = []
  · rw [if_pos h, h]; rfl
  · rw [if_neg h]
    have : (List.dropWhile (fun x => x == 65) l).isEmpty = false := by simpa using h
    rw [this]; rfl
theorem apL_snoc {n d : Nat} (h : d ≤ 15) : apL (n * 16 + d) = if n = 0 ∧ d = 0 then [] else apL n ++ [(65 + d).toUInt8] := by
  by_cases h0 : n = 0 ∧ d = 0
  · rw [if_pos h0, h0.1, h0.2, apL_zero]
  · rw [if_neg h0, apL_pos (by omega), show (n * 16 + d) / 16 = n from by omega, show (n * 16 + d) % 16 = d from by omega]
theorem strip_lett (l : List Nat) : (∀ d ∈ l, d ≤ 15) → stripA (l.map fun d => (65 + d).toUInt8) = apL (num l) := by
  suffices H : ∀ r : List Nat, (∀ d ∈ r.reverse, d ≤ 15) → stripA (r.reverse.map fun d => (65 + d).toUInt8) = apL (num r.reverse) by
    have := H l.reverse; rwa [List.reverse_reverse] at this
  intro r
  induction r with
  | nil => intro _; rw [List.reverse_nil]; exact apL_zero.symm
  | cons d r ih =>
    intro h
    rw [List.reverse_cons] at h ⊢
    have hd : d ≤ 15 := h d (by simp)
    rw [List.map_append, num_snoc, List.map_singleton, strip_snoc, ih fun x hx => h x (List.mem_append_left _ hx), apL_snoc hd]
    by_cases h0 : num r.reverse = 0
    · rw [h0, apL_zero, if_pos rfl]
      by_cases hd0 : d = 0
      · subst hd0; rfl
      · rw [if_neg (by omega)]
        unfold stripA
        rw [List.dropWhile_cons, lett_ne hd hd0]; rfl
    · rw [if_neg (fun e => h0 (apL_nil.mp e)), if_neg (by omega)]
theorem strip_ap : ∀ (n : Nat), stripA (apL n) = apL n := by
  intro n
  induction n using Nat.strongRecOn with
  | ind n ih =>
    by_cases h0 : n = 0
    · subst h0; rw [apL_zero]; rfl
    · rw [apL_pos h0, strip_snoc, ih (n / 16) (by omega)]
      by_cases h1 : apL (n / 16) = []
      · rw [if_pos h1, h1]
        have := apL_nil.mp h1
        unfold stripA
        rw [List.dropWhile_cons, lett_ne (by omega) (by omega)]; rfl
      · rw [if_neg h1]
theorem apL_shift {n : Nat} (h : n ≠ 0) : ∀ j : Nat, apL (n * 16 ^ j) = apL n ++ List.replicate j 65
  | 0 => by simp
  | j + 1 => by
    rw [Nat.pow_succ, ← Nat.mul_assoc, show n * 16 ^ j * 16 = n * 16 ^ j * 16 + 0 from rfl, apL_snoc (by omega), apL_shift h j, if_neg, List.append_assoc, List.replicate_succ']
    · rfl
    · intro hh
      rcases Nat.mul_eq_zero.mp hh.1 with h' | h'
      · exact h h'
      · exact absurd h' (Nat.pos_iff_ne_zero.mp (Nat.pow_pos (by decide)))
theorem strip_as : ∀ j : Nat, stripA (List.replicate j 65) = []
  | 0 => rfl
  | j + 1 => by
    rw [List.replicate_succ]
    show stripA (List.replicate j 65) = []
    exact strip_as j
theorem strip_more (n : Nat) (j : Nat) : stripA (apL n ++ List.replicate j 65) = apL (n * 16 ^ j) := by
  by_cases h : n = 0
  · subst h
    rw [Nat.zero_mul, apL_zero, List.nil_append]
    exact strip_as j
  · rw [apL_shift h]
    have hn : apL n ≠ [] := fun e => h (apL_nil.mp e)
    unfold stripA
    rw [List.dropWhile_append]
    have e := strip_ap n
    unfold stripA at e
    rw [e]
    have : (apL n).isEmpty = false := by simpa using hn
    rw [this]; rfl

theorem pad_snoc {w n : Nat} (h : (apL n).length ≤ w + 1) : padA (w + 1) (apL n) = padA w (apL (n / 16)) ++ [(65 + n % 16).toUInt8] := by
  by_cases h0 : n = 0
  · subst h0
    show List.replicate (w + 1 - (apL 0).length) 65 ++ apL 0 = List.replicate (w - (apL (0 / 16)).length) 65 ++ apL (0 / 16) ++ _
    rw [Nat.zero_div, apL_zero]
    simp only [List.length_nil, Nat.sub_zero, List.append_nil]
    rw [List.replicate_succ']; rfl
  · unfold padA
    rw [apL_pos h0, List.length_append, List.length_singleton, ← List.append_assoc]
    rw [show w + 1 - ((apL (n / 16)).length + 1) = w - (apL (n / 16)).length from by omega]
theorem pad_at : ∀ (w n i : Nat), (apL n).length ≤ w → i < w → ((padA w (apL n)).getD i 0).toNat = 65 + n / 16 ^ (w - 1 - i) % 16
  | 0, _, i, _, hi => absurd hi (Nat.not_lt_zero _)
  | w + 1, n, i, h, hi => by
    have hl : (apL (n / 16)).length ≤ w := by
      by_cases h0 : n = 0
      · subst h0; rw [Nat.zero_div, apL_zero]; exact Nat.zero_le _
      · rw [apL_pos h0, List.length_append, List.length_singleton] at h; omega
    have hpl := padA_len hl
    rw [pad_snoc h, List.getD_eq_getElem?_getD, List.getElem?_append]
    by_cases hiw : i < w
    · rw [if_pos (by rw [hpl]; exact hiw), ← List.getD_eq_getElem?_getD, pad_at w (n / 16) i hl hiw, Nat.div_div_eq_div_mul]
      rw [show w + 1 - 1 - i = (w - 1 - i) + 1 from by omega, Nat.pow_succ, Nat.mul_comm]
    · obtain rfl : i = w := by omega
      rw [if_neg (by rw [hpl]; exact Nat.lt_irrefl _), hpl, Nat.sub_self]
      show ((65 + n % 16).toUInt8).toNat = _
      rw [u8_back (by omega), show i + 1 - 1 - i = 0 from by omega]
      simp
theorem apL_le {j n : Nat} : (apL n).length ≤ j ↔ n < 16 ^ j := by
  constructor
  · induction j generalizing n with
    | zero =>
      intro h
      have : apL n = [] := List.eq_nil_of_length_eq_zero (by omega)
      rw [apL_nil.mp this]; decide
    | succ j ih =>
      intro h
      by_cases h0 : n = 0
      · subst h0; exact Nat.pow_pos (by decide)
      · rw [apL_pos h0, List.length_append, List.length_singleton] at h
        have := ih (n := n / 16) (by omega)
        rw [Nat.pow_succ]; omega
  · exact apL_len j n

/-- the dots that the figures at place k tell -/
def fig (a b k : Nat) : Nat := a / 16 ^ k % 16 + b / 16 ^ k % 16
theorem dot_at {a b i : Nat} (hi : i < max (apL a).length (apL b).length) : dotAt (apL a) (apL b) i = (fig a b (max (apL a).length (apL b).length - 1 - i) : Int) := by
  unfold dotAt
  rw [pad_at _ a i (by omega) hi, pad_at _ b i (by omega) hi]
  unfold fig
  omega

def low (a b sd k : Nat) : Nat := a % 16 ^ k + b % 16 ^ k + dueG a b sd k
def base (a b sd k : Nat) : Nat := fig a b k + (if fig a b k > 0 then sd else 0)
theorem low_succ (a b sd k : Nat) : low a b sd (k + 1) = low a b sd k + 16 ^ k * base a b sd k := by
  unfold low base
  show _ + _ + (dueG a b sd k + (if a / 16 ^ k % 16 + b / 16 ^ k % 16 > 0 then sd * 16 ^ k else 0)) = _
  rw [Nat.mod_pow_succ, Nat.mod_pow_succ]
  show _ + _ + (dueG a b sd k + (if fig a b k > 0 then sd * 16 ^ k else 0)) = _
  rw [Nat.mul_add]
  have : 16 ^ k * fig a b k = 16 ^ k * (a / 16 ^ k % 16) + 16 ^ k * (b / 16 ^ k % 16) := by unfold fig; rw [Nat.mul_add]
  rw [this]
  split
  · rw [Nat.mul_comm sd]; omega
  · omega
theorem dueG_le (a b : Nat) {sd : Nat} (h : sd ≤ 3) : ∀ k, 5 * dueG a b sd k + 1 ≤ 16 ^ k
  | 0 => by simp [dueG]
  | k + 1 => by
    have ih := dueG_le a b h k
    show 5 * (dueG a b sd k + (if a / 16 ^ k % 16 + b / 16 ^ k % 16 > 0 then sd * 16 ^ k else 0)) + 1 ≤ _
    rw [Nat.pow_succ]
    have : sd * 16 ^ k ≤ 3 * 16 ^ k := Nat.mul_le_mul_right _ h
    split <;> omega

section
variable {W a b sd : Nat} {v c : Nat → Nat}
theorem carries (hsd : sd ≤ 3) (hlast : c (W + 1) = 0) (hstep : ∀ k, k < W → v (W - k) + 16 * c (W - k) = base a b sd k + c (W - k + 1)) (hv : ∀ k, k < W → v (W - k) ≤ 15) :
    ∀ k, k ≤ W → num ((List.range' (W + 1 - k) k).map v) + 16 ^ k * c (W + 1 - k) = low a b sd k ∧ num ((List.range' (W + 1 - k) k).map v) < 16 ^ k
  | 0, _ => by simp [hlast, low, dueG, num, Nat.mod_one]
  | k + 1, hk => by
    obtain ⟨ih, ih2⟩ := carries hsd hlast hstep hv k (by omega)
    have e : List.range' (W + 1 - (k + 1)) (k + 1) = (W - k) :: List.range' (W + 1 - k) k := by
      rw [List.range'_succ, show W + 1 - (k + 1) = W - k from by omega, show W - k + 1 = W + 1 - k from by omega]
    have h1 := hstep k (by omega)
    have h2 := hv k (by omega)
    rw [show W - k + 1 = W + 1 - k from by omega] at h1
    rw [e, List.map_cons, num_cons, List.length_map, List.length_range', low_succ, ← ih, show W + 1 - (k + 1) = W - k from by omega, Nat.pow_succ]
    have h3 : 16 ^ k * (v (W - k) + 16 * c (W - k)) = 16 ^ k * (base a b sd k + c (W + 1 - k)) := by rw [h1]
    rw [Nat.mul_add, Nat.mul_add, ← Nat.mul_assoc] at h3
    have h4 : v (W - k) * 16 ^ k ≤ 15 * 16 ^ k := Nat.mul_le_mul_right _ h2
    rw [Nat.mul_comm (v (W - k))] at h4 ⊢
    omega

theorem carry_is (hsd : sd ≤ 3) (hlast : c (W + 1) = 0) (hstep : ∀ k, k < W → v (W - k) + 16 * c (W - k) = base a b sd k + c (W - k + 1)) (hv : ∀ k, k < W → v (W - k) ≤ 15) {k : Nat} (hk : k < W) : c (W - k) = dueC a b sd k := by
  obtain ⟨h1, h2⟩ := carries hsd hlast hstep hv (k + 1) (by omega)
  rw [show W + 1 - (k + 1) = W - k from by omega] at h1 h2
  unfold dueC
  show _ = low a b sd (k + 1) / 16 ^ (k + 1)
  rw [← h1, Nat.add_mul_div_left _ _ (Nat.pow_pos (by decide)), Nat.div_eq_of_lt h2, Nat.zero_add]
theorem total_is (hsd : sd ≤ 3) (ha : a < 16 ^ W) (hb : b < 16 ^ W) (h0 : v 0 = c 1) (hlast : c (W + 1) = 0) (hstep : ∀ k, k < W → v (W - k) + 16 * c (W - k) = base a b sd k + c (W - k + 1)) (hv : ∀ k, k < W → v (W - k) ≤ 15) :
    num ((List.range' 0 (W + 1)).map v) = a + b + dueG a b sd W ∧ v 0 ≤ 2 := by
  obtain ⟨h1, h2⟩ := carries hsd hlast hstep hv W (Nat.le_refl _)
  rw [show W + 1 - W = 1 from by omega] at h1 h2
  have hl : low a b sd W = a + b + dueG a b sd W := by unfold low; rw [Nat.mod_eq_of_lt ha, Nat.mod_eq_of_lt hb]
  constructor
  · rw [List.range'_succ, List.map_cons, num_cons, List.length_map, List.length_range', h0, ← hl, ← h1, Nat.zero_add, Nat.mul_comm (c 1), Nat.add_comm]
  · have h3 := dueG_le a b hsd W
    rw [h0]
    rw [hl] at h1
    have key : ∀ Z m G : Nat, a < Z → b < Z → m + Z * c 1 = a + b + G → 5 * G + 1 ≤ Z → Z * c 1 < Z * 3 := by
      intro Z m G x1 x2 x3 x4; omega
    have := Nat.lt_of_mul_lt_mul_left (key _ _ _ ha hb h1 h3)
    omega
end
end Mine
end

section
open PySem PySem.W PyProof.Rows PySem.Calls PySem.Spec PySem.Builtin
set_option maxRecDepth 100000
namespace Mine
abbrev LO (vs : List Value) (e : Nat) : Obj := { cls := .type "list", data := .seq vs.toArray e }

theorem ints_carried : ∀ {vs : List Value} {zs : List Int}, IntsAre vs zs → CarriedAll vs (zs.map PyData.int)
  | _, _, .nil => .nil
  | _, _, .cons _ t r => .cons (.int _ t) (ints_carried r)
theorem ints_lay : ∀ (zs : List Int), PyData.canLayAll0 (zs.map PyData.int) = true ∧ PyData.depthAll (zs.map PyData.int) = 0
  | [] => ⟨rfl, rfl⟩
  | z :: zs => by
    have ih := ints_lay zs
    simp [PyData.canLayAll0, PyData.canLay0, PyData.depthAll, PyData.depth, ih.1, ih.2]
theorem ints_shaped (zs : List Int) : SeqAt.shaped (.list (zs.map PyData.int)) = true := by
  have := ints_lay zs
  simp [SeqAt.shaped, PyData.canLay0, PyData.depth, this.1, this.2]
theorem ints_same : ∀ ns ms : List Int, PySem.Spec.sameAll (ns.map PyData.int) (ms.map PyData.int) = decide (ns = ms)
  | [], [] => by simp [PySem.Spec.sameAll]
  | [], _ :: _ => by simp [PySem.Spec.sameAll]
  | _ :: _, [] => by simp [PySem.Spec.sameAll]
  | a :: r, b :: t => by
    simp only [List.map_cons, PySem.Spec.sameAll, PySem.Spec.same, ints_same r t]
    by_cases h : a = b <;> by_cases h' : r = t <;> simp [h, h']
theorem ints_item : ∀ {vs : List Value} {zs : List Int}, IntsAre vs zs → ∀ {i : Nat}, i < zs.length → ∃ t, vs[i]? = some (.int (zs.getD i 0) t)
  | _, _, .nil, _, h => absurd h (Nat.not_lt_zero _)
  | _, _, .cons y t _, 0, _ => ⟨t, rfl⟩
  | _, _, .cons y t r, i + 1, h => by
    obtain ⟨u, hu⟩ := ints_item r (i := i) (by simpa using h)
    exact ⟨u, by simpa using hu⟩
theorem ints_set : ∀ {vs : List Value} {zs : List Int} (i : Nat) (x : Int) (t : Tok), IntsAre vs zs → IntsAre (vs.set i (.int x t)) (zs.set i x)
  | _, _, _, _, _, .nil => .nil
  | _, _, 0, x, t, .cons y u r => .cons x t r
  | _, _, i + 1, x, t, .cons y u r => .cons y u (ints_set i x t r)
theorem ints_rep (n : Nat) (t : Tok) : IntsAre (List.replicate n (.int 0 t)) (List.replicate n 0) := by
  induction n with
  | zero => exact .nil
  | succ n ih => exact .cons 0 t ih
theorem setL_some : ∀ {l : List Value} {k : Nat} {v : Value}, k < l.length → ki_setL l k v = some (l.set k v)
  | [], k, _, h => absurd h (Nat.not_lt_zero _)
  | x :: r, 0, _, _ => rfl
  | x :: r, k + 1, v, h => by
    unfold ki_setL
    rw [setL_some (by simpa using h)]; rfl
theorem ints_strs {vs : List Value} {zs : List Int} {ss : List Str} (h : IntsAre vs zs) (h' : StrsAre vs ss) : zs = [] := by
  cases h with
  | nil => rfl
  | cons y t r => cases h'

section
variable {prog p : Program} {loose : List Str} {w : World} {A : Around} {E : Value → Shared → Prop} {s : Shared} {mean : ExcName → Option Value} {mg mb : Str → Option Value} {h₀ : Heap} {L : Addr} {m : Str → Option Value} {news : List (Addr × Obj)} {Q : Value → Shared → Prop}
theorem ne_ints {a b : Addr} {xs ys : List Value} {ns ms : List Int} (ha : s.heap.IsList a xs.toArray) (hb : s.heap.IsList b ys.toArray) (hi : IntsAre xs ns) (hj : IntsAre ys ms) (hu : A.units + 64 < cLine) (h : Q (.bool (!decide (ns = ms))) s) :
    wpAny (model prog w) A (compareOp .NotEq (.ref a) (.ref b)) Q E s :=
  ne_dataH_same (reads_newData ha (ints_carried hi)) (reads_newData hb (ints_carried hj)) (ints_shaped ns) (ints_shaped ms) hu (SeqAt.noMix_of_shape (.list .int) rfl _ _ (list_map_has fun _ => rfl) (list_map_has fun _ => rfl)) (by
    rw [show PySem.Spec.same (.list (ns.map PyData.int)) (.list (ms.map PyData.int)) = decide (ns = ms) from by simp only [PySem.Spec.same]; exact ints_same ns ms]; exact h)
theorem ne_nilI {a b : Addr} {xs : List Value} {ns : List Int} (ha : s.heap.IsList a xs.toArray) (hb : s.heap.IsList b ([] : List Value).toArray) (hi : IntsAre xs ns) (hu : A.units + 64 < cLine) (h : Q (.bool (decide (ns ≠ []))) s) :
    wpAny (model prog w) A (compareOp .NotEq (.ref a) (.ref b)) Q E s :=
  ne_ints ha hb hi .nil hu (by rw [show (!decide (ns = [])) = decide (ns ≠ []) from by by_cases e : ns = [] <;> simp [e]]; exact h)
theorem eq_nilS {a b : Addr} {xs : List Value} {r : List Nat} {rl : List (List Nat)} (ha : s.heap.IsList a xs.toArray) (hb : s.heap.IsList b ([] : List Value).toArray) (hi : StrsAre xs ((r :: rl).map S)) (hlow : ∀ x ∈ r :: rl, ∀ c ∈ x, c < 128) (hu : A.units + 64 < cLine) (h : Q (.bool false) s) :
    wpAny (model prog w) A (compareOp .Eq (.ref a) (.ref b)) Q E s :=
  eq_strs ha hb hi .nil (fun z hz => by obtain ⟨x, hx, rfl⟩ := List.mem_map.mp hz; exact S_ok (hlow x hx)) (fun z hz => nomatch hz) hu (by rw [decide_eq_false (by simp)]; exact h)
/-- [0] times a number -/
theorem mul0 {l : Addr} {n : Nat} {t u : Tok} (F : Fr h₀ L s.heap m) (N : News h₀ L s.heap news) (hl : s.heap.IsList l [Value.int 0 t].toArray) (hn : n ≤ 200)
    (h : ∀ D ws h', IntsAre ws (List.replicate n 0) → Fr h₀ L h' m → News h₀ L h' ((D, LO ws 0) :: news) → Q (.ref D) { s with heap := h' }) : wpAny (model prog w) A (binaryOp .Mult (.ref l) (.int (n : Int) u)) Q E s := by
  refine KMa.mul (ws := List.replicate n (.int 0 t)) F N hl (by omega) (by omega) (by simp only [List.length_cons, List.length_nil, Int.toNat_natCast]; omega) ?_ (fun D h' F' N' _ => h D _ h' (ints_rep n t) F' N')
  rw [Int.toNat_natCast]
  clear hn h
  induction n with
  | zero => rfl
  | succ k ih => rw [List.replicate_succ, List.flatten_cons, ih, List.replicate_succ]; rfl
theorem addI {a b : Addr} {xs ys : List Value} {ns ms : List Int} (F : Fr h₀ L s.heap m) (N : News h₀ L s.heap news) (ha : s.heap.IsList a xs.toArray) (hb : s.heap.IsList b ys.toArray) (hi : IntsAre xs ns) (hj : IntsAre ys ms) (hz : ns.length + ms.length ≤ 1000000)
    (h : ∀ D ws h', IntsAre ws (ns ++ ms) → Fr h₀ L h' m → News h₀ L h' ((D, LO ws 0) :: news) → Q (.ref D) { s with heap := h' }) : wpAny (model prog w) A (binaryOp .Add (.ref a) (.ref b)) Q E s :=
  add_lists F N ha hb (fun h' F' N' => h _ _ h' (hi.append hj) F' N') (by have := hi.length; have := hj.length; rw [sizeLine_eq]; omega)
theorem addS {a b : Addr} {xs ys : List Value} {ns ms : List (List Nat)} (F : Fr h₀ L s.heap m) (N : News h₀ L s.heap news) (ha : s.heap.IsList a xs.toArray) (hb : s.heap.IsList b ys.toArray) (hi : StrsAre xs (ns.map S)) (hj : StrsAre ys (ms.map S)) (hz : ns.length + ms.length ≤ 1000000)
    (h : ∀ D ws h', StrsAre ws ((ns ++ ms).map S) → Fr h₀ L h' m → News h₀ L h' ((D, LO ws 0) :: news) → Q (.ref D) { s with heap := h' }) : wpAny (model prog w) A (binaryOp .Add (.ref a) (.ref b)) Q E s :=
  add_lists F N ha hb (fun h' F' N' => h _ _ h' (by rw [List.map_append]; exact hi.append' hj) F' N') (by have := StrsAre.length hi; have := StrsAre.length hj; rw [List.length_map] at *; rw [sizeLine_eq]; omega)
theorem lenI {a : Addr} {xs : List Value} {ns : List Int} (ha : s.heap.IsList a xs.toArray) (hi : IntsAre xs ns) (hz : ns.length ≤ 1000000) (h : ∀ t k, Q (.int ((ns.length : Nat) : Int) t) { s with toks := k }) : wpAny (model prog w) A (call (.builtin "len") [.ref a]) Q E s :=
  Calls.call_len_list ha (by have := hi.length; simp only [List.size_toArray]; omega) (by have e := hi.length; simp only [List.size_toArray, e]; exact h _ _)
theorem lenS {a : Addr} {xs : List Value} {ns : List (List Nat)} (ha : s.heap.IsList a xs.toArray) (hi : StrsAre xs (ns.map S)) (hz : ns.length ≤ 1000000) (h : ∀ t k, Q (.int ((ns.length : Nat) : Int) t) { s with toks := k }) : wpAny (model prog w) A (call (.builtin "len") [.ref a]) Q E s :=
  Calls.call_len_list ha (by have := StrsAre.length hi; rw [List.length_map] at this; simp only [List.size_toArray]; omega) (by have e := StrsAre.length hi; rw [List.length_map] at e; simp only [List.size_toArray, e]; exact h _ _)
theorem min1 {k : Nat} {t u : Tok} (hh : A.handled = none) (F : Fr h₀ L s.heap m) (N : News h₀ L s.heap news) (h : ∀ h' tk t', Fr h₀ L h' m → News h₀ L h' news → Q (.int ((min k 1 : Nat) : Int) t') { s with heap := h', toks := tk }) : wpAny (model prog w) A (call (.builtin "min") [.int (k : Int) t, .int 1 u]) Q E s :=
  min_two_N hh F N fun h' tk F' N' => by
    have e : (if (1 : Int) < (k : Int) then (1 : Int) else (k : Int)) = ((min k 1 : Nat) : Int) := by split <;> omega
    rw [e]; exact h h' tk _ F' N'
theorem divmodn {x y : Nat} {t u : Tok} (F : Fr h₀ L s.heap m) (N : News h₀ L s.heap news) (hy : 0 < y) (hz : y ≤ 1000000)
    (h : ∀ h' t1 t2 k, Fr h₀ L h' m → News h₀ L h' ((s.heap.objs.size, { cls := .type "tuple", data := .seq #[.int ((x / y : Nat) : Int) t1, .int ((x % y : Nat) : Int) t2] }) :: news) → Q (.ref s.heap.objs.size) { s with heap := h', toks := k }) :
    wpAny (model prog w) A (call (.builtin "divmod") [.int (x : Int) t, .int (y : Int) u]) Q E s :=
  divmod_N F N (by omega) (fun h' F' N' => by rw [fdiv_nat, fmod_nat] at N'; exact h h' _ _ _ F' N') (.inl (PyProof.noPylong_of_log2 (log2_lt (Nat.lt_of_le_of_lt hz (Nat.lt_of_lt_of_le (show 1000000 < 2 ^ 64 by decide) (Nat.pow_le_pow_right (by decide) (by decide)))))))
theorem itemI {value slice : PySem.Expr} {l : Addr} {vs : List Value} {zs : List Int} {i : Nat} {u : Tok} (hl : s.heap.IsList l vs.toArray) (hv : IntsAre vs zs) (hi : i < zs.length) (hb : zs.length ≤ 1000000) (h : ∀ t, Q (.int (zs.getD i 0) t) s)
    (hs : subscripted slice false (.ref l) (.int (i : Int) u) = operate [.ref l, .int (i : Int) u] (getItem (.ref l) (.int (i : Int) u)) := by with_unfolding_all rfl) :
    wpAny (model prog w) A (subscriptTail value slice (.ref l) (.int (i : Int) u)) Q E s := by
  obtain ⟨t, ht⟩ := ints_item hv hi
  exact item_at hl (k := (i : Int)) (by rw [Int.toNat_natCast]; exact ht) (by omega) (by have := hv.length; omega) (h t) hs
theorem itemS {value slice : PySem.Expr} {l : Addr} {vs : List Value} {zs : List (List Nat)} {i : Nat} {u : Tok} (hl : s.heap.IsList l vs.toArray) (hv : StrsAre vs (zs.map S)) (hi : i < zs.length) (hb : zs.length ≤ 1000000) (h : ∀ t, Q (.str (S (zs.getD i [])) t) s)
    (hs : subscripted slice false (.ref l) (.int (i : Int) u) = operate [.ref l, .int (i : Int) u] (getItem (.ref l) (.int (i : Int) u)) := by with_unfolding_all rfl) :
    wpAny (model prog w) A (subscriptTail value slice (.ref l) (.int (i : Int) u)) Q E s := by
  obtain ⟨t, ht⟩ := strs_at hv (i := i) (by simpa using hi)
  have e : (zs.map S).getD i Str.empty = S (zs.getD i []) := by simp [List.getD_eq_getElem?_getD, hi]
  rw [e] at ht
  exact item_at hl (k := (i : Int)) (by rw [Int.toNat_natCast]; exact ht) (by omega) (by have := StrsAre.length hv; rw [List.length_map] at this; omega) (h t) hs
theorem getI {l : Addr} {vs : List Value} {zs : List Int} {i : Nat} {u : Tok} (hl : s.heap.IsList l vs.toArray) (hv : IntsAre vs zs) (hi : i < zs.length) (hb : zs.length ≤ 1000000) (h : ∀ t, Q (.int (zs.getD i 0) t) s) :
    wpAny (model prog w) A (getItem (.ref l) (.int (i : Int) u)) Q E s := by
  obtain ⟨t, ht⟩ := ints_item hv hi
  exact wpAny_getItem_list hl (by omega) (by omega) (by rw [Int.toNat_natCast]; simpa using ht) (h t)
theorem sub_n {x y : Nat} {t u : Tok} (hle : y ≤ x) (h : Q (.int ((x - y : Nat) : Int) s.toks) { s with toks := s.toks + 1 }) : wpAny (model prog w) A (binaryOp .Sub (.int (x : Int) t) (.int (y : Int) u)) Q E s :=
  PyProof.Rows.sub_int (by rw [← Int.natCast_sub hle]; exact h)
theorem isub_n {x y : Nat} {t u : Tok} (hle : y ≤ x) (h : Q (.int ((x - y : Nat) : Int) s.toks) { s with toks := s.toks + 1 }) : wpAny (model prog w) A (inplaceOp .Sub (.int (x : Int) t) (.int (y : Int) u)) Q E s :=
  PyProof.Rows.isub_int (by rw [← Int.natCast_sub hle]; exact h)
theorem mark_item (k : Nat) (h : k < 4) : ∃ c, Mark c ∧ Txt.item ⟨#[92, 32, 11, 28]⟩ (k : Int) = S [c] := by
  have : k = 0 ∨ k = 1 ∨ k = 2 ∨ k = 3 := by omega
  rcases this with rfl | rfl | rfl | rfl
  · exact ⟨92, .inl rfl, rfl⟩
  · exact ⟨32, .inr (.inl rfl), rfl⟩
  · exact ⟨11, .inr (.inr (.inl rfl)), rfl⟩
  · exact ⟨28, .inr (.inr (.inr rfl)), rfl⟩
theorem mark_at {value slice : PySem.Expr} {x : Str} {k : Nat} {t u : Tok} (hx : x = ⟨#[92, 32, 11, 28]⟩) (hk : k < 4) (h : ∀ c, Mark c → ∀ t' tk, Q (.str (S [c]) t') { s with toks := tk })
    (hs : subscripted slice false (.str x t) (.int (k : Int) u) = operate [.str x t, .int (k : Int) u] (getItem (.str x t) (.int (k : Int) u)) := by with_unfolding_all rfl)
    (ht : ∀ r, letTemporaryGo value (.str x t) r = pure () := by intro _; with_unfolding_all rfl) :
    wpAny (model prog w) A (subscriptTail value slice (.str x t) (.int (k : Int) u)) Q E s := by
  subst hx
  obtain ⟨c, hc, e⟩ := mark_item k hk
  refine PyProof.Rows.item_str (fitsSsize_of (N := 9223372036854775808) (by omega) (by omega) (Int.le_refl _)) (by omega) (by show (k : Int) < ((4 : Nat) : Int); omega) (fun _ => ?_) hs ht
  rw [e]; exact h c hc _ _
theorem slice_cut {x : List Nat} (h : 16 < x.length) : Txt.slice (S x) none (some (-16)) = S (cutR x) := by
  have e := eq_of_beq (slice_closes_to_neg (x := S x) (j := -16) (k := ((x.length - 16 : Nat) : Int)) (by decide) (by rw [S_len]; omega) (by rw [S_len]; omega))
  rw [e]
  unfold cutR
  simp
/-- the counts' store, all else but the new rows forgotten -/
theorem store_count {D l : Addr} {zs ws : List Value} {cs : List Int} {ss : List Str} {e e' : Nat} {i : Nat} {x : Int} {t u : Tok} {Q : Unit → Shared → Prop} (F : Fr h₀ L s.heap m) (N : News h₀ L s.heap news) (hm1 : (D, LO zs e) ∈ news) (hm2 : (l, LO ws e') ∈ news)
    (hi : IntsAre zs cs) (hs : StrsAre ws ss) (hk : i < cs.length) (hb : cs.length ≤ 1000000)
    (h : ∀ h', Fr h₀ L h' m → News h₀ L h' [(D, LO (zs.set i (.int x t)) e), (l, LO ws e')] → Q () { s with heap := h' }) : wpAny (model prog w) A (setItem (.ref D) (.int (i : Int) u) (.int x t)) Q E s := by
  have hne : l ≠ D := fun q => by
    subst q
    have a1 := (N _ hm1).1
    have a2 := (N _ hm2).1
    rw [a1] at a2
    have : zs = ws := by injection a2 with a2; injection a2 with _ _ a2 _; injection a2 with a2; simpa using a2
    subst this
    have := ints_strs hi hs
    subst this
    simp at hk
  have N2 : News h₀ L s.heap [(D, LO zs e), (l, LO ws e')] := fun p hp => by
    rcases List.mem_cons.mp hp with rfl | hp
    · exact N _ hm1
    · rw [List.mem_singleton.mp hp]; exact N _ hm2
  refine ki_set (its := zs.toArray) (n := e) F N2 (by omega) (by omega) (q := zs.set i (.int x t)) ?_ (.head fun p hp => by rw [List.mem_singleton.mp hp]; exact hne) h
  rw [Int.toNat_natCast]
  exact setL_some (by have := hi.length; show i < zs.length; omega)
end
section
variable {prog p : Program} {loose : List Str} {w : World} {A : Around} {E : Value → Shared → Prop} {Q : Value → Shared → Prop} {h₀ h : Heap} {L : Addr} {m : Str → Option Value} {news : List (Addr × Obj)} {gs : Array GenState} {dr : Drawn} {tk : Nat} {os : OsState}
theorem upto_S {value slice : PySem.Expr} {l : Addr} {vs : List Value} {zs : List (List Nat)} {j : Nat} {ops : List Value} {u : Tok} (F : Fr h₀ L h m) (N : News h₀ L h news) (hl : h.IsList l vs.toArray) (hs' : StrsAre vs (zs.map S)) (hz : zs.length ≤ 1000)
    (hq : ∀ D ws h', StrsAre ws ((zs.take j).map S) → Fr h₀ L h' m → News h₀ L h' ((D, LO ws 0) :: news) → Q (.ref D) ⟨h', gs, dr, tk, os⟩)
    (hs : subscripted slice false (.ref l) (.ref h.objs.size) = operate ops (getItem (.ref l) (.ref h.objs.size)) := by with_unfolding_all rfl)
    (ht : ∀ r, letTemporaryGo value (.ref l) r = pure () := by intro _; with_unfolding_all rfl) :
    wpAny (model prog w) A (subscriptTail value slice (.ref l) (.ref h.objs.size)) Q E ⟨h.push { cls := .type "slice", data := .fields #[.none, .int (j : Int) u, .none] }, gs, dr, tk, os⟩ := by
  have hlen : vs.length = zs.length := by have := StrsAre.length hs'; rwa [List.length_map] at this
  refine slice_list3 (s := ⟨h, gs, dr, tk, os⟩) F N hl (lo := none) (hi := some (j : Int)) (st := none) (by constructor) (by constructor) (by constructor) (by intro h; cases h) (fun h' F' N' => ?_) hs ht (by rw [List.size_toArray, sizeLine_eq]; omega)
  rw [slicePick_upto'] at N'
  refine hq _ _ h' ?_ F' N'
  rw [List.map_take]; exact StrsAre.take' hs' j
theorem from_S {value slice : PySem.Expr} {l : Addr} {vs : List Value} {zs : List (List Nat)} {j : Nat} {ops : List Value} {u : Tok} (F : Fr h₀ L h m) (N : News h₀ L h news) (hl : h.IsList l vs.toArray) (hs' : StrsAre vs (zs.map S)) (hz : zs.length ≤ 1000)
    (hq : ∀ D ws h', StrsAre ws ((zs.drop j).map S) → Fr h₀ L h' m → News h₀ L h' ((D, LO ws 0) :: news) → Q (.ref D) ⟨h', gs, dr, tk, os⟩)
    (hs : subscripted slice false (.ref l) (.ref h.objs.size) = operate ops (getItem (.ref l) (.ref h.objs.size)) := by with_unfolding_all rfl)
    (ht : ∀ r, letTemporaryGo value (.ref l) r = pure () := by intro _; with_unfolding_all rfl) :
    wpAny (model prog w) A (subscriptTail value slice (.ref l) (.ref h.objs.size)) Q E ⟨h.push { cls := .type "slice", data := .fields #[.int (j : Int) u, .none, .none] }, gs, dr, tk, os⟩ := by
  have hlen : vs.length = zs.length := by have := StrsAre.length hs'; rwa [List.length_map] at this
  refine slice_list3 (s := ⟨h, gs, dr, tk, os⟩) F N hl (lo := some (j : Int)) (hi := none) (st := none) (by constructor) (by constructor) (by constructor) (by intro h; cases h) (fun h' F' N' => ?_) hs ht (by rw [List.size_toArray, sizeLine_eq]; omega)
  rw [slicePick_from'] at N'
  refine hq _ _ h' ?_ F' N'
  rw [List.map_drop]; exact StrsAre.drop' hs' j
theorem cut_S {value slice : PySem.Expr} {x : List Nat} {t u : Tok} (F : Fr h₀ L h m) (N : News h₀ L h news) (hx : 16 < x.length) (hz : x.length ≤ 1000000)
    (hq : ∀ h' t' k, Fr h₀ L h' m → News h₀ L h' news → Q (.str (S (cutR x)) t') ⟨h', gs, dr, k, os⟩)
    (hs : subscripted slice false (.str (S x) t) (.ref h.objs.size) = operate [.ref h.objs.size, .str (S x) t] (getItem (.str (S x) t) (.ref h.objs.size)) := by with_unfolding_all rfl)
    (ht : ∀ r, letTemporaryGo value (.str (S x) t) r = pure () := by intro _; with_unfolding_all rfl) :
    wpAny (model prog w) A (subscriptTail value slice (.str (S x) t) (.ref h.objs.size)) Q E ⟨h.push { cls := .type "slice", data := .fields #[.none, .int (-16) u, .none] }, gs, dr, tk, os⟩ :=
  slice_strN_ns (s := ⟨h, gs, dr, tk, os⟩) F N (fun h' t' k F' N' => by rw [slice_cut hx]; exact hq h' t' k F' N') hs ht (by rw [S_len, sizeLine_eq]; omega)
end
end Mine
end

section
open PySem PySem.W PyProof.Rows PySem.Calls PySem.Spec PySem.Builtin
set_option maxRecDepth 100000
namespace Mine
theorem news_cons {h₀ h h' : Heap} {L D : Addr} {m : Str → Option Value} {news : List (Addr × Obj)} {o : Obj} (F : Fr h₀ L h m) (N : News h₀ L h news) (k : ∀ b o, h.get? b = some o → h'.get? b = some o) (hD : h.get? D = none) (hD' : h'.get? D = some o) : News h₀ L h' ((D, o) :: news) := by
  intro q hq
  rcases List.mem_cons.mp hq with rfl | hq
  · refine ⟨hD', fun e => ?_, ?_⟩
    · obtain ⟨oL, _, _, hL, _⟩ := F.ns
      simp only at e
      rw [e, hL] at hD; cases hD
    · cases e : h₀.get? D with
      | none => rfl
      | some o' => have := F.keep _ _ e; rw [hD] at this; cases this
  · exact (N.grown k) q hq
theorem pick3 {h₀ h : Heap} {L : Addr} {news : List (Addr × Obj)} {a b c : Addr × Obj} (N : News h₀ L h news) (ha : a ∈ news) (hb : b ∈ news) (hc : c ∈ news) : News h₀ L h [a, b, c] := by
  intro p hp
  simp only [List.mem_cons, List.not_mem_nil, or_false] at hp
  rcases hp with rfl | rfl | rfl
  · exact N _ ha
  · exact N _ hb
  · exact N _ hc
theorem units_ok {A : Around} {env : Env} (h : A.units < 1000) : (A.deeper env).units + 64 < cLine := by
  show A.units + 3 + 64 < 9900
  omega
theorem news_tail {h₀ h : Heap} {L : Addr} {news : List (Addr × Obj)} {a : Addr × Obj} (N : News h₀ L h (a :: news)) : ∀ p ∈ news, h.get? p.1 = some p.2 ∧ p.1 ≠ L ∧ h₀.get? p.1 = none := fun p hp => N p (.tail _ hp)
theorem units_ok2 {A : Around} {env : Env} (h : A.units < 900) : (A.deeper env).units < 1000 := by
  show A.units + 3 < 1000
  omega
/-- where the rows lie: in the ledger or in what stood before -/
def RowsAt (h₀ : Heap) (xo : Addr × Obj) (l : Addr) (ws : List Value) : Prop := (∃ e, xo = (l, LO ws e)) ∨ h₀.IsList l ws.toArray
theorem RowsAt.at {h₀ h : Heap} {L l : Addr} {m : Str → Option Value} {news : List (Addr × Obj)} {xo : Addr × Obj} {ws : List Value} (r : RowsAt h₀ xo l ws) (F : Fr h₀ L h m) (N : News h₀ L h news) (hm : xo ∈ news) : h.IsList l ws.toArray := by
  rcases r with ⟨e, rfl⟩ | hl
  · exact N.isList hm
  · exact F.lst hl
section
variable {prog p : Program} {loose : List Str} {w : World} {A : Around} {E : Value → Shared → Prop} {s : Shared} {mean : ExcName → Option Value} {mg mb : Str → Option Value} {h₀ : Heap} {L : Addr} {m : Str → Option Value} {news : List (Addr × Obj)} {Q : Value → Shared → Prop}
theorem fr_ready {l : Addr} {vs : List Value} {R : List (List Nat)} (F : Fr h₀ L s.heap m) (N : News h₀ L s.heap news) (KX : (hd.heap_39 w.params).In h₀) (T : Top p loose mean mg mb h₀) (hroom : A.depth < 500) (hh : A.handled = none) (hl : s.heap.IsList l vs.toArray) (hs : StrsAre vs (R.map S)) (hz : R.length ≤ 1000) (hx : ∀ x ∈ R, x.length ≤ 1000)
    (h : ∀ D ys h' tk', IntsAre ys (readyOf (R.map S)) → Fr h₀ L h' m → News h₀ L h' ((D, LCg.lst ys) :: news) → Q (.ref D) { s with heap := h', toks := tk' }) : wpAny (model prog w) A (call (.ref 96) [.ref l]) Q E s :=
  wpAny_call (law_ready (KX.keeps F.keep) (T.keeps F.keep) hroom hh hl hs (by rw [List.length_map]; exact hz) (fun x hx' => by obtain ⟨y, hy, rfl⟩ := List.mem_map.mp hx'; have := hx y hy; rw [S_len]; omega)
    fun D ys h' tk' k hD hD' hi => h D ys h' tk' hi (F.after k) (news_cons F N k hD hD'))
theorem fr_mailed {l : Addr} {vs : List Value} {r0 : List Nat} {rl : List (List Nat)} {go turn : Nat} {t u : Tok} (F : Fr h₀ L s.heap m) (N : News h₀ L s.heap news) (KX : (hd.heap_39 w.params).In h₀) (T : Top p loose mean mg mb h₀) (hroom : A.depth < 500) (hh : A.handled = none) (hu : A.units < 1000) (hl : s.heap.IsList l vs.toArray) (hs : StrsAre vs ((r0 :: rl).map S)) (hz : rl.length ≤ 100) (hx : ∀ x ∈ rl, x.length ≤ 1000)
    (hcl : ∀ x ∈ rl, Clean x) (hlow : ∀ x ∈ rl, ∀ c ∈ x, c < 128) (hdots : ∀ x ∈ rl, ∀ c ∈ x.drop 1, c = 46) (hgo : go ≤ 10) (hturn : turn < 1000000000000)
    (h : ∀ D ys e h' tk', StrsAre ys ((r0 :: rl.map dotP).map S) → Fr h₀ L h' m → News h₀ L h' ((D, LO ys e) :: news) → Q (.ref D) { s with heap := h', toks := tk' }) : wpAny (model prog w) A (call (.ref 91) [.ref l, .int (go : Int) t, .int (turn : Int) u]) Q E s :=
  wpAny_call (law_mailed (KX.keeps F.keep) (T.keeps F.keep) hroom hh hu hl hs hz hx hcl hlow hdots hgo hturn
    fun D ys e h' tk' k hD hD' hi => h D ys e h' tk' hi (F.after k) (news_cons F N k hD hD'))
theorem deed_cut {T : Type} {M : Sem T} {Q : T → Shared → Prop} (P : T → Prop) (_ : Fr h₀ L s.heap m) (_ : News h₀ L s.heap news)
    (walk : ∀ Q' : T → Shared → Prop, (∀ v h' tk', P v → Fr h₀ L h' m → News h₀ L h' news → Q' v { s with heap := h', toks := tk' }) → wpAny (model prog w) A M Q' E s)
    (rest : ∀ v h' tk', P v → Fr h₀ L h' m → News h₀ L h' news → Q v { s with heap := h', toks := tk' }) : wpAny (model prog w) A M Q E s := walk Q rest
end
theorem ready_mem {R : List (List Nat)} {x : Int} (h : x ∈ readyOf (R.map S)) : ∃ p : Nat, x = (p : Int) ∧ 1 ≤ p ∧ p < R.length ∧ 16 < (R.getD p []).length := by
  unfold readyOf at h
  obtain ⟨i, hi, rfl⟩ := List.mem_map.mp h
  obtain ⟨hr, hd⟩ := List.mem_filter.mp hi
  rw [List.mem_range, List.length_map] at hr
  have h16 := of_decide_eq_true hd
  have hlt : i + 1 < R.length := by omega
  rw [show (R.map S).getD (i + 1) Str.empty = S (R.getD (i + 1) []) from by simp [List.getD_eq_getElem?_getD, hlt], S_len] at h16
  exact ⟨i + 1, by omega, by omega, hlt, h16⟩
theorem ready_len (R : List (List Nat)) : (readyOf (R.map S)).length ≤ R.length := by
  unfold readyOf
  rw [List.length_map]
  refine Nat.le_trans (List.length_filter_le _ _) ?_
  rw [List.length_range, List.length_map]; omega
theorem ready_nil {R : List (List Nat)} (h : readyOf (R.map S) = []) : ∀ p, 1 ≤ p → (R.getD p []).length ≤ 16 := by
  intro p h1
  by_cases hp : p < R.length
  · by_cases hz : 16 < (R.getD p []).length
    · exfalso
      have hm : ((p - 1 : Nat) : Int) + 1 ∈ readyOf (R.map S) := by
        unfold readyOf
        refine List.mem_map.mpr ⟨p - 1, List.mem_filter.mpr ⟨?_, ?_⟩, rfl⟩
        · rw [List.mem_range, List.length_map]; omega
        · rw [show p - 1 + 1 = p from by omega, show (R.map S).getD p Str.empty = S (R.getD p []) from by simp [List.getD_eq_getElem?_getD, hp], S_len]
          exact decide_eq_true hz
      rw [h] at hm; cases hm
    · omega
  · rw [List.getD_eq_getElem?_getD, List.getElem?_eq_none (by omega)]; exact Nat.zero_le _
section
variable {prog : Program} {w : World} {A : Around} {E : Value → Shared → Prop} {s : Shared} {Q : Value → Shared → Prop} {x y : Nat} {t u : Tok}
theorem div3_n (h : Q (.int ((x / 3 : Nat) : Int) s.toks) { s with toks := s.toks + 1 }) : wpAny (model prog w) A (binaryOp .FloorDiv (.int (x : Int) t) (.int 3 u)) Q E s := div_n (y := 3) (by decide) (by decide) h
theorem div216_n (h : Q (.int ((x / 216 : Nat) : Int) s.toks) { s with toks := s.toks + 1 }) : wpAny (model prog w) A (binaryOp .FloorDiv (.int (x : Int) t) (.int 216 u)) Q E s := div_n (y := 216) (by decide) (by decide) h
theorem mod3_n (h : Q (.int ((x % 3 : Nat) : Int) s.toks) { s with toks := s.toks + 1 }) : wpAny (model prog w) A (binaryOp .Mod (.int (x : Int) t) (.int 3 u)) Q E s := mod_n (y := 3) (by decide) h
theorem mod4_n (h : Q (.int ((x % 4 : Nat) : Int) s.toks) { s with toks := s.toks + 1 }) : wpAny (model prog w) A (binaryOp .Mod (.int (x : Int) t) (.int 4 u)) Q E s := mod_n (y := 4) (by decide) h
theorem add1l_n (h : Q (.int ((1 + y : Nat) : Int) s.toks) { s with toks := s.toks + 1 }) : wpAny (model prog w) A (binaryOp .Add (.int 1 t) (.int (y : Int) u)) Q E s := add_n (x := 1) h
theorem add1r_n (h : Q (.int ((x + 1 : Nat) : Int) s.toks) { s with toks := s.toks + 1 }) : wpAny (model prog w) A (binaryOp .Add (.int (x : Int) t) (.int 1 u)) Q E s := add_n (y := 1) h
theorem sub1_n (hx : 1 ≤ x) (h : Q (.int ((x - 1 : Nat) : Int) s.toks) { s with toks := s.toks + 1 }) : wpAny (model prog w) A (binaryOp .Sub (.int (x : Int) t) (.int 1 u)) Q E s := sub_n (y := 1) hx h
theorem isub1_n (hx : 1 ≤ x) (h : Q (.int ((x - 1 : Nat) : Int) s.toks) { s with toks := s.toks + 1 }) : wpAny (model prog w) A (inplaceOp .Sub (.int (x : Int) t) (.int 1 u)) Q E s := isub_n (y := 1) hx h
theorem iadd1_n (h : Q (.int ((x + 1 : Nat) : Int) s.toks) { s with toks := s.toks + 1 }) : wpAny (model prog w) A (inplaceOp .Add (.int (x : Int) t) (.int 1 u)) Q E s := iadd_n (y := 1) h
end
theorem Run.start {mk sd : Nat} {xs : List (List Nat)} (hok : ∀ x ∈ xs, RowOk 46 x) : Run mk sd xs sd ((xs.map val).sum + sd * xs.length) xs (List.replicate xs.length 0) := by
  have hc : ∀ i, (List.replicate xs.length 0).getD i 0 = 0 := fun i => by
    rw [List.getD_eq_getElem?_getD, List.getElem?_replicate]; split <;> rfl
  refine ⟨rfl, by simp, fun x hx => ?_, fun i => rfl, fun i => ?_, hc 0, Nat.le_refl _, rfl⟩
  · rcases hok x hx with h | ⟨c, r, e, hc', hr⟩
    · exact .inl h
    · exact .inr ⟨c, r, e, .inl (hc'.elim id id), hr⟩
  · rw [hc, hc, Nat.sub_self]; split <;> rfl
theorem Run.bound {mk sd left n : Nat} {xs rows : List (List Nat)} {cs : List Nat} (h : Run mk sd xs left n rows cs) (hn : n ≤ 440) : ∀ x ∈ rows, x.length ≤ 1000 := fun x hx => by
  have := h.short x hx; omega
theorem rep_ints (n : Nat) : (List.replicate n 0 : List Nat).map (fun c : Nat => (c : Int)) = List.replicate n 0 := by rw [List.map_replicate]; rfl
section
variable {prog : Program} {w : World} {A : Around} {E : Value → Shared → Prop} {s : Shared} {Q : Value → Shared → Prop}
theorem eq_p0 {p : Nat} {t u : Tok} (hp : 1 ≤ p) (h : Q (.bool false) s) : wpAny (model prog w) A (compareOp .Eq (.int (p : Int) t) (.int 0 u)) Q E s := by
  refine PyProof.Rows.eq_int ?_
  have e : ((p : Int) == 0) = false := by rw [beq_eq_false_iff_ne]; omega
  first
    | (rw [e]; exact h)
    | (rw [show decide ((p : Int) = 0) = false from decide_eq_false (by omega)]; exact h)
theorem add_dot {a : List Nat} {t u : Tok} (hz : a.length ≤ 100000) (h : ∀ t' k, Q (.str (S (a ++ [46])) t') { s with toks := k }) : wpAny (model prog w) A (binaryOp .Add (.str (S a) t) (.str (Str.ofString ".") u)) Q E s := by
  rw [show Str.ofString "." = S [46] from by decide]
  exact add_S (by simp; omega) h
end
theorem truthy_S {prog : Program} {w : World} {A : Around} {E : Value → Shared → Prop} {s : Shared} {x : List Nat} {t : Tok} {Q : Bool → Shared → Prop} (hz : x.length ≤ 100000) (h : Q (decide (x ≠ [])) { s with toks := s.toks + 1 + 1 }) : wpAny (model prog w) A (truthy (.str (S x) t)) Q E s := by
  refine PySem.P.truthy_str (by rw [S_len]; omega) ?_
  have e : (((S x).length : Int) != 0) = decide (x ≠ []) := by
    rw [S_len]
    cases x with
    | nil => rfl
    | cons c r => rw [decide_eq_true (by simp), bne_iff_ne]; simp only [List.length_cons]; omega
  rw [e]; exact h
theorem addP {prog : Program} {w : World} {A : Around} {E : Value → Shared → Prop} {s : Shared} {h₀ : Heap} {L a b : Addr} {m : Str → Option Value} {news : List (Addr × Obj)} {Q : Value → Shared → Prop} {xs : List Value} {ns : List (List Nat)} {x y : List Nat} {t u : Tok} (F : Fr h₀ L s.heap m) (N : News h₀ L s.heap news) (ha : s.heap.IsList a xs.toArray) (hb : s.heap.IsList b #[.str (S x) t, .str (S y) u]) (hi : StrsAre xs (ns.map S)) (hz : ns.length ≤ 100000)
    (h : ∀ D ws h', StrsAre ws ((ns ++ [x, y]).map S) → Fr h₀ L h' m → News h₀ L h' ((D, LO ws 0) :: news) → Q (.ref D) { s with heap := h' }) : wpAny (model prog w) A (binaryOp .Add (.ref a) (.ref b)) Q E s :=
  addS (ys := [.str (S x) t, .str (S y) u]) (ms := [x, y]) F N ha hb hi (.cons _ _ (.cons _ _ .nil)) (by simp only [List.length_cons, List.length_nil]; omega) h
theorem ints_fire {vs : List Value} {cs : List Nat} {p : Nat} (t : Tok) (h : IntsAre vs (cs.map fun c : Nat => (c : Int))) : IntsAre (vs.set p (.int ((cs.map fun c : Nat => (c : Int)).getD p 0 + 1) t)) ((fireC cs p).map fun c : Nat => (c : Int)) := by
  have := ints_set p ((cs.map fun c : Nat => (c : Int)).getD p 0 + 1) t h
  unfold fireC
  rw [List.map_set]
  have e : (cs.map fun c : Nat => (c : Int)).getD p 0 + 1 = ((cs.getD p 0 + 1 : Nat) : Int) := by
    rw [List.getD_eq_getElem?_getD, List.getD_eq_getElem?_getD, List.getElem?_map]
    cases cs[p]? <;> rfl
  rw [e] at this ⊢
  exact this
/-- what may be drawn -/
def Deed (k : Nat) (R : List (List Nat)) (x : Int) : Prop := (x = 0 ∧ 0 < k) ∨ ∃ p : Nat, x = (p : Int) ∧ 1 ≤ p ∧ p < R.length ∧ 16 < (R.getD p []).length
theorem deeds_all {k : Nat} {R : List (List Nat)} {dd : List Int} (e : dd = readyOf (R.map S) ++ List.replicate (min k 1) 0) : ∀ x ∈ dd, Deed k R x := by
  intro x hx
  rw [e] at hx
  rcases List.mem_append.mp hx with h | h
  · exact .inr (ready_mem h)
  · have := List.eq_of_mem_replicate h
    refine .inl ⟨this, ?_⟩
    cases k with
    | zero => simp at h
    | succ k => exact Nat.succ_pos k
theorem deeds_some {k : Nat} {R : List (List Nat)} (h : 0 < k ∨ readyOf (R.map S) ≠ []) : 0 < (readyOf (R.map S) ++ List.replicate (min k 1) 0 : List Int).length := by
  rw [List.length_append, List.length_replicate]
  rcases h with h | h
  · omega
  · have := List.length_pos_iff.mpr h; omega
end Mine
end

section
open PySem PySem.W PyProof.Rows PySem.Calls
set_option maxRecDepth 100000
namespace Mine
theorem fill9 : PySem.Challenge.rw_pk0010_01 = PySem.Challenge.rw_pk0010_01 ∧ hd.heap_39 = hd.heap_39 := by
  k_fill
  exact ⟨rfl, rfl⟩
local macro_rules | `(tactic| walk_at "binaryOp FloorDiv int int") => `(tactic| (first | refine div3_n ?_ | refine div216_n ?_))
local macro_rules | `(tactic| walk_at "binaryOp Mod int int") => `(tactic| (first | refine mod3_n ?_ | refine mod4_n ?_))
local macro_rules | `(tactic| walk_at "binaryOp Add int int") => `(tactic| (first | refine add1l_n ?_ | refine add1r_n ?_))
local macro_rules | `(tactic| walk_at "inplaceOp Add int int") => `(tactic| (refine iadd1_n ?_))
local macro_rules | `(tactic| walk_at "binaryOp Sub int int") => `(tactic| (first | refine sub1_n (by omega) ?_ | refine sub_n (by omega) ?_))
local macro_rules | `(tactic| walk_at "inplaceOp Sub int int") => `(tactic| (refine isub1_n (by omega) ?_))
local macro_rules | `(tactic| walk_at "compareOp Gt int int") => `(tactic| (refine gt0_n ?_))
local macro_rules | `(tactic| walk_at "call builtin:len") => `(tactic| ((with_reducible show wpAny _ _ (call (Value.builtin "len") [Value.ref _]) _ _ _); k_dflt (first | (refine lenS (by is_list) (by assumption) (by omega) ?_) | (refine lenI (by is_list) (by assumption) (by omega) ?_)); intro _ _))
local macro_rules | `(tactic| walk_at "subscriptTail Constant") => `(tactic| ((with_reducible show wpAny _ _ (subscriptTail _ _ (Value.str _ _) (Value.int _ _)) _ _ _); k_dflt (refine mark_at (by decide +kernel) (by omega) ?_ (by with_unfolding_all rfl) (by intro _; with_unfolding_all rfl)); intro mk hmk tmk _))
local macro_rules | `(tactic| walk_at "binaryOp Mult ref int") => `(tactic| (k_dflt (refine mul0 (by assumption) (by assumption) (by is_list) (by omega) ?_); intro _ _ _ _ _ _))
local macro_rules | `(tactic| walk_at "compareOp NotEq ref ref") => `(tactic| (k_dflt (refine ne_nilI (by is_list) (by is_list) (by assumption) (units_ok (by assumption)) ?_)))
local macro_rules | `(tactic| walk_at "call builtin:min") => `(tactic| (k_dflt (refine min1 rfl (by assumption) (by assumption) ?_); intro _ _ _ _ _))
local macro_rules | `(tactic| walk_at "call builtin:divmod") => `(tactic| (k_dflt (refine divmodn (by assumption) (by assumption) (by assumption) (by assumption) ?_); intro _ _ _ _ _ _))
local macro_rules | `(tactic| walk_at "binaryOp Add ref ref") => `(tactic| (k_dflt (first | refine addI (by assumption) (by assumption) (by is_list) (by is_list) (by assumption) (by assumption) (by assumption) ?_ | refine addP (by assumption) (by assumption) (by is_list) (by is_list) (by assumption) (by simp only [List.length_take]; omega) ?_ | refine addS (by assumption) (by assumption) (by is_list) (by is_list) (by assumption) (by assumption) (by simp only [List.length_append, List.length_take, List.length_drop, List.length_cons, List.length_nil]; omega) ?_); intro _ _ _ _ _ _))
local macro_rules | `(tactic| walk_at "subscriptTail") => `(tactic| ((with_reducible show wpAny _ _ (subscriptTail _ (Expr.Name _ _) (Value.ref _) (Value.int _ _)) _ _ _); k_dflt (first | refine itemI (by is_list) (by assumption) (by assumption) (by assumption) ?_ (by with_unfolding_all rfl) | refine itemS (RowsAt.at (by assumption) (by assumption) (by assumption) (by k_mem)) (by assumption) (by assumption) (by assumption) ?_ (by with_unfolding_all rfl)); intro _))
local macro_rules | `(tactic| walk_at "subscriptTail") => `(tactic| ((with_reducible show wpAny _ _ (subscriptTail _ (Expr.BinOp _ _ _ _) (Value.ref _) (Value.int _ _)) _ _ _); k_dflt (refine itemS (RowsAt.at (by assumption) (by assumption) (by assumption) (by k_mem)) (by assumption) (by assumption) (by assumption) ?_ (by with_unfolding_all rfl)); intro _))
local macro_rules | `(tactic| walk_at "truthy str") => `(tactic| (refine truthy_S (by omega) ?_))
local macro_rules | `(tactic| walk_at "binaryOp Add str str") => `(tactic| (k_dflt (refine add_dot (by assumption) ?_); intro _ _))
local macro_rules | `(tactic| walk_at "subscriptTail Name Slice ref ref") => `(tactic| ((with_reducible show wpAny _ _ (subscriptTail _ (Expr.Slice none (some _) none _) (Value.ref _) (Value.ref _)) _ _ _); (try dsimp only); k_dflt (refine upto_S (by assumption) (by assumption) (RowsAt.at (by assumption) (by assumption) (by assumption) (by k_mem)) (by assumption) (by assumption) ?_ (by with_unfolding_all rfl) (by intro _; with_unfolding_all rfl)); intro _ _ _ _ _ _))
local macro_rules | `(tactic| walk_at "subscriptTail Name Slice ref ref") => `(tactic| ((with_reducible show wpAny _ _ (subscriptTail _ (Expr.Slice (some _) none none _) (Value.ref _) (Value.ref _)) _ _ _); (try dsimp only); k_dflt (refine from_S (by assumption) (by assumption) (RowsAt.at (by assumption) (by assumption) (by assumption) (by k_mem)) (by assumption) (by assumption) ?_ (by with_unfolding_all rfl) (by intro _; with_unfolding_all rfl)); intro _ _ _ _ _ _))
local macro_rules | `(tactic| walk_at "subscriptTail") => `(tactic| ((with_reducible show wpAny _ _ (subscriptTail _ (Expr.Slice none (some _) none _) (Value.str _ _) (Value.ref _)) _ _ _); (try dsimp only); k_dflt (refine cut_S (by assumption) (by assumption) (by assumption) (by assumption) ?_ (by with_unfolding_all rfl) (by intro _; with_unfolding_all rfl)); intro _ _ _ _ _))
local macro_rules | `(tactic| walk_at "getItem ref int") => `(tactic| (k_dflt (refine getI (by is_list) (by assumption) (by assumption) (by assumption) ?_); intro _))
local macro_rules | `(tactic| walk_at "setItem ref int") => `(tactic| (k_dflt (refine store_count (by assumption) (by assumption) (by k_mem) (by k_mem) (by assumption) (by assumption) (by assumption) (by assumption) ?_); intro _ _ _))
local macro_rules | `(tactic| walk_at "inplaceOp Add int int") => `(tactic| (refine PyProof.Rows.iadd_int ?_))
local macro_rules | `(tactic| walk_at "compareOp Eq ref ref") => `(tactic| (k_dflt (refine eq_nilS (by is_list) (by is_list) (by assumption) (by assumption) (units_ok (by assumption)) ?_)))
local macro_rules | `(tactic| walk_at "compareOp Eq int int") => `(tactic| (refine eq_p0 (by assumption) ?_))
local macro_rules | `(tactic| walk_at "call ref") => `(tactic| ((with_reducible show wpAny _ _ (call (Value.ref 91) _) _ _ _); k_dflt (refine fr_mailed (by assumption) (by assumption) (by assumption) (by assumption) (by simp only [depth_deeper]; omega) rfl (units_ok2 (by assumption)) (RowsAt.at (by assumption) (by assumption) (by assumption) (by k_mem)) (by assumption) (by assumption) (by assumption) (by assumption) (by assumption) (by assumption) (by assumption) (by assumption) ?_); intro _ _ _ _ _ _ _ _))
local macro_rules | `(tactic| walk_at "call ref") => `(tactic| ((with_reducible show wpAny _ _ (call (Value.ref 96) _) _ _ _); k_dflt (refine fr_ready (by assumption) (by assumption) (by assumption) (by assumption) (by simp only [depth_deeper]; omega) rfl (by is_list) (by assumption) (by first | assumption | omega) (by assumption) ?_); intro _ _ _ _ _ _ _))

set_option maxHeartbeats 1000000 in
theorem law_run {prog p : Program} {loose : List Str} {w : World} {A : Around} {s : Shared} {mean : ExcName → Option Value} {mg mb : Str → Option Value} {l : Addr} {vs : List Value} {xs : List (List Nat)} {turn : Nat} {u : Tok} {R : Result → Shared → Prop}
    (KX : (hd.heap_39 w.params).In s.heap) (T : Top p loose mean mg mb s.heap) (hroom : A.depth < 450) (hh : A.handled = none) (hu : A.units < 900) (hl : s.heap.IsList l vs.toArray) (hs : StrsAre vs (xs.map S)) (hx1 : 1 ≤ xs.length) (hx2 : xs.length ≤ 11)
    (hok : ∀ x ∈ xs, RowOk 46 x) (h0 : xs.getD 0 [] = []) (hsum : (xs.map val).sum ≤ 400) (hturn : turn < 1000000000000)
    (h : ∀ Tp r D ws zs rows cs mk n e1 e2 e3 h' tk', Keeps s.heap h' → s.heap.get? Tp = none → s.heap.get? r = none → s.heap.get? D = none →
      h'.get? Tp = some { cls := .type "tuple", data := .seq #[.ref r, .ref D] e1 } → h'.get? r = some (LO ws e2) → h'.get? D = some (LO zs e3) → StrsAre ws (rows.map S) → IntsAre zs (cs.map fun c : Nat => (c : Int)) →
      Run mk (1 + turn % 3) xs 0 n rows cs → (∀ i, 1 ≤ i → (rows.getD i []).length ≤ 16) → R (.ok (.ret (.ref Tp))) { s with heap := h', toks := tk' }) :
    codeAny (model prog w) A (.call (.ref 103) ⟨[.ref l, .int (turn : Int) u], []⟩) R s := by
  obtain ⟨ah, ad, af, ag, au⟩ := A
  obtain rfl : ah = none := hh
  replace hroom : ad < 450 := hroom
  replace hu : au < 900 := hu
  have hxl : ∀ x ∈ xs, x.length ≤ 1000 := fun x hx => by
    have := val_le_sum hx
    have h3 : val x = x.length - 1 := rfl
    omega
  refine call_own [(Str.ofString "rows", .ref l), (Str.ofString "turn", .int (turn : Int) u)] KX T (by show ad < 900; omega) (by k_is) (by k_is) rfl rfl (fun L h₁ hL F N => ?_)
  dsimp only [bnd, List.reverse, List.reverseAux, List.append] at F
  have hu1 : au < 1000 := by omega
  have q4 : turn / 3 % 4 < 4 := Nat.mod_lt _ (by decide)
  repeat' ((fail_if_success (with_reducible show wpAny _ _ (exec (Stmt.While _ _ _ _) _) _ _ _)); (first | walk1 | (dsimp only; walk1)))
  rename Mark _ => hmk
  rename IntsAre _ (List.replicate _ 0) => hz0
  rename IntsAre _ (readyOf _) => hr0
  rename Fr _ _ _ _ => FF
  rename News _ _ _ _ => NN
  dsimp only at FF NN ⊢
  refine While_inv2 (n₀ := (xs.map val).sum + (1 + turn % 3) * xs.length) (fun n m₁ nw => ∃ mk k R cs l' ws D zs e Rd ys er xo dr tl td tm, Mark mk ∧ n ≤ 440 ∧ Run mk (1 + turn % 3) xs k n R cs ∧ nw = [(D, LO zs e), (Rd, LO ys er), xo] ∧ IntsAre zs (cs.map fun c : Nat => (c : Int)) ∧ IntsAre ys (readyOf (R.map S)) ∧ StrsAre ws (R.map S) ∧ RowsAt s.heap xo l' ws ∧
      (k = 1 + turn % 3 ∨ ∃ e, xo = (l', LO ws e)) ∧
      m₁ (Str.ofString "rows") = some (.ref l') ∧ m₁ (Str.ofString "left") = some (.int (k : Int) tl) ∧ m₁ (Str.ofString "draw") = some (.int ((dr : Nat) : Int) td) ∧ m₁ (Str.ofString "ready") = some (.ref Rd) ∧ m₁ (Str.ofString "counts") = some (.ref D) ∧
      m₁ (Str.ofString "turn") = some (.int (turn : Int) u) ∧ m₁ (Str.ofString "mark") = some (.str (S [mk]) tm))
    FF (pick3 NN (.tail _ (.head _)) (.head _) (.head _))
    ⟨_, 1 + turn % 3, xs, List.replicate xs.length 0, l, vs, _, _, 0, _, _, _, _, turn / 216, _, _, _, hmk, ?_, Run.start hok, rfl, by rw [rep_ints]; exact hz0, hr0, hs, .inr hl, .inl rfl, rfl, rfl, rfl, rfl, rfl, rfl, rfl⟩ ?_
  · have : (1 + turn % 3) * xs.length ≤ 3 * 11 := Nat.mul_le_mul (by omega) hx2
    omega
  · clear hmk hz0 hr0 FF NN
    intro n m₁ news₁ h₂ tk₂ F2 N2 hJ
    obtain ⟨mk, k, R9, cs, l9, ws, D, zs, e, Rd, ys, er, xo, dr, tl, td, tm, hmk, hn, hR, rfl, hzs, hys, hws, hat, hnew, j1, j2, j3, j4, j5, j6, j7⟩ := hJ
    have F3 := fr_canon [(Str.ofString "rows", .ref l9), (Str.ofString "left", .int (k : Int) tl), (Str.ofString "draw", .int (dr : Int) td), (Str.ofString "ready", .ref Rd), (Str.ofString "counts", .ref D), (Str.ofString "turn", .int (turn : Int) u), (Str.ofString "mark", .str (S [mk]) tm)] F2 (by
      intro p hp
      simp only [List.mem_cons, List.not_mem_nil, or_false] at hp
      rcases hp with rfl | rfl | rfl | rfl | rfl | rfl | rfl
      · exact j1
      · exact j2
      · exact j3
      · exact j4
      · exact j5
      · exact j6
      · exact j7)
    dsimp only [kstB] at F3
    clear F2 j1 j2 j3 j4 j5 j6 j7
    refine deed_cut (fun b => b = true ↔ (0 < k ∨ readyOf (R9.map S) ≠ [])) F3 N2 ?_ ?_
    · intro Q' hQ
      k_steps
      · exact hQ _ _ _ ⟨fun _ => .inl (by assumption), fun _ => rfl⟩ (by assumption) (by assumption)
      · exact hQ _ _ _ ⟨fun _ => .inr (by assumption), fun _ => rfl⟩ (by assumption) (fun p hp => news_tail (by assumption) p hp)
      · exact hQ _ _ _ ⟨fun e => (by cases e), fun e => (e.elim (fun q => absurd q (by assumption)) (fun q => absurd q (by assumption)))⟩ (by assumption) (fun p hp => news_tail (by assumption) p hp)
    · clear F3 N2
      intro b h₃ tk₃ hb F4 N4
      cases b with
      | false => 
        simp only [Bool.false_eq_true, if_false]
        have hk0 : ¬ 0 < k := fun q => Bool.false_ne_true (hb.mpr (.inl q))
        have hrn : readyOf (R9.map S) = [] := Decidable.byContradiction fun q => Bool.false_ne_true (hb.mpr (.inr q))
        obtain ⟨e9, rfl⟩ : ∃ e, xo = (l9, LO ws e) := hnew.resolve_left (by omega)
        obtain rfl : k = 0 := by omega
        k_steps
        rename News _ _ _ _ => NE
        rename Fr _ _ _ _ => FE
        exact h _ _ _ _ _ _ _ _ _ _ _ _ _ _ FE.keep (NE _ (.head _)).2.2 (NE _ (.tail _ (.tail _ (.tail _ (.head _))))).2.2 (NE _ (.tail _ (.head _))).2.2 (NE _ (.head _)).1 (NE _ (.tail _ (.tail _ (.tail _ (.head _))))).1 (NE _ (.tail _ (.head _))).1 hws hzs hR (ready_nil hrn)
      | true =>
        simp only [if_true]
        have hdl := deeds_some (hb.mp rfl)
        have hrl := ready_len R9
        have hRl : R9.length ≤ 11 := by rw [hR.len]; exact hx2
        have hdz : (readyOf (R9.map S) ++ List.replicate (min k 1) 0 : List Int).length ≤ 1000000 := by rw [List.length_append, List.length_replicate]; omega
        have hdl2 : (readyOf (R9.map S)).length + (List.replicate (min k 1) (0 : Int)).length ≤ 1000000 := by rw [List.length_replicate]; omega
        have hmod := Nat.mod_lt dr hdl
        have hdeed := deeds_all (k := k) (R := R9) rfl _ (getD_mem (d := 0) hmod)
        repeat' ((fail_if_success (with_reducible show wpAny _ _ (exec (Stmt.If _ _ _ _) _) _ _ _)); (first | walk1 | (dsimp only; walk1)))
        rename News _ _ _ _ => NB
        rename Fr _ _ _ _ => FB
        have N5 : News s.heap L _ [(D, LO zs e), (Rd, LO ys er), xo] := fun p hp => NB p (.tail _ (.tail _ (.tail _ (.tail _ hp))))
        clear NB hdl hdz hdl2 hmod hrl hys hb
        have hll := hR.ll
        have h00 : dotH (xs.getD 0 []) = false := by rw [h0]; rfl
        have hbd := hR.bound hn
        rcases hdeed with ⟨hp0, hk⟩ | ⟨p, hp, hp1, hp2, hp3⟩
        · rw [hp0] at FB
          obtain ⟨k9, rfl⟩ : ∃ k9, k = k9 + 1 := ⟨k - 1, by omega⟩
          obtain ⟨r0, rl, rfl⟩ : ∃ r0 rl, R9 = r0 :: rl := by
            cases R9 with
            | nil => have := hR.len; simp at this; omega
            | cons a b => exact ⟨a, b, rfl⟩
          obtain ⟨n9, hn9, hR9⟩ := hR.mail h00
          have ok9 := hR.ok
          have hz9 : rl.length ≤ 100 := by simp only [List.length_cons] at hRl; omega
          have hx9 : ∀ x ∈ rl, x.length ≤ 1000 := fun x hx => hbd x (.tail _ hx)
          have hc9 : ∀ x ∈ rl, Clean x := fun x hx => ok_clean hmk (ok9 x (.tail _ hx))
          have hl9 : ∀ x ∈ rl, ∀ c ∈ x, c < 128 := fun x hx => ok_low hmk (ok9 x (.tail _ hx))
          have hd9 : ∀ x ∈ rl, ∀ c ∈ x.drop 1, c = 46 := fun x hx => ok_dots (ok9 x (.tail _ hx))
          have hgo : 1 + turn % 3 - (k9 + 1) ≤ 10 := by omega
          have hlow9 : ∀ x ∈ r0 :: rl.map dotP, ∀ c ∈ x, c < 128 := fun x hx => ok_low hmk (hR9.ok x hx)
          have hb9 := hR9.bound (by omega)
          have hz19 : (r0 :: rl.map dotP).length ≤ 1000 := by simp only [List.length_cons, List.length_map]; omega
          clear hbd ok9 hR
          repeat' ((fail_if_success (with_reducible show WhileStep2 _ _ _ _ _ _ _ _)); (first | walk1 | (dsimp only; walk1)))
          rename News _ _ _ _ => NE
          rename Fr _ _ _ _ => FE
          rename IntsAre _ (readyOf _) => hrE
          rename StrsAre _ (List.map S (r0 :: List.map dotP rl)) => hsE
          exact ⟨_, _, _, _, n9, rfl, FE, pick3 NE (.tail _ (.tail _ (.tail _ (.head _)))) (.head _) (.tail _ (.tail _ (.head _))), hn9, mk, k9, _, cs, _, _, D, zs, e, _, _, _, _, _, _, _, tm, hmk, by omega, hR9, rfl, hzs, hrE, hsE, .inl ⟨_, rfl⟩, .inr ⟨_, rfl⟩, rfl, rfl, rfl, rfl, rfl, rfl, rfl⟩
        · rw [hp] at FB
          obtain ⟨n9, hn9, hR9⟩ := hR.fire hmk hp1 hp2 hp3
          have hb9 := hR9.bound (by omega)
          have hcl : p < (cs.map fun c : Nat => (c : Int)).length := by rw [List.length_map, hR.clen, ← hR.len]; exact hp2
          have hcl2 : (cs.map fun c : Nat => (c : Int)).length ≤ 1000000 := by rw [List.length_map, hR.clen]; omega
          have hpb : p - 1 < R9.length := by omega
          have hR1 : R9.length ≤ 1000000 := by omega
          have hR2 : R9.length ≤ 1000 := by omega
          have hv1 : (R9.getD p []).length ≤ 1000000 := by have := hbd _ (getD_mem (d := []) hp2); omega
          have hv2 : (if R9.getD (p - 1) [] = [] then [mk] else R9.getD (p - 1) []).length ≤ 100000 := by
            have := hbd _ (getD_mem (d := []) hpb)
            split
            · simp
            · omega
          have hv3 : (R9.getD (p - 1) []).length ≤ 1000 := hbd _ (getD_mem (d := []) hpb)
          have hz29 : (fireR mk R9 p).length ≤ 1000 := by rw [hR9.len]; omega
          clear hR hbd
          repeat' ((fail_if_success (with_reducible show wpAny _ _ (eval (Expr.BoolOp _ _ _) _) _ _ _)); (first | walk1 | (dsimp only; walk1)))
          rename News _ _ _ _ => NC
          rename Fr _ _ _ _ => FC
          refine deed_cut (fun v => ∃ t, v = .str (S (if R9.getD (p - 1) [] = [] then [mk] else R9.getD (p - 1) [])) t) FC NC ?_ ?_
          · intro Q' hQ
            k_steps
            · exact hQ _ _ _ ⟨_, by rw [if_neg (by assumption)]⟩ (by assumption) (by assumption)
            · exact hQ _ _ _ ⟨_, by rw [if_pos (Decidable.not_not.mp (by assumption))]⟩ (by assumption) (by assumption)
          · clear FC NC
            intro v h4 tk4 hv F5 N6
            obtain ⟨tv, rfl⟩ := hv
            repeat' ((fail_if_success (with_reducible show WhileStep2 _ _ _ _ _ _ _ _)); (first | walk1 | (dsimp only; walk1)))
            rename News _ _ _ _ => NE
            rename Fr _ _ _ _ => FE
            rename IntsAre _ (readyOf _) => hrE
            rename StrsAre _ _ => hsE
            exact ⟨_, _, _, _, n9, rfl, FE, pick3 NE (.tail _ (.head _)) (.head _) (.tail _ (.tail _ (.head _))), hn9, mk, k, fireR mk R9 p, fireC cs p, _, _, D, _, e, _, _, _, _, _, _, _, tm, hmk, by omega, hR9, rfl, ints_fire _ hzs, hrE, hsE, .inl ⟨_, rfl⟩, .inr ⟨_, rfl⟩, rfl, rfl, rfl, rfl, rfl, rfl, rfl⟩
end Mine
end

section
open PySem PySem.W PyProof.Rows PySem.Calls
set_option maxRecDepth 100000
namespace Mine
open Builtin
theorem ls_slot : Slot "bytes" "lstrip" "bytes.lstrip" :=
  .of (owner := "bytes") (n := "lstrip") (by rw [typeLookup_type, builtinLookup_eq_fast]; kernel_rfl) (by decide +kernel) (by decide +kernel) (by decide +kernel)
    (by first | exact .inl (by decide +kernel) | exact .inr (by decide +kernel)) (by rw [isSubtype_type]; kernel_rfl)
theorem ls_entry : entryFor table "bytes.lstrip" = some Builtin.«bytes.lstrip» := entryFor_of_tree (by kernel_rfl)
theorem ls_args (a b : Value) : argsOk "bytes.lstrip" ⟨[a, b], []⟩ := by
  unfold argsOk; rw [signature?_of (id := "bytes.lstrip") (n := ['p', 'i', 'r', 't', 's', 'l']) (o := ['s', 'e', 't', 'y', 'b']) (by kernel_rfl) FB.owner_bytes]; kernel_rfl
theorem ls_type : typeOf (.builtin "bytes.lstrip") = pure (.type "method_descriptor") := by show builtinType _ = _; rw [builtinType_eq_fast]; kernel_rfl
theorem ls_method {M : Model} {A : Around} {E : Value → Shared → Prop} {s : Shared} {b : Array UInt8} {t : Tok} {pl : Sem Bool} {Q : Value × List Value → Shared → Prop} (h : Q (.builtin "bytes.lstrip", [.bytes b t]) s) : wpAny M A (getMethod (.bytes b t) "lstrip" pl) Q E s := by
  with_reducible exact KBd.method_of (.bytes b t) (typeIs_bytes _ _ _) ls_slot ls_type KBd.noRef h
theorem drop_eq (l : List UInt8) : l.dropWhile (#[65] : Array UInt8).contains = stripA l := by
  unfold stripA
  congr 1
  funext x
  simp [Array.contains]
theorem ls_tree {b : Array UInt8} {t u : Tok} : «bytes.lstrip» ⟨[.bytes b t, .bytes #[65] u], []⟩ = (do
    let drop : UInt8 → Bool ← (do let set ← Bytes.bytesLike "bytes.lstrip" (.bytes #[65] u); pure set.contains)
    let b' ← Bytes.payload (.bytes b t)
    let kept := b'.toList.dropWhile drop
    if kept.length == b'.size then (do rule "bytes.lstrip.unchanged"; ret (.bytes b t)) else (do ret (← mkBytes kept.toArray))) := by kernel_rfl
theorem lstrip_any {prog : Program} {w : World} {A : Around} {E : Value → Shared → Prop} {s : Shared} {x : List UInt8} {t u : Tok} {Q : Value → Shared → Prop} (hz : x.length ≤ 1000000)
    (h : ∀ t' k, Q (.bytes (stripA x).toArray t') { s with toks := k }) : wpAny (model prog w) A (call (.builtin "bytes.lstrip") [.bytes x.toArray t, .bytes #[65] u]) Q E s := by
  refine wpAny_call_entry ls_slot (typeIs_bytes _ _ _) ls_entry ?_ (ls_args _ _)
  rw [ls_tree, KBd.like_eq]
  refine wpAny_bind (wpAny_bind (wpAny_pure (wpAny_pure ?_)))
  refine wpAny_bind (m := Bytes.payload (.bytes x.toArray t)) (wpAny_pure ?_)
  dsimp only
  simp only [drop_eq]
  have hle : (stripA x).length ≤ x.length := (List.dropWhile_sublist _).length_le
  split
  · rename_i hc
    have he : (stripA x).length = x.length := by simpa using hc
    have hx : stripA x = x := (List.dropWhile_sublist _).eq_of_length he
    refine wpAny_bind (wpAny_rule (wpAny_pure ⟨_, rfl, ?_⟩))
    have := h t s.toks
    rw [hx] at this
    exact this
  · unfold mkBytes
    rw [if_neg (Nat.not_lt.mpr (by rw [sizeLine_eq, List.size_toArray]; omega))]
    refine wpAny_bind (wpAny_bind (wpAny_fresh (wpAny_pure (wpAny_pure ⟨_, rfl, h _ _⟩))))
end Mine
end

section
open PySem PySem.W PyProof.Rows PySem.Calls PySem.Spec PySem.Builtin
set_option maxRecDepth 100000
namespace Mine
def rowL (c : Int) : List Nat := if 0 < c then List.replicate (c + 1).toNat 46 else []
theorem rowOf_S (c : Int) : rowOf c = S (rowL c) := by unfold rowOf rowL; split <;> rfl
def widthOf (a b : Nat) : Nat := max (apL a).length (apL b).length
/-- the rows at the start -/
def xsOf (a b : Nat) : List (List Nat) := [] :: (List.range (widthOf a b)).map fun i => rowL (dotAt (apL a) (apL b) i)
theorem xs_S (a b : Nat) : (Str.empty :: (List.range (max (apL a).length (apL b).length)).map fun i => rowOf (dotAt (apL a) (apL b) i)) = (xsOf a b).map S := by
  unfold xsOf
  rw [List.map_cons, List.map_map]
  congr 1
  exact List.map_congr_left fun i _ => rowOf_S _
theorem val_row (d : Nat) : val (rowL (d : Int)) = d := by
  unfold rowL val
  by_cases h : 0 < d
  · rw [if_pos (by omega), List.length_replicate]; omega
  · rw [if_neg (by omega)]; simp; omega
theorem dotH_row (d : Nat) : dotH (rowL (d : Int)) = decide (d > 0) := by
  unfold rowL
  by_cases h : 0 < d
  · rw [if_pos (by omega), show ((d : Int) + 1).toNat = d + 1 from by omega, List.replicate_succ]
    rw [decide_eq_true h]; rfl
  · rw [if_neg (by omega), decide_eq_false h]; rfl
theorem ok_row (c : Int) : RowOk 46 (rowL c) := by
  unfold rowL
  split
  · rename_i h
    obtain ⟨k, hk⟩ : ∃ k, (c + 1).toNat = k + 1 := ⟨(c + 1).toNat - 1, by omega⟩
    rw [hk, List.replicate_succ]
    exact .inr ⟨46, _, rfl, .inl rfl, fun d hd => List.eq_of_mem_replicate hd⟩
  · exact .inl rfl
theorem fig_le (a b k : Nat) : fig a b k ≤ 30 := by unfold fig; omega
theorem xs_at {a b i : Nat} (h : i < widthOf a b) : (xsOf a b).getD (i + 1) [] = rowL (fig a b (widthOf a b - 1 - i) : Int) := by
  have hd := dot_at h
  unfold xsOf
  rw [List.getD_cons_succ, List.getD_eq_getElem?_getD, List.getElem?_map, List.getElem?_range h]
  show rowL (dotAt (apL a) (apL b) i) = _
  rw [hd]; rfl
theorem xs_len (a b : Nat) : (xsOf a b).length = widthOf a b + 1 := by simp [xsOf]
theorem xs_ok (a b : Nat) : ∀ x ∈ xsOf a b, RowOk 46 x := by
  intro x hx
  unfold xsOf at hx
  rcases List.mem_cons.mp hx with rfl | hx
  · exact .inl rfl
  · obtain ⟨i, _, rfl⟩ := List.mem_map.mp hx
    exact ok_row _
theorem width_le {a b W : Nat} (ha : a < 16 ^ W) (hb : b < 16 ^ W) : widthOf a b ≤ W := by
  have h1 := apL_le.mpr ha
  have h2 := apL_le.mpr hb
  unfold widthOf; omega
theorem sum_le {f : Nat → Nat} {K : Nat} : ∀ (l : List Nat), (∀ i ∈ l, f i ≤ K) → (l.map f).sum ≤ l.length * K
  | [], _ => by simp
  | x :: r, h => by
    have ih := sum_le r fun i hi => h i (List.mem_cons_of_mem x hi)
    have := h x List.mem_cons_self
    rw [List.map_cons, List.sum_cons, List.length_cons, Nat.succ_mul]; omega
theorem xs_sum {a b : Nat} (h : widthOf a b ≤ 9) : ((xsOf a b).map val).sum ≤ 400 := by
  unfold xsOf
  rw [List.map_cons, List.sum_cons, List.map_map]
  have := sum_le (f := val ∘ fun i => rowL (dotAt (apL a) (apL b) i)) (K := 30) (List.range (widthOf a b)) fun i hi => by
    show val (rowL (dotAt (apL a) (apL b) i)) ≤ 30
    rw [dot_at (List.mem_range.mp hi), val_row]; exact fig_le _ _ _
  rw [List.length_range] at this
  have e : val [] = 0 := rfl
  rw [e]
  have : widthOf a b * 30 ≤ 9 * 30 := Nat.mul_le_mul_right _ h
  omega

theorem final {a b W sd mk n : Nat} {rows : List (List Nat)} {cs : List Nat} (hlow : ∀ j, j < W → (16 ^ j ≤ a ∨ 16 ^ j ≤ b)) (ha : a < 16 ^ W) (hb : b < 16 ^ W) (hsd : sd ≤ 3) (hR : Run mk sd (xsOf a b) 0 n rows cs) (h16 : ∀ i, 1 ≤ i → (rows.getD i []).length ≤ 16) :
    (0 :: ((List.range W).map fun i => (dueC a b sd i : Int)).reverse : List Int) = cs.map (fun c : Nat => (c : Int)) ∧ (∀ x ∈ rows, val x ≤ 15) ∧ num (rows.map val) = a + b + dueG a b sd W := by
  have hW : widthOf a b = W := by
    have h1 := width_le ha hb
    by_cases h2 : widthOf a b < W
    · exfalso
      have h3 := apL_le.mp (show (apL a).length ≤ widthOf a b by unfold widthOf; omega)
      have h4 := apL_le.mp (show (apL b).length ≤ widthOf a b by unfold widthOf; omega)
      rcases hlow _ h2 with h | h <;> omega
    · omega
  have hrl : rows.length = W + 1 := by rw [hR.len, xs_len, hW]
  have hcl : cs.length = W + 1 := by rw [hR.clen, xs_len, hW]
  have h0 : val (rows.getD 0 []) = cs.getD 1 0 := by
    have e := hR.eq 0
    rw [hR.c0] at e
    have e1 : (xsOf a b).getD 0 [] = [] := rfl
    rw [e1] at e
    simpa [val, dotH] using e
  have hlast : cs.getD (W + 1) 0 = 0 := by rw [List.getD_eq_getElem?_getD, List.getElem?_eq_none (by omega)]; rfl
  have hstep : ∀ k, k < W → val (rows.getD (W - k) []) + 16 * cs.getD (W - k) 0 = base a b sd k + cs.getD (W - k + 1) 0 := by
    intro k hk
    have e := hR.eq (W - k)
    rw [show (xsOf a b).getD (W - k) [] = rowL (fig a b k : Int) from by
      have := xs_at (a := a) (b := b) (i := W - k - 1) (by omega)
      rw [show W - k - 1 + 1 = W - k from by omega, hW, show W - 1 - (W - k - 1) = k from by omega] at this
      exact this, val_row, dotH_row, Nat.sub_zero] at e
    unfold base
    rw [e]
    by_cases hf : fig a b k > 0
    · rw [if_pos hf, if_pos (decide_eq_true hf)]; omega
    · rw [if_neg hf, if_neg (by rw [decide_eq_false hf]; exact Bool.false_ne_true)]; omega
  have hv : ∀ k, k < W → val (rows.getD (W - k) []) ≤ 15 := fun k hk => by
    have := h16 (W - k) (by omega)
    have e : val (rows.getD (W - k) []) = (rows.getD (W - k) []).length - 1 := rfl
    omega
  obtain ⟨htot, hv0⟩ := total_is (v := fun i => val (rows.getD i [])) (c := fun i => cs.getD i 0) hsd ha hb h0 hlast hstep hv
  refine ⟨?_, ?_, ?_⟩
  · apply List.ext_getElem?
    intro i
    rw [List.getElem?_map]
    by_cases hi0 : i = 0
    · subst hi0
      have := hR.c0
      rw [List.getD_eq_getElem?_getD] at this
      rw [List.getElem?_cons_zero, List.getElem?_eq_getElem (by omega)] at *
      rw [Option.getD_some] at this
      rw [Option.map_some, this]; rfl
    · obtain ⟨j, rfl⟩ : ∃ j, i = j + 1 := ⟨i - 1, by omega⟩
      rw [List.getElem?_cons_succ]
      by_cases hj : j < W
      · rw [List.getElem?_reverse (by simpa using hj), List.length_map, List.length_range, List.getElem?_map, List.getElem?_range (by omega), List.getElem?_eq_getElem (by omega)]
        have := carry_is (v := fun i => val (rows.getD i [])) (c := fun i => cs.getD i 0) hsd hlast hstep hv (k := W - 1 - j) (by omega)
        rw [show W - (W - 1 - j) = j + 1 from by omega, List.getD_eq_getElem?_getD, List.getElem?_eq_getElem (by omega), Option.getD_some] at this
        rw [Option.map_some, Option.map_some, this]
      · rw [List.getElem?_eq_none (by simp; omega), List.getElem?_eq_none (by omega)]; rfl
  · intro x hx
    obtain ⟨i, hi, rfl⟩ := List.getElem_of_mem hx
    have e : rows.getD i [] = rows[i] := by rw [List.getD_eq_getElem?_getD, List.getElem?_eq_getElem hi]; rfl
    rw [← e]
    by_cases hi0 : i = 0
    · subst hi0
      have h2 : val (rows.getD 0 []) ≤ 2 := hv0
      omega
    · have := hv (W - i) (by omega)
      rwa [show W - (W - i) = i from by omega] at this
  · rw [← htot]
    congr 1
    apply List.ext_getElem?
    intro i
    rw [List.getElem?_map, List.getElem?_map]
    by_cases hi : i < W + 1
    · rw [List.getElem?_range' hi, List.getElem?_eq_getElem (by omega)]
      simp [List.getD_eq_getElem?_getD, show i < rows.length by omega]
    · rw [List.getElem?_eq_none (by omega), List.getElem?_eq_none (by simp; omega)]; rfl
end Mine
end

section
open PySem PySem.W PyProof.Rows PySem.Calls PySem.Spec PySem.Builtin
set_option maxRecDepth 100000
namespace Mine
theorem ints_all : ∀ {vs : List Value}, (∀ v ∈ vs, ∃ k t, v = .int k t) → ∃ ks, IntsAre vs ks
  | [], _ => ⟨[], .nil⟩
  | v :: r, h => by
    obtain ⟨k, t, rfl⟩ := h v List.mem_cons_self
    obtain ⟨ks, hk⟩ := ints_all fun x hx => h x (List.mem_cons_of_mem _ hx)
    exact ⟨k :: ks, .cons k t hk⟩
theorem ints_mem : ∀ {vs : List Value} {ks : List Int}, IntsAre vs ks → ∀ v ∈ vs, ∃ k t, v = .int k t
  | _, _, .nil, v, h => nomatch h
  | _, _, .cons k t r, v, h => by
    rcases List.mem_cons.mp h with rfl | h
    · exact ⟨k, t, rfl⟩
    · exact ints_mem r v h
theorem pick_ints {vs : List Value} {ks : List Int} (h : IntsAre vs ks) (lo hi st : Option Int) : ∃ ws ms, slicePick vs.toArray lo hi st = List.toArray ws ∧ IntsAre ws ms := by
  obtain ⟨ms, hm⟩ := ints_all (vs := (slicePick vs.toArray lo hi st).toList) fun v hv => by
    unfold slicePick at hv
    obtain ⟨i, _, hi⟩ := List.mem_filterMap.mp hv
    have hmem := Array.mem_of_getElem? hi
    exact ints_mem h v (by simpa using hmem)
  exact ⟨_, ms, rfl, hm⟩
section
variable {prog p : Program} {loose : List Str} {w : World} {A : Around} {E : Value → Shared → Prop} {Q : Value → Shared → Prop} {mean : ExcName → Option Value} {mg mb : Str → Option Value} {h₀ h : Heap} {L : Addr} {m : Str → Option Value} {news : List (Addr × Obj)} {gs : Array GenState} {dr : Drawn} {tk : Nat} {os : OsState}
theorem third_S {value slice : PySem.Expr} {l : Addr} {vs : List Value} {ks : List Int} {j : Int} {ops : List Value} {u u' : Tok} (F : Fr h₀ L h m) (N : News h₀ L h news) (hl : h.IsList l vs.toArray) (hi : IntsAre vs ks) (hz : vs.length ≤ 1000)
    (hq : ∀ D ws ms h', IntsAre ws ms → Fr h₀ L h' m → News h₀ L h' ((D, LO ws 0) :: news) → Q (.ref D) ⟨h', gs, dr, tk, os⟩)
    (hs : subscripted slice false (.ref l) (.ref h.objs.size) = operate ops (getItem (.ref l) (.ref h.objs.size)) := by with_unfolding_all rfl)
    (ht : ∀ r, letTemporaryGo value (.ref l) r = pure () := by intro _; with_unfolding_all rfl) :
    wpAny (model prog w) A (subscriptTail value slice (.ref l) (.ref h.objs.size)) Q E ⟨h.push { cls := .type "slice", data := .fields #[.int j u, .none, .int 3 u'] }, gs, dr, tk, os⟩ := by
  obtain ⟨ws, ms, e, hm⟩ := pick_ints hi (some j) none (some 3)
  refine slice_list3 (s := ⟨h, gs, dr, tk, os⟩) F N hl (lo := some j) (hi := none) (st := some 3) (by constructor) (by constructor) (by constructor) (by decide) (fun h' F' N' => ?_) hs ht (by rw [List.size_toArray, sizeLine_eq]; omega)
  rw [e] at N'
  exact hq _ ws ms h' hm F' N'
end
section
variable {prog p : Program} {loose : List Str} {w : World} {A : Around} {E : Value → Shared → Prop} {s : Shared} {mean : ExcName → Option Value} {mg mb : Str → Option Value} {h₀ : Heap} {L : Addr} {m : Str → Option Value} {news : List (Addr × Obj)} {Q : Value → Shared → Prop}
theorem modz {z M : Int} (K : Nat) (hM : M = (K : Int)) (hK : 0 < K) {t u : Tok} (h : ∀ n : Nat, n < K → Q (.int (n : Int) s.toks) { s with toks := s.toks + 1 }) : wpAny (model prog w) A (binaryOp .Mod (.int z t) (.int M u)) Q E s := by
  subst hM
  refine mod_int (by omega) ?_
  have h0 := Int.fmod_nonneg_of_pos z (show (0 : Int) < (K : Int) by omega)
  have h1 := Int.fmod_lt_of_pos z (show (0 : Int) < (K : Int) by omega)
  obtain ⟨n, hn⟩ := Int.eq_ofNat_of_zero_le h0
  rw [hn] at h1 ⊢
  exact h n (by omega)
theorem fr_int2ap {n : Int} {x : Nat} {t : Tok} (F : Fr h₀ L s.heap m) (N : News h₀ L s.heap news) (KX : (hd.heap_39 w.params).In h₀) (T : Top p loose mean mg mb h₀) (hroom : A.depth < 500) (hh : A.handled = none) (hn : n.natAbs = x) (hx : x < 2 ^ 400)
    (h : ∀ t' h' tk', Fr h₀ L h' m → News h₀ L h' news → Q (.bytes (apL x).toArray t') { s with heap := h', toks := tk' }) : wpAny (model prog w) A (call (.ref 38) [.int n t]) Q E s :=
  wpAny_call (int2ap (KX.keeps F.keep) (T.keeps F.keep) hroom hh (by rw [hn]; exact hx) fun t' h' tk' k => by rw [hn]; exact h t' h' tk' (F.after k) (N.grown k))
theorem fr_rows {a b : Nat} {t u : Tok} (F : Fr h₀ L s.heap m) (N : News h₀ L s.heap news) (KX : (hd.heap_39 w.params).In h₀) (T : Top p loose mean mg mb h₀) (hroom : A.depth < 500) (hh : A.handled = none) (ha : (apL a).length ≤ 100) (hb : (apL b).length ≤ 100)
    (h : ∀ D ys e h' tk', StrsAre ys ((xsOf a b).map S) → Fr h₀ L h' m → News h₀ L h' ((D, LO ys e) :: news) → Q (.ref D) { s with heap := h', toks := tk' }) : wpAny (model prog w) A (call (.ref 79) [.bytes (apL a).toArray t, .bytes (apL b).toArray u]) Q E s :=
  wpAny_call (law_rows (KX.keeps F.keep) (T.keeps F.keep) hroom hh ha hb fun D ys e h' tk' k hD hD' hi => h D ys e h' tk' (by rw [← xs_S]; exact hi) (F.after k) (news_cons F N k hD hD'))
theorem fr_run {l : Addr} {vs : List Value} {xs : List (List Nat)} {turn : Nat} {u : Tok} (F : Fr h₀ L s.heap m) (N : News h₀ L s.heap news) (KX : (hd.heap_39 w.params).In h₀) (T : Top p loose mean mg mb h₀) (hroom : A.depth < 450) (hh : A.handled = none) (hu : A.units < 900) (hl : s.heap.IsList l vs.toArray) (hs : StrsAre vs (xs.map S)) (hx1 : 1 ≤ xs.length) (hx2 : xs.length ≤ 11)
    (hok : ∀ x ∈ xs, RowOk 46 x) (h0 : xs.getD 0 [] = []) (hsum : (xs.map val).sum ≤ 400) (hturn : turn < 1000000000000)
    (h : ∀ Tp r D ws zs rows cs mk n e1 e2 e3 h' tk', Fr h₀ L h' m → News h₀ L h' ((Tp, { cls := .type "tuple", data := .seq #[.ref r, .ref D] e1 }) :: (r, LO ws e2) :: (D, LO zs e3) :: news) → StrsAre ws (rows.map S) → IntsAre zs (cs.map fun c : Nat => (c : Int)) →
      Run mk (1 + turn % 3) xs 0 n rows cs → (∀ i, 1 ≤ i → (rows.getD i []).length ≤ 16) → Q (.ref Tp) { s with heap := h', toks := tk' }) : wpAny (model prog w) A (call (.ref 103) [.ref l, .int (turn : Int) u]) Q E s :=
  wpAny_call (law_run (KX.keeps F.keep) (T.keeps F.keep) hroom hh hu hl hs hx1 hx2 hok h0 hsum hturn fun Tp r D ws zs rows cs mk n e1 e2 e3 h' tk' k n1 n2 n3 g1 g2 g3 i1 i2 R1 R2 =>
    h Tp r D ws zs rows cs mk n e1 e2 e3 h' tk' (F.after k) (fun q hq => by
      rcases List.mem_cons.mp hq with rfl | hq
      · exact news_cons F N k n1 g1 _ List.mem_cons_self
      · rcases List.mem_cons.mp hq with rfl | hq
        · exact news_cons F N k n2 g2 _ List.mem_cons_self
        · exact news_cons F N k n3 g3 _ hq) i1 i2 R1 R2)
theorem fr_due {a b sd : Nat} {ta tb ts : Tok} (F : Fr h₀ L s.heap m) (N : News h₀ L s.heap news) (KX : (hd.heap_39 w.params).In h₀) (T : Top p loose mean mg mb h₀) (hroom : A.depth < 500) (hh : A.handled = none) (ha : a < 68719476736) (hb : b < 68719476736) (hsd : sd ≤ 3)
    (h : ∀ W Tp D ys e e' t h' tk', W ≤ 9 → (∀ j, j < W → (16 ^ j ≤ a ∨ 16 ^ j ≤ b)) → a < 16 ^ W → b < 16 ^ W → Fr h₀ L h' m →
      News h₀ L h' ((Tp, { cls := .type "tuple", data := .seq #[.int ((a + b + dueG a b sd W : Nat) : Int) t, .ref D] e }) :: (D, LO ys e') :: news) →
      IntsAre ys (0 :: ((List.range W).map fun i => (dueC a b sd i : Int)).reverse) → Q (.ref Tp) { s with heap := h', toks := tk' }) : wpAny (model prog w) A (call (.ref 110) [.int (a : Int) ta, .int (b : Int) tb, .int (sd : Int) ts]) Q E s :=
  wpAny_call (law_due (KX.keeps F.keep) (T.keeps F.keep) hroom hh ha hb hsd fun W Tp D ys e e' t h' tk' w1 w2 w3 w4 k n1 n2 g1 g2 i1 =>
    h W Tp D ys e e' t h' tk' w1 w2 w3 w4 (F.after k) (fun q hq => by
      rcases List.mem_cons.mp hq with rfl | hq
      · exact news_cons F N k n1 g1 _ List.mem_cons_self
      · exact news_cons F N k n2 g2 _ hq) i1)
theorem bytes_S {l : Addr} {vs : List Value} {rows : List (List Nat)} (F : Fr h₀ L s.heap m) (N : News h₀ L s.heap news) (hl : s.heap.IsList l vs.toArray) (hi : IntsAre vs (rows.map fun r => 65 + ((r.drop 1).length : Int))) (hv : ∀ x ∈ rows, val x ≤ 15) (hz : rows.length ≤ 1000) (hh : A.handled = none)
    (h : ∀ h' t k, Fr h₀ L h' m → News h₀ L h' news → Q (.bytes ((rows.map val).map fun d => (65 + d).toUInt8).toArray t) { s with heap := h', toks := k }) : wpAny (model prog w) A (call (.type "bytes") [.ref l]) Q E s := by
  refine bytes_K F N hl hi (fun n hn => ?_) (by have := hi.length; rw [List.length_map] at this; rw [sizeLine_eq]; omega) hh (fun h' t k F' N' _ => ?_)
  · obtain ⟨x, hx, rfl⟩ := List.mem_map.mp hn
    have h1 := hv x hx
    have h2 : (x.drop 1).length = val x := by rw [List.length_drop]; rfl
    rw [h2]; omega
  · have e : ((rows.map fun r => 65 + ((r.drop 1).length : Int)).map fun n => n.toNat.toUInt8) = (rows.map val).map fun d => (65 + d).toUInt8 := by
      rw [List.map_map, List.map_map]
      refine List.map_congr_left fun x _ => ?_
      have h2 : (x.drop 1).length = val x := by rw [List.length_drop]; rfl
      show (65 + ((x.drop 1).length : Int)).toNat.toUInt8 = (65 + val x).toUInt8
      rw [h2]; congr 1
    rw [e]; exact h h' t k F' N'
theorem lstrip_S {x z : List UInt8} {t u : Tok} (he : stripA x = z) (hz : x.length ≤ 1000000)
    (h : ∀ t' k, Q (.bytes z.toArray t') { s with toks := k }) : wpAny (model prog w) A (call (.builtin "bytes.lstrip") [.bytes x.toArray t, .bytes #[65] u]) Q E s := by
  subst he; exact lstrip_any hz h
theorem eq_sameB {x : Array UInt8} {t u : Tok} (h : Q (.bool true) s) : wpAny (model prog w) A (compareOp .Eq (.bytes x t) (.bytes x u)) Q E s :=
  eq_bytes (by rw [show (x.toList == x.toList) = true from by simp]; exact h)
theorem ne_sameI {a b : Addr} {xs ys : List Value} {ns : List Int} (ha : s.heap.IsList a xs.toArray) (hb : s.heap.IsList b ys.toArray) (hi : IntsAre xs ns) (hj : IntsAre ys ns) (hu : A.units + 64 < cLine) (h : Q (.bool false) s) :
    wpAny (model prog w) A (compareOp .NotEq (.ref a) (.ref b)) Q E s :=
  ne_ints ha hb hi hj hu (by rw [decide_eq_true rfl]; exact h)
theorem big_mul {x : Nat} {M : Int} {t u : Tok} (hx : x < 2 ^ 63) (h : ∀ z : Int, z.natAbs = x * M.natAbs → Q (.int z s.toks) { s with toks := s.toks + 1 }) : wpAny (model prog w) A (binaryOp .Mult (.int (-(x : Int)) t) (.int M u)) Q E s :=
  PyProof.Rows.mul_int (h _ (by rw [Int.natAbs_mul, Int.natAbs_neg, Int.natAbs_natCast])) (.of_left (PySem.intBits_le_64 (by omega) (by omega)))
end
theorem law_facts {a b turn : Nat} (ha : a < 68719476736) (hb : b < 68719476736) (turn0 : turn < 1000000000000) : (apL a).length ≤ 100 ∧ (apL b).length ≤ 100 ∧ 1 ≤ (xsOf a b).length ∧ (xsOf a b).length ≤ 11 ∧ (∀ x ∈ xsOf a b, RowOk 46 x) ∧ (xsOf a b).getD 0 [] = [] ∧ ((xsOf a b).map val).sum ≤ 400 ∧ a < 2 ^ 400 ∧ b < 2 ^ 400 ∧ 1 + turn % 3 ≤ 3 := by
  have e : (68719476736 : Nat) = 16 ^ 9 := by decide
  have ha' := ha
  have hb' := hb
  rw [e] at ha' hb'
  have h1 := apL_le.mpr ha'
  have h2 := apL_le.mpr hb'
  have h3 := width_le ha' hb'
  have e2 : (68719476736 : Nat) < 2 ^ 400 := by decide +kernel
  refine ⟨by omega, by omega, by rw [xs_len]; omega, by rw [xs_len]; omega, xs_ok a b, rfl, xs_sum h3, Nat.lt_trans ha e2, Nat.lt_trans hb e2, by omega⟩
theorem val_small {a b sd W : Nat} (ha : a < 68719476736) (hb : b < 68719476736) (hsd : sd ≤ 3) (hW : W ≤ 9) : a + b + dueG a b sd W < 2 ^ 63 := by
  have h1 := dueG_le a b hsd W
  have h2 : 16 ^ W ≤ 16 ^ 9 := Nat.pow_le_pow_right (by decide) hW
  have e : (16 : Nat) ^ 9 = 68719476736 := by decide
  omega
theorem big_mul30 {prog : Program} {w : World} {A : Around} {E : Value → Shared → Prop} {s : Shared} {Q : Value → Shared → Prop} {x : Nat} {M : Int} {t u : Tok} (hM : M.natAbs = 16 ^ 30) (hx : x < 2 ^ 63) (h : ∀ z : Int, z.natAbs = x * 16 ^ 30 → Q (.int z s.toks) { s with toks := s.toks + 1 }) : wpAny (model prog w) A (binaryOp .Mult (.int (-(x : Int)) t) (.int M u)) Q E s :=
  big_mul hx fun z hz => h z (by rw [hz, hM])
theorem big_fit {x : Nat} (hx : x < 2 ^ 63) : x * 16 ^ 30 < 2 ^ 400 := by
  have : x * 16 ^ 30 ≤ 2 ^ 63 * 16 ^ 30 := Nat.mul_le_mul_right _ (Nat.le_of_lt hx)
  exact Nat.lt_of_le_of_lt this (by decide +kernel)
theorem small_fit {x : Nat} (hx : x < 2 ^ 63) : x < 2 ^ 400 := Nat.lt_trans hx (by decide +kernel)
theorem law_cut {prog : Program} {w : World} {A : Around} {E : Value → Shared → Prop} {s : Shared} {h₀ : Heap} {L : Addr} {m : Str → Option Value} {news : List (Addr × Obj)} {M : Sem Flow} {Q : Flow → Shared → Prop} (_ : Fr h₀ L s.heap m) (_ : News h₀ L s.heap news)
    (walk : ∀ Q' : Flow → Shared → Prop, (∀ h' tk' m' nw, Fr h₀ L h' m' → News h₀ L h' nw → Q' (.ret (.bool true)) { s with heap := h', toks := tk' }) → wpAny (model prog w) A M Q' (fun _ _ => False) s)
    (rest : ∀ h' tk' m' nw, Fr h₀ L h' m' → News h₀ L h' nw → Q (.ret (.bool true)) { s with heap := h', toks := tk' }) : wpAny (model prog w) A M Q E s :=
  wpAny_mono (walk Q rest) (fun _ _ h => h) (fun _ _ h => h.elim)
theorem natAbs_na (n : Nat) : (-(n : Int)).natAbs = n := by omega
theorem rows_short {rows : List (List Nat)} (h : ∀ x ∈ rows, val x ≤ 15) : ∀ y ∈ rows, y.length ≤ 1001 := fun y hy => by
  have h1 := h y hy
  have h2 : val y = y.length - 1 := rfl
  omega
end Mine
end

section
open PySem PySem.W PyProof.Rows PySem.Calls
set_option maxRecDepth 100000
namespace Mine
theorem fill10 : PySem.Challenge.rw_pk0010_01 = PySem.Challenge.rw_pk0010_01 ∧ hd.heap_39 = hd.heap_39 := by
  k_fill
  exact ⟨rfl, rfl⟩
abbrev sc2 : Scope := { kind := .function, names := [(Str.ofString ".0", .local), (Str.ofString "row", .local), (Str.ofString "len", .globalImplicit)], isGenerator := false, isCoroutine := false, more := [] }
abbrev lenE (q1 q2 q3 q4 p1 p2 p3 p4 : Pos) (k1 kk : Nat) : Expr := .BinOp (.Constant (.int 65) k1 q1) .Add (.Call (.Name (Str.ofString "len") q2) [cut2 (Str.ofString "row") p1 p2 p3 p4 kk] [] q3) q4
local macro_rules | `(tactic| walk_at "call builtin:len") => `(tactic| ((with_reducible show wpAny _ _ (call (Value.builtin "len") [Value.str _ _]) _ _ _); refine len_str (by omega) ?_))
section
variable {prog p : Program} {loose : List Str} {w : World} {A : Around} {E : Value → Shared → Prop} {s : Shared} {mean : ExcName → Option Value} {mg mb : Str → Option Value} {h₀ : Heap} {L I C D : Addr} {m m₂ : Str → Option Value} {oI oC : Obj} {ys : List Value} {news : List (Addr × Obj)} {Q : Value → Shared → Prop} {nm : Str} {scp : Scope} {fa : Addr} {cdv : Value} {cl : List (Str × Addr)} {l : List Nat} {t : Tok}
  {q1 q2 q3 q4 p1 p2 p3 p4 : Pos} {k1 kk : Nat}
set_option maxHeartbeats 1000000 in
theorem turn_len (KX : (hd.heap_39 w.params).In h₀) (T : Top p loose mean mg mb h₀) (hC : LCg.NsObj oC m₂) (hx2 : m₂ (Str.ofString "row") = some (.str (S l) t)) (hz : l.length ≤ 1001) (F : Fr h₀ L s.heap m) (N : News h₀ L s.heap ((I, oI) :: (C, oC) :: (D, LCg.lst ys) :: news))
    (h : ∀ t' h' tk', Fr h₀ L h' m → News h₀ L h' ((I, oI) :: (C, oC) :: (D, LCg.lst ys) :: news) → Q (.int (65 + ((l.drop 1).length : Int)) t') { s with heap := h', toks := tk' }) :
    wpAny (model prog w) A (eval (lenE q1 q2 q3 q4 p1 p2 p3 p4 k1 kk) (compEnvC sc2 cl C (envOf nm scp L fa cdv))) Q E s := by
  have hsl' : (S l).length ≤ 1001 := by rw [S_len]; exact hz
  k_steps
  dsimp only
  rw [slice_from1, S_len]
  exact h _ _ _ (by assumption) (by assumption)
theorem src_lens {env : Env} {ax : Addr} {k : Nat} {ws : List Value} {ls : List (List Nat)} {elt : Expr} {x : Str} {scope : Scope} (hh : A.handled = none) (F : Fr h₀ L s.heap m) (N : News h₀ L s.heap news) (hm : (ax, LO ws k) ∈ news)
    (hs : StrsAre ws (ls.map S)) (hz : ls.length ≤ 1000) (hx : ∀ y ∈ ls, y.length ≤ 1001)
    (turn : ∀ (l : List Nat) t I oI C oC D m₂ ys nw h tk (E' Q' : Value → Shared → Prop), l.length ≤ 1001 → LCg.NsObj oC m₂ → m₂ x = some (.str (S l) t) → Fr h₀ L h m → News h₀ L h ((I, oI) :: (C, oC) :: (D, LCg.lst ys) :: nw) →
      (∀ t' h' tk', Fr h₀ L h' m → News h₀ L h' ((I, oI) :: (C, oC) :: (D, LCg.lst ys) :: nw) → Q' (.int (65 + ((l.drop 1).length : Int)) t') { s with heap := h', toks := tk' }) →
      wpAny (model prog w) A (eval elt (compEnvC scope cl C env)) Q' E' { s with heap := h, toks := tk })
    (fin : ∀ D zs h' tk', IntsAre zs (ls.map fun r => 65 + ((r.drop 1).length : Int)) → Fr h₀ L h' m → News h₀ L h' ((D, LCg.lst zs) :: news) → Q (.ref D) { s with heap := h', toks := tk' }) :
    LCg.CompSrc prog w A h₀ L m env elt x scope cl (fun s₂ => LCg.FinE h₀ L m s₂ Q) (.ref ax) s := by
  have hwl := StrsAre.length hs
  rw [List.length_map] at hwl
  refine LCg.CompSrc.ledger hh F N hm (by rw [sizeLine_eq, List.size_toArray]; omega) fun g => ?_
  refine rest_any (fun i v => IsI (65 + (((ls.getD i []).drop 1).length : Int)) v) ?_ ?_
  · intro i v I oI C oC D m₂ zs h tk E' hi hv hC hx2 F3 N3 off3
    obtain ⟨t3, rfl⟩ := strs_S hs (by simpa [hwl] using hi) (by simpa using hv)
    refine turn _ t3 I oI C oC D m₂ zs _ h tk E' _ (getD_prop (p := fun x => x.length ≤ 1001) hx (by simp) i) hC hx2 F3 N3 fun t' h' tk' F4 N4 => ?_
    exact ⟨h', tk', _, rfl, F4, N4, off3, .inr ⟨_, hm, rfl, _, rfl⟩, rfl, t', rfl⟩
  · intro zs hzl hzs D h tk F3 N3 off3
    refine fin D zs h tk ?_ F3 N3
    refine ints_of (by simpa [hwl] using hzl) fun j y k' h1 h2 => ?_
    have hj : j < ls.length := by
      rcases Nat.lt_or_ge j zs.length with h | h
      · simpa [hzl, hwl] using h
      · rw [List.getElem?_eq_none h] at h1; cases h1
    rw [List.getElem?_map, List.getElem?_eq_getElem hj] at h2
    cases h2
    have := hzs j y h1
    rw [List.getD_eq_getElem?_getD, List.getElem?_eq_getElem hj] at this
    exact this
end
end Mine
end

section
open PySem PySem.W PyProof.Rows PySem.Calls
set_option maxRecDepth 100000
namespace Mine
theorem fill11 : PySem.Challenge.rw_pk0010_01 = PySem.Challenge.rw_pk0010_01 ∧ hd.heap_39 = hd.heap_39 := by
  k_fill
  exact ⟨rfl, rfl⟩
local macro_rules | `(tactic| walk_at "subscriptTail Name Slice ref ref") => `(tactic| ((with_reducible show wpAny _ _ (subscriptTail _ (Expr.Slice (some _) none (some _) _) (Value.ref _) (Value.ref _)) _ _ _); (try dsimp only); k_dflt (refine third_S (by assumption) (by assumption) (by is_list) (by assumption) (by assumption) ?_ (by with_unfolding_all rfl) (by intro _; with_unfolding_all rfl)); intro _ _ _ _ _ _ _))
local macro_rules | `(tactic| walk_at "call builtin:sum") => `(tactic| (k_dflt (refine sumK rfl (by assumption) (by assumption) (by is_list) (by assumption) ?_); intro _ _ _ _ _))
local macro_rules | `(tactic| walk_at "binaryOp Mod int int") => `(tactic| (k_dflt (first | refine modz 68719476736 (by decide) (by decide) ?_ | refine modz 1000000000000 (by decide) (by decide) ?_); intro _ _))
local macro_rules | `(tactic| walk_at "binaryOp Mod int int") => `(tactic| (refine mod3_n ?_))
local macro_rules | `(tactic| walk_at "binaryOp Add int int") => `(tactic| (refine add1l_n ?_))
local macro_rules | `(tactic| walk_at "call ref") => `(tactic| ((with_reducible show wpAny _ _ (call (Value.ref 38) _) _ _ _); k_dflt (refine fr_int2ap (by assumption) (by assumption) (by assumption) (by assumption) (by show callerA.depth + 1 < 500; decide) rfl (by first | with_reducible exact Int.natAbs_natCast _ | with_reducible exact natAbs_na _ | assumption) (by assumption) ?_); intro _ _ _ _ _))
local macro_rules | `(tactic| walk_at "call ref") => `(tactic| ((with_reducible show wpAny _ _ (call (Value.ref 79) _) _ _ _); k_dflt (refine fr_rows (by assumption) (by assumption) (by assumption) (by assumption) (by show callerA.depth + 1 < 500; decide) rfl (by assumption) (by assumption) ?_); intro _ _ _ _ _ _ _ _))
local macro_rules | `(tactic| walk_at "call ref") => `(tactic| ((with_reducible show wpAny _ _ (call (Value.ref 103) _) _ _ _); k_dflt (refine fr_run (by assumption) (by assumption) (by assumption) (by assumption) (by show callerA.depth + 1 < 450; decide) rfl (by show 4 + 3 < 900; decide) (by is_list) (by assumption) (by assumption) (by assumption) (by assumption) (by assumption) (by assumption) (by assumption) ?_); intro _ _ _ _ _ _ _ _ _ _ _ _ _ _ _ _ _ _ _ _))
local macro_rules | `(tactic| walk_at "call ref") => `(tactic| ((with_reducible show wpAny _ _ (call (Value.ref 110) _) _ _ _); k_dflt (refine fr_due (by assumption) (by assumption) (by assumption) (by assumption) (by show callerA.depth + 1 < 500; decide) rfl (by assumption) (by assumption) (by assumption) ?_); intro _ _ _ _ _ _ _ _ _ _ _ _ _ _ _ _))
local macro_rules | `(tactic| walk_at "call type:bytes") => `(tactic| (k_dflt (refine bytes_S (by assumption) (by assumption) (by is_list) (by assumption) (by assumption) (by assumption) rfl ?_); intro _ _ _ _ _))
local macro_rules | `(tactic| walk_at "getMethod bytes") => `(tactic| (refine ls_method ?_))
local macro_rules | `(tactic| walk_at "call builtin:bytes.lstrip") => `(tactic| (k_dflt (refine lstrip_S (by first | assumption | exact strip_more _ 30) (by first | assumption | (simp only [List.length_append, List.length_replicate, List.length_map]; omega)) ?_); intro _ _))
local macro_rules | `(tactic| walk_at "compareOp NotEq ref ref") => `(tactic| (k_dflt (refine ne_sameI (by is_list) (by is_list) (by assumption) (by assumption) (by show 4 + 3 + 64 < 9900; decide) ?_)))
local macro_rules | `(tactic| walk_at "compareOp Eq bytes bytes") => `(tactic| (k_dflt (refine eq_sameB ?_)))
local macro_rules | `(tactic| walk_at "binaryOp Mult int int") => `(tactic| (k_dflt (refine big_mul30 (by decide +kernel) (by assumption) ?_); intro _ _))
local macro_rules | `(tactic| walk_at "binaryOp Mult bytes int") => `(tactic| (k_dflt (refine mulA (by decide) (by decide) ?_); intro _ _))
local macro_rules | `(tactic| walk_at "binaryOp Add bytes bytes") => `(tactic| (k_dflt (refine addB (by simp only [List.length_replicate]; omega) ?_); intro _ _))
set_option maxHeartbeats 4000000 in
theorem tt : PySem.Challenge.rw_pk0010_01.Holds := by
  refine hd ?_
  k_go0
  rename Heap.CodeRec _ _ _ => hcd
  rename Dflts _ _ _ _ _ _ => hD
  clear hD hcd
  rename ReadsAllW _ _ _ _ _ _ => hRW
  rename Fr _ _ _ _ => F
  rename News _ _ _ _ => N
  rename IntsAre _ _ => hI
  rename ¬ _ < _ => h63
  have hlen := hI.length
  have hvl : List.length _ ≤ 1000 := Nat.le_trans (Nat.le_of_eq hlen) (by omega)
  dsimp only [List.reverse, List.reverseAux, List.lookup] at F
  refine law_cut F N ?_ ?_
  rotate_left
  · intro h' tk' m' nw F' N'
    clear F N
    k_steps
  intro Q' hQ
  repeat' ((fail_if_success (with_reducible show wpAny _ _ (exec (Stmt.Assign [Expr.Tuple _ _ _] _ _) _) _ _ _)); (first | walk1 | (dsimp only; walk1)))
  rename _ < 1000000000000 => ht
  rename _ < 68719476736 => hb
  revert hb
  rename _ < 68719476736 => ha
  intro hb
  obtain ⟨f1, f2, f3, f4, f5, f6, f7, f8, f9, f10⟩ := law_facts ha hb ht
  rename Fr _ _ _ _ => F
  rename News _ _ _ _ => N
  try dsimp only at F N ⊢
  repeat' ((fail_if_success (with_reducible show wpAny _ _ (exec (Stmt.Assign [Expr.Name (Str.ofString "word") _] _ _) _) _ _ _)); (first | walk1 | (dsimp only; walk1)))
  rename Fr _ _ _ _ => F
  rename News _ _ _ _ => N
  try dsimp only at F N ⊢
  rename Run _ _ _ _ _ _ _ => hR
  rename IntsAre _ (0 :: _) => hdue
  rename _ ≤ 9 => hW9
  have hfin := final (hlow := by assumption) (ha := by assumption) (hb := by assumption) f10 hR (by assumption)
  obtain ⟨g1, g2, g3⟩ := hfin
  rw [g1] at hdue
  have g4 := val_small ha hb f10 hW9
  have g5 := strip_lett _ (fun d hd => by obtain ⟨x, hx, rfl⟩ := List.mem_map.mp hd; exact g2 x hx)
  rw [g3] at g5
  have g6 := small_fit g4
  have g7 := big_fit g4
  have g8 := hR.len
  have g9 : List.length _ ≤ 1000 := Nat.le_trans (Nat.le_of_eq g8) (Nat.le_trans f4 (by decide))
  have g10 := rows_short g2
  have g11 := apL_len 100 _ (Nat.lt_of_lt_of_eq g6 (by decide +kernel))
  repeat' ((fail_if_success (with_reducible show wpAny _ _ (eval (Expr.ListComp _ _ _ _) _) _ _ _)); (first | walk1 | (dsimp only; walk1)))
  refine LCg.ListComp_U (F₀ := by assumption) (by with_unfolding_all rfl) (by decide) (by rfl) (by decide) (by rfl) ?_
  repeat' ((fail_if_success (with_reducible show LCg.CompSrc _ _ _ _ _ _ _ _ _ _ _ _ _ _)); (first | walk1 | (dsimp only; walk1)))
  try dsimp only
  rename StrsAre _ (List.map S _) => hws
  refine src_lens rfl (by assumption) (by assumption) (by k_mem) hws g9 g10 ?_ ?_
  · intro l t I oI C oC D m₂ ys nw h tk E' Q' hz' hC hx' F3 N3 hq
    exact turn_len (by assumption) (by assumption) hC hx' hz' F3 N3 hq
  intro _ _ _ _ _ _ _
  try dsimp only
  repeat' ((fail_if_success (with_reducible show wpAny _ _ (exec (Stmt.If _ _ _ _) _) _ _ _)); (first | walk1 | (dsimp only; walk1)))
  k_steps
  exact hQ _ _ _ _ (by assumption) (by assumption)
end Mine
end

set_option maxRecDepth 100000 in
set_option maxHeartbeats 4000000 in
theorem PySem.Challenge.cw_pk0010_01_holds : PySem.Challenge.rw_pk0010_01.Holds := by
  exact Mine.tt
