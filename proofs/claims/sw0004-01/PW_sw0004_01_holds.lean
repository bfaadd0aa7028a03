import PyProof.Rows.All
import Wide.All
import OpenK.AllK
import Wide.FinOn
import PySem.Challenge.RW_sw0004_01
open PySem PySem.W PyProof.Rows
set_option Elab.async false
set_option compiler.extract_closed false
namespace SW
open PySem PySem.W PyProof.Rows
set_option maxRecDepth 100000 in
set_option maxHeartbeats 8000000 in
open_top hd for PySem.Challenge.rw_sw0004_01
end SW
namespace SW
theorem top_off : True := by
  w_top off
  trivial
end SW
namespace SW
open PySem PySem.W PyProof.Rows PySem.Calls PySem.Spec
set_option maxRecDepth 100000
/-- h' has all that h has outside T -/
def Keep (T : List Addr) (h h' : Heap) : Prop := ∀ b o, b ∉ T → h.get? b = some o → h'.get? b = some o
theorem Keep.refl {T h} : Keep T h h := fun _ _ _ e => e
theorem Keep.then {T h h' h''} (a : Keep T h h') (k : ∀ b o, h'.get? b = some o → h''.get? b = some o) : Keep T h h'' := fun b o n e => k b o (a b o n e)
theorem Keep.trans {T h h' h''} (a : Keep T h h') (k : Keep T h' h'') : Keep T h h'' := fun b o n e => k b o n (a b o n e)
theorem Keep.mono {T T' h h'} (a : Keep T h h') (k : ∀ b ∈ T, b ∈ T') : Keep T' h h' := fun b o n e => a b o (fun q => n (k b q)) e

section
variable {prog : Program} {w : World} {A A₀ : Around} {E : Value → Shared → Prop} {s : Shared} {K : Frag} {C L : Addr} {h₀ base : Heap} {m mg mb : Str → Option Value} {news : List (Addr × Obj)} {p : Program} {loose : List Str} {mean : ExcName → Option Value} {Q : Value → Shared → Prop}
theorem code_defK {env : Env} {outer : List Env} {R : Result → Shared → Prop} {name qual : Str} {params : Arguments} {body : List Stmt} {scope : Scope} {dV kV doc pm cdv ct oc : Value} {an od : Option Addr} {osl : Array (Option Value)} {f : Addr} {args : Args} {binds : List (Str × Value)}
    (B : Below A₀ base outer h₀) (F : Fr h₀ L s.heap m) (X₀ : K.In h₀) (N : News h₀ L s.heap news) (T : Top p loose mean mg mb h₀) (hA : A.frames = some (env :: outer)) (hf : env.frame = some L) (hke : env.scope.kind = .function)
    (ho : K.lookup f = some ⟨oc, od, .func (fnOf name qual params body scope dV kV doc pm an cdv ct), osl⟩) (hcd : codeIn K cdv qual = true) (hroom : A.depth < recursionLimit)
    (hbind : BindsTo s (fnOf name qual params body scope dV kV doc pm an cdv ct) args binds) (hloc : ∀ y ∈ binds, scope.names.lookup y.1 = some .local)
    (h : ∀ g L' h₁, Fr h₀ L g m → Fr g L' h₁ (fun y => binds.reverse.lookup y) → News g L' h₁ news → Below A base (env :: outer) g → K.In g → Top p loose mean mg mb g → Keep (news.map (·.1)) s.heap g →
      wpAny (model prog w) (A.deeper (envOf qual scope L' f cdv)) (execs body (envOf qual scope L' f cdv))
        (fun fl s' => LeaveK h₀ L m g R (match fl with | .ret v => v | _ => .none) s')
        (fun e s' => wpAny (model prog w) (A.deeper (envOf qual scope L' f cdv)) (leaving (envOf qual scope L' f cdv) e) (fun _ s'' => R (.error e) s'') (fun e' s'' => R (.error e') s'') s')
        { s with heap := h₁, toks := s.toks + binds.length })
    (hco : scope.isCoroutine = false) (hgen : scope.isGenerator = false) (hk : scope.kind = .function)
    (hcell : ∀ x ∈ scope.names, x.2 ≠ .cell) : codeAny (model prog w) A (.call (.ref f) args) R s := by
  obtain ⟨FG, BG, st, lv⟩ := groundX (R := R) B F N hA hf hke
  refine codeAny_call_def (fd := fnOf name qual params body scope dV kV doc pm an cdv ct) (body := body) (binds := binds) hroom ((X₀.keeps F.keep) _ _ ho) rfl (T.nolimit.keeps F.keep) (codeRec_of (X₀.keeps F.keep) hcd) rfl hbind hcell hloc (fun h₁ hns hk₁ => ?_) hco hgen hk
  exact wpAny_mono (h _ s.heap.objs.size h₁ FG ⟨hns, fun b o e => hk₁ b o (of_hideAll _ e), Nat.le_of_eq (hideAll_size _ _)⟩
    (fun p hp => ⟨hk₁ _ _ (N p hp).1, Nat.ne_of_lt (Heap.lt_size (N p hp).1), hideAll_none _ (List.mem_map_of_mem hp)⟩) BG (X₀.keeps st) (T.keeps st) (fun b o hn e => hideAll_get _ e hn)) (fun fl s' hl => lv _ _ hl) fun _ _ y => y

theorem code_defKC {env : Env} {outer : List Env} {R : Result → Shared → Prop} {name qual : Str} {params : Arguments} {body : List Stmt} {scope : Scope} {dV kV doc pm cdv ct oc : Value} {an od : Option Addr} {osl : Array (Option Value)} {f : Addr} {args : Args} {binds : List (Str × Value)}
    (B : Below A₀ base outer h₀) (F : Fr h₀ L s.heap m) (X₀ : K.In h₀) (N : News h₀ L s.heap news) (T : Top p loose mean mg mb h₀) (hA : A.frames = some (env :: outer)) (hf : env.frame = some L) (hke : env.scope.kind = .function)
    (ho : K.lookup f = some ⟨oc, od, .func (fnOf name qual params body scope dV kV doc pm an cdv ct), osl⟩) (hcd : codeIn K cdv qual = true) (hroom : A.depth < recursionLimit)
    (hbind : BindsTo s (fnOf name qual params body scope dV kV doc pm an cdv ct) args binds) (hkind : (binds.all fun y => scope.names.lookup y.1 == some .local || scope.names.lookup y.1 == some .cell) = true)
    (hnd : ((cellsFrom 0 scope.names []).map (·.1)).Nodup)
    (h : ∀ g L' h₁ tk cells, Fr h₀ L g m → Fr g L' h₁ (bindL (envOfC qual scope L' f cdv).kindOf binds fun _ => none) → News g L' h₁ (cells ++ news) →
      CellsAre (bindC (envOfC qual scope L' f cdv).kindOf binds fun _ => none) (cellsFrom (L' + 1) scope.names []) cells → Below A base (env :: outer) g → K.In g → Top p loose mean mg mb g → (∀ p ∈ news, p.1 < L') → Keep (news.map (·.1)) s.heap g →
      wpAny (model prog w) (A.deeper (envOfC qual scope L' f cdv)) (execs body (envOfC qual scope L' f cdv))
        (fun fl s' => LeaveK h₀ L m g R (match fl with | .ret v => v | _ => .none) s')
        (fun e s' => wpAny (model prog w) (A.deeper (envOfC qual scope L' f cdv)) (leaving (envOfC qual scope L' f cdv) e) (fun _ s'' => R (.error e) s'') (fun e' s'' => R (.error e') s'') s')
        { s with heap := h₁, toks := tk })
    (hco : scope.isCoroutine = false) (hgen : scope.isGenerator = false) (hk : scope.kind = .function) : codeAny (model prog w) A (.call (.ref f) args) R s := by
  obtain ⟨FG, BG, st, lv⟩ := groundX (R := R) B F N hA hf hke
  refine codeAny_call_function hroom ((X₀.keeps F.keep) _ _ ho) rfl hco hgen rfl (codeRec_of (X₀.keeps F.keep) hcd) (hbind _ _ _ _ ?_)
  refine wpAny_newFunctionEnv_cells hk (kindsX hkind _) fun env' he s' x => ?_
  subst he
  refine ⟨(T.nolimit.keeps F.keep).keeps x.toInCall.keep, codeAny_func ?_⟩
  obtain ⟨h₁, tk, rfl, _⟩ := x.done
  have hk₁ := x.toInCall.keep
  obtain ⟨cells, NC, Y⟩ := Cl.news (h₀ := s.heap) (Nat.le_refl _) fun n c hm => ⟨x.cell n c (lookup_of_mem_nodup (cellsFrom_names scope.names 0 (s.heap.objs.size + 1) [] [] rfl ▸ hnd) hm), x.above n c hm⟩
  refine wpAny_mono (h _ s.heap.objs.size h₁ tk cells FG ⟨x.toInCall.ns, fun b o e => hk₁ b o (of_hideAll _ e), Nat.le_of_eq (hideAll_size _ _)⟩ (fun p hp => ?_) Y BG (X₀.keeps st) (T.keeps st) (fun p hp => Heap.lt_size (N p hp).1) (fun b o hn e => hideAll_get _ e hn)) (fun fl s' hl => lv _ _ hl) fun _ _ y => y
  rcases List.mem_append.mp hp with hp | hp
  · refine ⟨(NC p hp).1, (NC p hp).2.1, ?_⟩
    cases q : (hideAll s.heap (news.map (·.1))).get? p.1 with
    | none => rfl
    | some o => have := of_hideAll _ q; rw [(NC p hp).2.2] at this; cases this
  · exact ⟨hk₁ _ _ (N p hp).1, Nat.ne_of_lt (Heap.lt_size (N p hp).1), hideAll_none _ (List.mem_map_of_mem hp)⟩
end
end SW
namespace SW
open PySem PySem.W PyProof.Rows PySem.Calls PySem.Spec
set_option maxRecDepth 100000
open PySem.Sre

theorem runFor_done {m : M} (h : m.outcome.isSome = true) : ∀ n, M.runFor n m = m
  | 0 => rfl
  | n + 1 => by show (if m.outcome.isSome then m else _) = m; rw [if_pos h]
theorem runFor_add (b : Nat) : ∀ (a : Nat) (m : M), M.runFor (a + b) m = M.runFor b (M.runFor a m)
  | 0, m => by rw [Nat.zero_add]; rfl
  | a + 1, m => by
    rw [Nat.succ_add]
    show (if m.outcome.isSome then m else M.runFor (a + b) m.step) = M.runFor b (if m.outcome.isSome then m else M.runFor a m.step)
    by_cases h : m.outcome.isSome = true
    · rw [if_pos h, if_pos h, runFor_done h]
    · rw [if_neg h, if_neg h, runFor_add b a]

def Ends (n : Nat) (m f : M) : Prop := M.runFor n m = f ∧ f.outcome.isSome = true
theorem Ends.step {n : Nat} {m f : M} (e : Ends n m.step f) : Ends (n + 1) m f ∨ m.outcome.isSome = true := by
  by_cases h : m.outcome.isSome = true
  · exact .inr h
  · exact .inl ⟨by show (if m.outcome.isSome then m else M.runFor n m.step) = f; rw [if_neg h]; exact e.1, e.2⟩
theorem Ends.next {n : Nat} {m m' f : M} (e : Ends n m' f) (hs : m.step = m') (h : m.outcome.isSome = false) : Ends (n + 1) m f :=
  ⟨by show (if m.outcome.isSome then m else M.runFor n m.step) = f; rw [h, hs]; exact e.1, e.2⟩
theorem Ends.more {n k : Nat} {m f : M} (e : Ends n m f) (h : n ≤ k) : Ends k m f := by
  obtain ⟨d, rfl⟩ := Nat.exists_eq_add_of_le h
  exact ⟨by rw [runFor_add, e.1, runFor_done e.2], e.2⟩

theorem reDrive_ok {Mo : Model} {A : Around} {Q : M → Shared → Prop} {E : Value → Shared → Prop} {s : Shared} : ∀ (turns n : Nat) (m f : M), Ends n m f → n < 4 * turns → Q f s → wpAny Mo A (Builtin.Re.reDrive turns m) Q E s
  | 0, _, _, _, _, h, _ => absurd h (Nat.not_lt_zero _)
  | turns + 1, n, m, f, e, h, q => by
    show wpAny Mo A (if (M.runFor 4 m).outcome.isSome then pure (M.runFor 4 m) else do rule "sre.turn"; Builtin.Re.reDrive turns (M.runFor 4 m)) Q E s
    by_cases hd : (M.runFor 4 m).outcome.isSome = true
    · rw [if_pos hd]
      have : M.runFor 4 m = f := by
        have e' := e.more (Nat.le_add_right n 4)
        have a := e'.1
        rw [Nat.add_comm, runFor_add, runFor_done hd] at a
        exact a
      rw [this]; exact wpAny_pure q
    · rw [if_neg hd]
      have h4 : 4 < n := by
        apply Nat.lt_of_not_le
        intro h'
        have a := (e.more h')
        exact hd (by rw [a.1]; exact a.2)
      refine wpAny_bind (wpAny_rule ?_)
      refine reDrive_ok turns (n - 4) _ f ⟨?_, e.2⟩ (by first | with_reducible assumption | decide | omega) q
      rw [← runFor_add, Nat.add_sub_cancel' (Nat.le_of_lt h4)]
      exact e.1

def saySeen (p : Nat → Bool) (t : Nat → String) (l : List Nat) : Sem PUnit :=
  forIn l PUnit.unit fun i _ => if p i = true then do rule (t i); pure (ForInStep.yield PUnit.unit) else pure (ForInStep.yield PUnit.unit)
theorem rules_ok {Mo : Model} {A : Around} {E : Value → Shared → Prop} {s : Shared} (p : Nat → Bool) (t : Nat → String) {Q : PUnit → Shared → Prop} (h : Q ⟨⟩ s) : ∀ l : List Nat,
    wpAny Mo A (saySeen p t l) Q E s := by
  intro l
  unfold saySeen
  induction l with
  | nil => exact wpAny_pure h
  | cons i r ih =>
    rw [List.forIn_cons]
    refine wpAny_bind ?_
    by_cases hp : p i = true
    · rw [if_pos hp]
      exact wpAny_bind (wpAny_rule (wpAny_pure ih))
    · rw [if_neg hp]
      exact wpAny_pure ih

theorem runToEnd_ok {Mo : Model} {A : Around} {E : Value → Shared → Prop} {s : Shared} {n : Nat} {m f : M} {Q : Option M → Shared → Prop} (e : Ends n m f) (hn : n < 2 ^ 64)
    (h : (f.outcome = some .matched ∧ Q (some f) s) ∨ (f.outcome = some .failed ∧ Q none s)) : wpAny Mo A (Builtin.Re.reRunToEnd m) Q E s := by
  unfold Builtin.Re.reRunToEnd
  refine wpAny_bind (reDrive_ok _ n m f e (by first | with_reducible assumption | decide | omega) ?_)
  refine wpAny_bind (rules_ok (fun i => f.seen.has i) (fun i => Sre.names.getD i "") ?_ (List.range Sre.names.size))
  rcases h with ⟨h1, h2⟩ | ⟨h1, h2⟩ <;> rw [h1]
  · exact wpAny_pure h2
  · exact wpAny_pure h2
end SW
namespace SW
open PySem PySem.W PyProof.Rows PySem.Calls PySem.Spec
set_option maxRecDepth 100000
open PySem.Sre
def rc1 : Array Nat := #[14, 4, 0, 1, 1, 6, 1, 16, 46, 1]
def m1 (x : Array Nat) (s : Nat) (first : Bool) (seen : Sre.Seen) : M :=
  { code := rc1, text := x, lim := x.size, start := s, lastStart := x.size, pc := 5, pos := s, handed := s, outermost := first, marks := #[], frames := [{ wait := .nextStart, pc := 5, pos := s, outermost := first }], weight := 1, seen }
def atLine (x : Array Nat) (s : Nat) : Bool := s == 0 || x.getD (s - 1) 0 == 10
def ifM (b : Bool) (x y : M) : M := match b with | true => x | false => y
theorem m1_step1 (x : Array Nat) (s : Nat) (first : Bool) (seen : Sre.Seen) :
    (m1 x s first seen).step = if atLine x s = true then { m1 x s first ((seen.add 6).add 44) with pc := 7 } else { m1 x s first ((seen.add 6).add 44) with answer := some false } := rfl
def litM (m : M) (r : Except String (Bool × Sre.Seen)) : M := match r with
  | .error why => m.stick why
  | .ok (false, seen) => { m with seen }.say false
  | .ok (true, seen) => { m with seen, pc := m.pc + itemWidth m.code m.pc, pos := m.pos + 1 }
theorem m1_step2' (x : Array Nat) (s : Nat) (first : Bool) (seen : Sre.Seen) :
    ({ m1 x s first seen with pc := 7 } : M).step = if s ≥ x.size then { m1 x s first (seen.add 16) with pc := 7, answer := some false } else
      litM { m1 x s first (seen.add 16) with pc := 7 } (.ok (x.getD s 0 == 46, seen.add 16)) := rfl
theorem m1_step2 (x : Array Nat) (s : Nat) (first : Bool) (seen : Sre.Seen) :
    ({ m1 x s first seen with pc := 7 } : M).step = if s ≥ x.size then { m1 x s first (seen.add 16) with pc := 7, answer := some false } else
      ifM (x.getD s 0 == 46) { m1 x s first (seen.add 16) with pc := 9, pos := s + 1 } { m1 x s first (seen.add 16) with pc := 7, answer := some false } := by
  rw [m1_step2']
  cases (x.getD s 0 == 46) <;> rfl
theorem m1_step3 (x : Array Nat) (s : Nat) (first : Bool) (seen : Sre.Seen) :
    ({ m1 x s first seen with pc := 9, pos := s + 1 } : M).step = { m1 x s first (seen.add 1) with pc := 9, pos := s + 1, handed := s + 1, answer := some true } := by
  cases first <;> rfl
theorem m1_step4 (x : Array Nat) (s : Nat) (first : Bool) (seen : Sre.Seen) :
    ({ m1 x s first seen with pc := 9, pos := s + 1, handed := s + 1, answer := some true } : M).step = { m1 x s first seen with pc := 5, pos := s, handed := s + 1, answer := some true, frames := [], weight := 0 } := rfl
theorem m1_step5 (x : Array Nat) (s : Nat) (first : Bool) (seen : Sre.Seen) :
    ({ m1 x s first seen with pc := 5, pos := s, handed := s + 1, answer := some true, frames := [], weight := 0 } : M).step = { m1 x s first seen with pc := 5, pos := s, handed := s + 1, answer := some true, frames := [], weight := 0, outcome := some .matched } := rfl
theorem m1_no (x : Array Nat) (s q : Nat) (first : Bool) (seen : Sre.Seen) :
    ({ m1 x s first seen with pc := q, answer := some false } : M).step = if s < x.size then m1 x (s + 1) false seen else { m1 x s first seen with pc := 5, pos := s, handed := s, answer := some false, frames := [], weight := 0 } := rfl

def hit1 (x : Array Nat) (s : Nat) : Bool := atLine x s && (Nat.blt s x.size && x.getD s 0 == 46)
/-- from the attempt at s: found at the first hit, none where there is none -/
theorem m1_hit (x : Array Nat) (s : Nat) (first : Bool) (seen : Sre.Seen) (h : hit1 x s = true) :
    ∃ f, Ends 5 (m1 x s first seen) f ∧ f.outcome = some .matched ∧ f.start = s ∧ f.handed = s + 1 := by
  obtain ⟨h1, h2⟩ := Bool.and_eq_true_iff.mp h
  obtain ⟨h2, h3⟩ := Bool.and_eq_true_iff.mp h2
  have h2 : s < x.size := Nat.le_of_ble_eq_true h2
  refine ⟨{ m1 x s first ((((seen.add 6).add 44).add 16).add 1) with pc := 5, pos := s, handed := s + 1, answer := some true, frames := [], weight := 0, outcome := some .matched }, ?_, rfl, rfl, rfl⟩
  have e : Ends 0 { m1 x s first ((((seen.add 6).add 44).add 16).add 1) with pc := 5, pos := s, handed := s + 1, answer := some true, frames := [], weight := 0, outcome := some .matched } { m1 x s first ((((seen.add 6).add 44).add 16).add 1) with pc := 5, pos := s, handed := s + 1, answer := some true, frames := [], weight := 0, outcome := some .matched } := ⟨rfl, rfl⟩
  refine ((((e.next (m1_step5 _ _ _ _) rfl).next (m1_step4 _ _ _ _) rfl).next (m1_step3 _ _ _ _) rfl).next (m := { m1 x s first ((seen.add 6).add 44) with pc := 7 }) ?_ rfl).next ?_ rfl
  · rw [m1_step2, if_neg (Nat.not_le_of_lt h2), h3]; rfl
  · rw [m1_step1, if_pos h1]
theorem m1_miss (x : Array Nat) (s : Nat) (first : Bool) (seen : Sre.Seen) (h : hit1 x s = false) :
    ∃ q seen', q ≤ 2 ∧ ∀ n f, Ends n (if s < x.size then m1 x (s + 1) false seen' else { m1 x s first seen' with pc := 5, pos := s, handed := s, answer := some false, frames := [], weight := 0 }) f → Ends (n + 1 + q) (m1 x s first seen) f := by
  cases h1 : atLine x s with
  | false =>
    refine ⟨1, (seen.add 6).add 44, by (first | lia | omega), fun n f e => ?_⟩
    refine (e.next (m1_no x s 5 first _) rfl).next ?_ rfl
    rw [m1_step1, h1]; rfl
  | true =>
    refine ⟨2, ((seen.add 6).add 44).add 16, by (first | lia | omega), fun n f e => ?_⟩
    refine ((e.next (m1_no x s 7 first _) rfl).next (m := { m1 x s first ((seen.add 6).add 44) with pc := 7 }) ?_ rfl).next ?_ rfl
    · rw [m1_step2]
      by_cases h2 : s ≥ x.size
      · rw [if_pos h2]
      · rw [if_neg h2]
        have h3 : (x.getD s 0 == 46) = false := by
          cases q : (x.getD s 0 == 46) with
          | false => rfl
          | true =>
            have : hit1 x s = true := by
              unfold hit1
              rw [h1, q, show Nat.blt s x.size = true from Nat.ble_eq_true_of_le (Nat.lt_of_not_le h2)]; rfl
            rw [this] at h; cases h
        rw [h3]; rfl
    · rw [m1_step1, if_pos h1]
theorem m1_end (x : Array Nat) (s : Nat) (first : Bool) (seen : Sre.Seen) :
    ∃ f, Ends 1 ({ m1 x s first seen with pc := 5, pos := s, handed := s, answer := some false, frames := [], weight := 0 } : M) f ∧ f.outcome = some .failed :=
  ⟨_, ⟨rfl, rfl⟩, rfl⟩
/-- the first place at or behind s that is hit -/
def next1 (x : Array Nat) : Nat → Nat → Option Nat
  | 0, _ => none
  | n + 1, s => if hit1 x s = true then some s else next1 x n (s + 1)
theorem m1_run (x : Array Nat) : ∀ (n s : Nat) (first : Bool) (seen : Sre.Seen), s + n = x.size + 1 →
    ∃ f, Ends (4 * n + 8) (m1 x s first seen) f ∧ match next1 x n s with
      | some p => f.outcome = some .matched ∧ f.start = p ∧ f.handed = p + 1
      | none => f.outcome = some .failed
  | 0, s, first, seen, h => by
    have hm : hit1 x s = false := by
      unfold hit1
      have : Nat.blt s x.size = false := by
        cases q : Nat.blt s x.size with
        | false => rfl
        | true => exact absurd (Nat.le_of_ble_eq_true q) (by first | with_reducible assumption | decide | (first | lia | omega))
      rw [this]; simp
    obtain ⟨q, seen', hq, k⟩ := m1_miss x s first seen hm
    obtain ⟨f, e, hf⟩ := m1_end x s first seen'
    refine ⟨f, (k 1 f ?_).more (by first | with_reducible assumption | decide | (first | lia | omega)), hf⟩
    rw [if_neg (by first | with_reducible assumption | decide | (first | lia | omega))]; exact e
  | n + 1, s, first, seen, h => by
    rw [show next1 x (n + 1) s = (if hit1 x s = true then some s else next1 x n (s + 1)) from rfl]
    by_cases hh : hit1 x s = true
    · rw [if_pos hh]
      obtain ⟨f, e, h1, h2, h3⟩ := m1_hit x s first seen hh
      exact ⟨f, e.more (by first | with_reducible assumption | decide | (first | lia | omega)), h1, h2, h3⟩
    · rw [if_neg hh]
      obtain ⟨q, seen', hq, k⟩ := m1_miss x s first seen (by simpa using hh)
      by_cases hs : s < x.size
      · obtain ⟨f, e, hf⟩ := m1_run x n (s + 1) false seen' (by first | with_reducible assumption | decide | (first | lia | omega))
        refine ⟨f, (k (4 * n + 8) f ?_).more (by first | with_reducible assumption | decide | (first | lia | omega)), hf⟩
        rw [if_pos hs]; exact e
      · obtain ⟨f, e, hf⟩ := m1_end x s first seen'
        obtain rfl : n = 0 := by (first | lia | omega)
        refine ⟨f, (k 1 f ?_).more (by first | with_reducible assumption | decide | (first | lia | omega)), hf⟩
        rw [if_neg hs]; exact e
theorem search1_eq (x : Array Nat) (s : Nat) : forSearch rc1 x 0 s x.size false = if (decide (s > x.size) || decide (x.size - s < 1)) = true then
    ({ m1 x s true (({} : Sre.Seen).add 14) with outermost := true, lastStart := 0, frames := [], weight := 0, answer := some false } : M) else m1 x s true (({} : Sre.Seen).add 14) := rfl
theorem search1 (x : Array Nat) (s : Nat) (hs : s ≤ x.size) :
    ∃ f, Ends (4 * (x.size + 1 - s) + 8) (forSearch rc1 x 0 s x.size false) f ∧ match next1 x (x.size + 1 - s) s with
      | some p => f.outcome = some .matched ∧ f.start = p ∧ f.handed = p + 1
      | none => f.outcome = some .failed := by
  rw [search1_eq]
  by_cases h : x.size - s < 1
  · rw [if_pos (by simp [h])]
    have e : x.size + 1 - s = 0 + 1 := by (first | lia | omega)
    have hh : hit1 x s = false := by
      unfold hit1
      have : Nat.blt s x.size = false := by
        cases q : Nat.blt s x.size with
        | false => rfl
        | true => exact absurd (Nat.le_of_ble_eq_true q) (by first | with_reducible assumption | decide | (first | lia | omega))
      rw [this]; simp
    rw [e]
    rw [show next1 x (0 + 1) s = (if hit1 x s = true then some s else none) from rfl]
    rw [if_neg (c := hit1 x s = true) (by rw [hh]; exact Bool.false_ne_true)]
    refine ⟨_, Ends.more (n := 1) ⟨rfl, rfl⟩ (by first | with_reducible assumption | decide | (first | lia | omega)), rfl⟩
  · rw [if_neg (by simp only [Bool.or_eq_true, decide_eq_true_eq]; (first | lia | omega))]
    exact m1_run x _ s true _ (by first | with_reducible assumption | decide | (first | lia | omega))
end SW
namespace SW
open PySem PySem.W PyProof.Rows PySem.Calls PySem.Spec
set_option maxRecDepth 100000
open PySem.Sre
def rc2 : Array Nat := #[14, 9, 4, 1, 2, 16, 10, 16, 13, 0, 7, 7, 16, 13, 16, 10, 15, 18, 5, 16, 10, 15, 13, 11, 16, 13, 5, 5, 0, 16, 10, 1, 15, 2, 0, 1]
def b2 (x : Array Nat) (s : Nat) (pc pos handed : Nat) (out : Bool) (frames : List Sre.Frame) (weight : Nat) (ans : Option Bool) (seen : Sre.Seen) : M :=
  { code := rc2, text := x, lim := x.size, start := s, lastStart := x.size, pc, pos, handed, outermost := out, marks := #[], frames, weight, answer := ans, seen }
def f0 (s : Nat) (first : Bool) : Sre.Frame := { wait := .nextStart, pc := 10, pos := s, outermost := first }
def fb (k s : Nat) (first : Bool) : Sre.Frame := { wait := .nextBranch, pc := k, pos := s, outermost := first }
def fn (s : Nat) (first : Bool) : Sre.Frame := { wait := .lookNot, pc := 26, pos := s + 1, outermost := first }
section
variable (x : Array Nat) (s pos hd : Nat) (first out : Bool) (fs : List Sre.Frame) (w : Nat) (seen : Sre.Seen)
theorem s2_branch : (b2 x s 10 s hd first [f0 s first] 1 none seen).step = b2 x s 12 s s first [fb 11 s first, f0 s first] 2 none (seen.add 7) := rfl
theorem s2_lit12 : (b2 x s 12 pos hd out fs w none seen).step = if pos ≥ x.size then b2 x s 12 pos hd out fs w (some false) (seen.add 16) else
    ifM (x.getD pos 0 == 13) (b2 x s 14 (pos + 1) hd out fs w none (seen.add 16)) (b2 x s 12 pos hd out fs w (some false) (seen.add 16)) := by
  rw [show (b2 x s 12 pos hd out fs w none seen).step = if pos ≥ x.size then b2 x s 12 pos hd out fs w (some false) (seen.add 16) else
    litM (b2 x s 12 pos hd out fs w none (seen.add 16)) (.ok (x.getD pos 0 == 13, seen.add 16)) from rfl]
  cases (x.getD pos 0 == 13) <;> rfl
theorem s2_lit14 : (b2 x s 14 pos hd out fs w none seen).step = if pos ≥ x.size then b2 x s 14 pos hd out fs w (some false) (seen.add 16) else
    ifM (x.getD pos 0 == 10) (b2 x s 16 (pos + 1) hd out fs w none (seen.add 16)) (b2 x s 14 pos hd out fs w (some false) (seen.add 16)) := by
  rw [show (b2 x s 14 pos hd out fs w none seen).step = if pos ≥ x.size then b2 x s 14 pos hd out fs w (some false) (seen.add 16) else
    litM (b2 x s 14 pos hd out fs w none (seen.add 16)) (.ok (x.getD pos 0 == 10, seen.add 16)) from rfl]
  cases (x.getD pos 0 == 10) <;> rfl
theorem s2_lit19 : (b2 x s 19 pos hd out fs w none seen).step = if pos ≥ x.size then b2 x s 19 pos hd out fs w (some false) (seen.add 16) else
    ifM (x.getD pos 0 == 10) (b2 x s 21 (pos + 1) hd out fs w none (seen.add 16)) (b2 x s 19 pos hd out fs w (some false) (seen.add 16)) := by
  rw [show (b2 x s 19 pos hd out fs w none seen).step = if pos ≥ x.size then b2 x s 19 pos hd out fs w (some false) (seen.add 16) else
    litM (b2 x s 19 pos hd out fs w none (seen.add 16)) (.ok (x.getD pos 0 == 10, seen.add 16)) from rfl]
  cases (x.getD pos 0 == 10) <;> rfl
theorem s2_lit24 : (b2 x s 24 pos hd out fs w none seen).step = if pos ≥ x.size then b2 x s 24 pos hd out fs w (some false) (seen.add 16) else
    ifM (x.getD pos 0 == 13) (b2 x s 26 (pos + 1) hd out fs w none (seen.add 16)) (b2 x s 24 pos hd out fs w (some false) (seen.add 16)) := by
  rw [show (b2 x s 24 pos hd out fs w none seen).step = if pos ≥ x.size then b2 x s 24 pos hd out fs w (some false) (seen.add 16) else
    litM (b2 x s 24 pos hd out fs w none (seen.add 16)) (.ok (x.getD pos 0 == 13, seen.add 16)) from rfl]
  cases (x.getD pos 0 == 13) <;> rfl
theorem s2_lit29 : (b2 x s 29 pos hd out fs w none seen).step = if pos ≥ x.size then b2 x s 29 pos hd out fs w (some false) (seen.add 16) else
    ifM (x.getD pos 0 == 10) (b2 x s 31 (pos + 1) hd out fs w none (seen.add 16)) (b2 x s 29 pos hd out fs w (some false) (seen.add 16)) := by
  rw [show (b2 x s 29 pos hd out fs w none seen).step = if pos ≥ x.size then b2 x s 29 pos hd out fs w (some false) (seen.add 16) else
    litM (b2 x s 29 pos hd out fs w none (seen.add 16)) (.ok (x.getD pos 0 == 10, seen.add 16)) from rfl]
  cases (x.getD pos 0 == 10) <;> rfl
theorem s2_jump16 : (b2 x s 16 pos hd out fs w none seen).step = b2 x s 35 pos hd out fs w none (seen.add 15) := rfl
theorem s2_jump21 : (b2 x s 21 pos hd out fs w none seen).step = b2 x s 35 pos hd out fs w none (seen.add 15) := rfl
theorem s2_jump32 : (b2 x s 32 pos hd out fs w none seen).step = b2 x s 35 pos hd out fs w none (seen.add 15) := rfl
theorem s2_succ : (b2 x s 35 pos hd out fs w none seen).step = b2 x s 35 pos pos out fs w (some true) (seen.add 1) := by cases out <;> rfl
theorem s2_alt1 (q k : Nat) : (b2 x s q pos hd out [fb 11 s first, f0 s first] 2 (some false) seen).step = b2 x s 19 s s first [fb 18 s first, f0 s first] 2 none seen := rfl
theorem s2_alt2 (q : Nat) : (b2 x s q pos hd out [fb 18 s first, f0 s first] 2 (some false) seen).step = b2 x s 24 s s first [fb 23 s first, f0 s first] 2 none seen := rfl
theorem s2_yes1 (q k : Nat) : (b2 x s q pos hd out [fb k s first, f0 s first] 2 (some true) seen).step = b2 x s k s hd first [f0 s first] 1 (some true) seen := rfl
theorem s2_yes2 (q : Nat) : (b2 x s q pos hd out [f0 s first] 1 (some true) seen).step = b2 x s 10 s hd first [] 0 (some true) seen := rfl
theorem s2_fin : (b2 x s 10 pos hd out [] 0 (some true) seen).step = { b2 x s 10 pos hd out [] 0 (some true) seen with outcome := some .matched } := rfl
theorem s2_not : (b2 x s 26 (s + 1) hd first [fb 23 s first, f0 s first] 2 none seen).step = b2 x s 29 (s + 1) (s + 1) false [fn s first, fb 23 s first, f0 s first] 3 none (seen.add 5) := rfl
theorem s2_notno (q : Nat) : (b2 x s q pos hd out [fn s first, fb 23 s first, f0 s first] 3 (some false) seen).step = b2 x s 32 (s + 1) hd first [fb 23 s first, f0 s first] 2 none seen := rfl
end
theorem s2_tail (x : Array Nat) (s k pos hd : Nat) (first : Bool) (seen : Sre.Seen) :
    ∃ f, Ends 4 (b2 x s 35 pos hd first [fb k s first, f0 s first] 2 none seen) f ∧ f.outcome = some .matched ∧ f.start = s ∧ f.handed = pos := by
  refine ⟨{ b2 x s 10 s pos first [] 0 (some true) (seen.add 1) with outcome := some .matched }, ?_, rfl, rfl, rfl⟩
  have e : Ends 0 { b2 x s 10 s pos first [] 0 (some true) (seen.add 1) with outcome := some .matched } { b2 x s 10 s pos first [] 0 (some true) (seen.add 1) with outcome := some .matched } := ⟨rfl, rfl⟩
  exact (((e.next (s2_fin ..) rfl).next (s2_yes2 ..) rfl).next (s2_yes1 ..) rfl).next (s2_succ ..) rfl
/-- how many signs a line's end at s takes -/
def wide2 (x : Array Nat) (s : Nat) : Nat := if x.getD s 0 == 13 && (Nat.blt (s + 1) x.size && x.getD (s + 1) 0 == 10) then 2 else 1
theorem m2_hit (x : Array Nat) (s : Nat) (first : Bool) (seen : Sre.Seen) (hs : s < x.size) (h : (x.getD s 0 == 10 || x.getD s 0 == 13) = true) :
    ∃ f, Ends 20 (b2 x s 10 s s first [f0 s first] 1 none seen) f ∧ f.outcome = some .matched ∧ f.start = s ∧ f.handed = s + wide2 x s := by
  have hn : ¬ s ≥ x.size := Nat.not_le_of_lt hs
  cases h13 : (x.getD s 0 == 13) with
  | false =>
    have h10 : (x.getD s 0 == 10) = true := by rw [h13] at h; simpa using h
    obtain ⟨f, e, r⟩ := s2_tail x s 18 (s + 1) s first ((((seen.add 7).add 16).add 16).add 15)
    refine ⟨f, ?_, ?_⟩
    · refine Ends.more (n := 9) (((((e.next (s2_jump21 ..) rfl).next (m := b2 x s 19 s s first [fb 18 s first, f0 s first] 2 none ((seen.add 7).add 16)) ?_ rfl).next (s2_alt1 x s s s first first _ 12 0) rfl).next (m := b2 x s 12 s s first [fb 11 s first, f0 s first] 2 none (seen.add 7)) ?_ rfl).next (s2_branch ..) rfl) (by first | with_reducible assumption | decide | (first | lia | omega))
      · rw [s2_lit19, if_neg hn, h10]; rfl
      · rw [s2_lit12, if_neg hn, h13]; rfl
    · unfold wide2; rw [h13]; exact r
  | true =>
    cases h2 : (Nat.blt (s + 1) x.size && x.getD (s + 1) 0 == 10) with
    | true =>
      obtain ⟨h3, h4⟩ := Bool.and_eq_true_iff.mp h2
      have h3 : s + 1 < x.size := Nat.le_of_ble_eq_true h3
      obtain ⟨f, e, r⟩ := s2_tail x s 11 (s + 1 + 1) s first ((((seen.add 7).add 16).add 16).add 15)
      refine ⟨f, ?_, ?_⟩
      · refine Ends.more (n := 8) ((((e.next (s2_jump16 ..) rfl).next (m := b2 x s 14 (s + 1) s first [fb 11 s first, f0 s first] 2 none ((seen.add 7).add 16)) ?_ rfl).next (m := b2 x s 12 s s first [fb 11 s first, f0 s first] 2 none (seen.add 7)) ?_ rfl).next (s2_branch ..) rfl) (by first | with_reducible assumption | decide | (first | lia | omega))
        · rw [s2_lit14, if_neg (Nat.not_le_of_lt h3), h4]; rfl
        · rw [s2_lit12, if_neg hn, h13]; rfl
      · unfold wide2; rw [h13, h2]; exact r
    | false =>
      have hno : ∀ (q : Nat) (hd : Nat) (out : Bool) (fs : List Sre.Frame) (w : Nat) (sn : Sre.Seen), (q = 14 ∨ q = 29) → (b2 x s q (s + 1) hd out fs w none sn).step = b2 x s q (s + 1) hd out fs w (some false) (sn.add 16) := by
        intro q hd out fs w sn hq
        by_cases h3 : s + 1 ≥ x.size
        · rcases hq with rfl | rfl
          · rw [s2_lit14, if_pos h3]
          · rw [s2_lit29, if_pos h3]
        · have h4 : (x.getD (s + 1) 0 == 10) = false := by
            rw [show Nat.blt (s + 1) x.size = true from Nat.ble_eq_true_of_le (Nat.lt_of_not_le h3)] at h2; simpa using h2
          rcases hq with rfl | rfl
          · rw [s2_lit14, if_neg h3, h4]; rfl
          · rw [s2_lit29, if_neg h3, h4]; rfl
      have h10 : (x.getD s 0 == 10) = false := by
        have : x.getD s 0 = 13 := by simpa using h13
        rw [this]; rfl
      obtain ⟨f, e, r⟩ := s2_tail x s 23 (s + 1) (s + 1) first ((((((((seen.add 7).add 16).add 16).add 16).add 16).add 5).add 16).add 15)
      refine ⟨f, ?_, ?_⟩
      · refine Ends.more (n := 15) ((((((((((((e.next (s2_jump32 ..) rfl).next (s2_notno x s (s + 1) (s + 1) first false _ 29) rfl).next (hno 29 _ _ _ _ _ (.inr rfl)) rfl).next (s2_not x s s first _) rfl).next (m := b2 x s 24 s s first [fb 23 s first, f0 s first] 2 none ((((seen.add 7).add 16).add 16).add 16)) ?_ rfl).next (s2_alt2 x s s s first first _ 19) rfl).next (m := b2 x s 19 s s first [fb 18 s first, f0 s first] 2 none (((seen.add 7).add 16).add 16)) ?_ rfl).next (s2_alt1 x s (s + 1) s first first _ 14 0) rfl).next (hno 14 _ _ _ _ _ (.inl rfl)) rfl).next (m := b2 x s 12 s s first [fb 11 s first, f0 s first] 2 none (seen.add 7)) ?_ rfl).next (s2_branch ..) rfl)) (by first | with_reducible assumption | decide | (first | lia | omega))
        · rw [s2_lit24, if_neg hn, h13]; rfl
        · rw [s2_lit19, if_neg hn, h10]; rfl
        · rw [s2_lit12, if_neg hn, h13]; rfl
      · unfold wide2; rw [h13, h2]; exact r
def hit2 (x : Array Nat) (s : Nat) : Bool := x.getD s 0 == 10 || x.getD s 0 == 13
def next2 (x : Array Nat) : Nat → Nat → Option Nat
  | 0, _ => none
  | n + 1, s => if s ≥ x.size then none else if hit2 x s = true then some s else next2 x n (s + 1)
theorem next2_lt {x : Array Nat} : ∀ {n s p : Nat}, next2 x n s = some p → p < x.size ∧ hit2 x p = true ∧ s ≤ p
  | 0, _, _, h => nomatch h
  | n + 1, s, p, h => by
    rw [show next2 x (n + 1) s = (if s ≥ x.size then none else if hit2 x s = true then some s else next2 x n (s + 1)) from rfl] at h
    by_cases h1 : s ≥ x.size
    · rw [if_pos h1] at h; cases h
    · rw [if_neg h1] at h
      by_cases h2 : hit2 x s = true
      · rw [if_pos h2] at h; cases h; exact ⟨Nat.lt_of_not_le h1, h2, Nat.le_refl _⟩
      · rw [if_neg h2] at h
        obtain ⟨a, b, c⟩ := next2_lt h
        exact ⟨a, b, Nat.le_of_succ_le c⟩
theorem inSet2 (c : Nat) (seen : Sre.Seen) : inSet rc2 c rc2.size 5 true seen = if (c == 10) = true then .ok (true, seen.add 16) else if (c == 13) = true then .ok (true, (seen.add 16).add 16) else .ok (false, ((seen.add 16).add 16).add 0) := rfl
theorem admitted2 (m : M) (hc : m.code = rc2) (hl : m.lim = m.text.size) : ∀ (n s : Nat) (seen : Sre.Seen), ∃ seen', M.admitted m n s seen = .ok (next2 m.text n s, seen')
  | 0, _, seen => ⟨seen, rfl⟩
  | n + 1, s, seen => by
    unfold M.admitted
    rw [show next2 m.text (n + 1) s = (if s ≥ m.text.size then none else if hit2 m.text s = true then some s else next2 m.text n (s + 1)) from rfl, hl]
    by_cases h1 : s ≥ m.text.size
    · rw [if_pos h1, if_pos h1]; exact ⟨_, rfl⟩
    · rw [if_neg h1, if_neg h1, hc, inSet2]
      unfold hit2
      cases h2 : (m.text.getD s 0 == 10) with
      | true => exact ⟨_, rfl⟩
      | false =>
        cases h3 : (m.text.getD s 0 == 13) with
        | true => exact ⟨_, rfl⟩
        | false => exact admitted2 m hc hl n (s + 1) _
def g2 (x : Array Nat) (s : Nat) (ls : Nat) (seen : Sre.Seen) : M :=
  { code := rc2, text := x, lim := x.size, start := s, lastStart := ls, pc := 10, pos := s, handed := s, marks := #[], seen }
theorem search2_eq (x : Array Nat) (s : Nat) : forSearch rc2 x 0 s x.size false = if (decide (s > x.size) || decide (x.size - s < 1)) = true then
    { g2 x s 0 (({} : Sre.Seen).add 14) with answer := some false } else (g2 x s x.size (({} : Sre.Seen).add 14)).attemptFrom s true := rfl
theorem from2 (x : Array Nat) (s : Nat) (seen : Sre.Seen) : (g2 x s x.size seen).attemptFrom s true = match M.admitted (g2 x s x.size seen) (x.size + 1 - s) s seen with
    | .ok (some p, seen') => b2 x p 10 p p true [f0 p true] 1 none seen'
    | .ok (none, seen') => { g2 x s x.size seen' with answer := some false }
    | .error why => (g2 x s x.size seen).stick why := rfl
theorem search2 (x : Array Nat) (s : Nat) :
    ∃ f, Ends 20 (forSearch rc2 x 0 s x.size false) f ∧ match next2 x (x.size + 1 - s) s with
      | some p => f.outcome = some .matched ∧ f.start = p ∧ f.handed = p + wide2 x p
      | none => f.outcome = some .failed := by
  rw [search2_eq]
  by_cases h : (decide (s > x.size) || decide (x.size - s < 1)) = true
  · rw [if_pos h]
    have h' : s ≥ x.size := by simp only [Bool.or_eq_true, decide_eq_true_eq] at h; (first | lia | omega)
    have : next2 x (x.size + 1 - s) s = none := by
      cases q : next2 x (x.size + 1 - s) s with
      | none => rfl
      | some p => obtain ⟨a, _, c⟩ := next2_lt q; (first | lia | omega)
    rw [this]
    exact ⟨_, Ends.more (n := 1) ⟨rfl, rfl⟩ (by first | with_reducible assumption | decide | (first | lia | omega)), rfl⟩
  · rw [if_neg h, from2]
    obtain ⟨seen', e⟩ := admitted2 (g2 x s x.size (({} : Sre.Seen).add 14)) rfl rfl (x.size + 1 - s) s (({} : Sre.Seen).add 14)
    have e' : M.admitted (g2 x s x.size (({} : Sre.Seen).add 14)) (x.size + 1 - s) s (({} : Sre.Seen).add 14) = .ok (next2 x (x.size + 1 - s) s, seen') := e
    rw [e']
    cases q : next2 x (x.size + 1 - s) s with
    | none => exact ⟨_, Ends.more (n := 1) ⟨rfl, rfl⟩ (by first | with_reducible assumption | decide | (first | lia | omega)), rfl⟩
    | some p =>
      obtain ⟨a, b, _⟩ := next2_lt q
      exact m2_hit x p true seen' a b
end SW
namespace SW
open PySem PySem.W PyProof.Rows PySem.Calls PySem.Spec
set_option maxRecDepth 100000
open PySem.Builtin PySem.Builtin.Re
structure IsPat (h : Heap) (P ct : Addr) (code : Array Nat) : Prop where
  pat : ∃ p0 p1, h.get? P = some { cls := .type "re.Pattern", data := .fields #[p0, p1, .int 0 0, .none, .none, .ref ct, .int 0 0] }
  tup : ∃ k, h.get? ct = some { cls := .type "tuple", data := .seq (code.toList.map fun (n : Nat) => rawInt n).toArray k }
theorem IsPat.keeps {h h' : Heap} {P ct : Addr} {code : Array Nat} {D : Addr} (x : IsPat h P ct code) (h1 : P ≠ D) (h2 : ct ≠ D) (k : ∀ b o, b ≠ D → h.get? b = some o → h'.get? b = some o) : IsPat h' P ct code :=
  ⟨let ⟨a, b, e⟩ := x.pat; ⟨a, b, k _ _ h1 e⟩, let ⟨a, e⟩ := x.tup; ⟨a, k _ _ h2 e⟩⟩
section
variable {prog : Program} {w : World} {A : Around} {E : Value → Shared → Prop} {s : Shared} {P ct : Addr} {code : Array Nat} {X : Str} {t : Tok}
theorem asStr_str {x : Str} {t : Tok} : asStr? (.str x t) = pure (some x) := rfl
theorem whole_ok {Q : ReTarget → Shared → Prop} (hp : IsPat s.heap P ct code)
    (h : Q { pattern := .ref P, string := .str X t, code, text := X.cps, kind := 0, groups := 0, pos := 0, lim := X.cps.size } s) : wpAny (model prog w) A (reWholeTarget (.ref P) (.str X t)) Q E s := by
  obtain ⟨⟨p0, p1, e1⟩, ⟨k, e2⟩⟩ := hp
  unfold reWholeTarget
  refine wpAny_bind (m := fieldsOf (.ref P)) ?_
  unfold fieldsOf
  refine wpAny_bind (wpAny_load e1 (wpAny_pure ?_))
  dsimp only
  refine wpAny_bind (m := reTextOf (.str X t)) (wpAny_bind (m := asStr? (.str X t)) (wpAny_pure (wpAny_pure ?_)))
  dsimp only
  refine wpAny_bind (m := reNoCollectionInside (.str X t) 0) (wpAny_pure ?_)
  refine wpAny_bind (m := reRawItems (.ref ct)) ?_
  unfold reRawItems
  refine wpAny_bind (m := seqItems? (.ref ct)) ?_
  unfold seqItems?
  refine wpAny_bind (wpAny_load e2 (wpAny_pure (wpAny_pure (wpAny_pure ?_))))
  have e : ((((some (code.toList.map fun (n : Nat) => rawInt n).toArray).getD #[]).map reRawOf).map (·.toNat) : Array Nat) = code := by
    rw [Option.getD_some, List.map_toArray, List.map_toArray, List.map_map, List.map_map]
    have : (((fun (x : Int) => x.toNat) ∘ reRawOf) ∘ fun (n : Nat) => rawInt n) = _root_.id := rfl
    rw [this, List.map_id]
  rw [e]
  exact h
theorem slice_ok {text : Array Nat} {b e : Nat} {Q : Value → Shared → Prop} (hs : text.size ≤ sizeLine) (h : Q (.str ⟨text.extract b e⟩ s.toks) { s with toks := s.toks + 1 }) : wpAny (model prog w) A (reSlice text 0 b e) Q E s := by
  show wpAny _ _ (mkStr ⟨text.extract b e⟩) _ _ _
  refine wpAny_mkStr h ?_
  show (text.extract b e).size ≤ sizeLine
  rw [Array.size_extract]; (first | lia | omega)
end
def Finds (code x : Array Nat) (find : Nat → Option (Nat × Nat)) : Prop :=
  ∀ s ≤ x.size, ∃ n f, n < 2 ^ 64 ∧ Ends n (Sre.forSearch code x 0 s x.size false) f ∧ match find s with
    | some (b, e) => f.outcome = some .matched ∧ f.start = b ∧ f.handed = e ∧ s ≤ b ∧ b < e ∧ e ≤ x.size
    | none => f.outcome = some .failed
def subL (x : Array Nat) (find : Nat → Option (Nat × Nat)) (r : List Nat) : Nat → Nat → List Nat
  | 0, _ => []
  | n + 1, s => match find s with
    | some (b, e) => (x.extract s b).toList ++ r ++ subL x find r n e
    | none => (x.extract s x.size).toList
def textsOf (l : List (Str × Tok)) : List Nat := l.flatMap fun p => p.1.cps.toList
theorem textsOf_append (l l' : List (Str × Tok)) : textsOf (l ++ l') = textsOf l ++ textsOf l' := by unfold textsOf; rw [List.flatMap_append]

theorem entry_sub_loop : entryFor table "re.Pattern.sub.loop" = some Builtin.«re.Pattern.sub.loop» := entryFor_of_tree (by kernel_rfl)
theorem quiet_sub_loop (args : Args) : (Code.builtin "re.Pattern.sub.loop" args).quiet = true := Code.quiet_builtin args (by decide +kernel)
theorem str_ne_none {r : Str} {u : Tok} : ((Value.str r u) != Value.none) = true := by
  cases h : ((Value.str r u) != Value.none) with
  | true => rfl
  | false => simp at h
theorem join_texts : ∀ l : List (Str × Tok), (PySem.Str.join ⟨#[]⟩ (l.map fun (p : Str × Tok) => p.1)).cps.toList = textsOf l
  | [] => rfl
  | [p] => by show p.1.cps.toList = p.1.cps.toList ++ []; rw [List.append_nil]
  | p :: q :: l => by
    have ih := join_texts (q :: l)
    have e : textsOf (p :: q :: l) = p.1.cps.toList ++ textsOf (q :: l) := rfl
    rw [e, ← ih]
    show (p.1.cps ++ #[] ++ (PySem.Str.join ⟨#[]⟩ ((q :: l).map fun (p : Str × Tok) => p.1)).cps).toList = _
    simp
theorem glue_texts (l : List (Str × Tok)) : (Txt.join ⟨#[]⟩ (l.map fun (p : Str × Tok) => p.1)).cps.toList = textsOf l := by
  rw [← join_texts]
  exact congrArg (fun z : Str => z.cps.toList) (StrLaws.glued_eq_join _ _)
theorem fold_len : ∀ (l : List (Str × Tok)) (k : Nat), (l.map fun (p : Str × Tok) => p.1).foldl (fun (a : Nat) (x : Str) => a + x.length + Str.length ⟨#[]⟩) k = k + (textsOf l).length
  | [], k => rfl
  | p :: l, k => by
    have e : (textsOf (p :: l)).length = p.1.length + (textsOf l).length := by
      show (p.1.cps.toList ++ textsOf l).length = _
      rw [List.length_append]; rfl
    rw [List.map_cons, List.foldl_cons, fold_len l, e]
    show k + p.1.length + 0 + _ = _
    (first | lia | omega)
theorem join_ok (l : List (Str × Tok)) (h : (textsOf l).length ≤ 10000000) : JoinOk ⟨#[]⟩ (l.map fun (p : Str × Tok) => p.1) = true := by
  unfold JoinOk Builtin.Str.tooLong
  rw [List.foldl_toArray, fold_len, sizeLine_eq, Bool.not_eq_true', decide_eq_false_iff_not]
  (first | lia | omega)
section
variable {prog : Program} {w : World} {A : Around} {E : Value → Shared → Prop} {P ct D : Addr} {code : Array Nat} {X r : Str} {t u : Tok} {R : Result → Shared → Prop} {find : Nat → Option (Nat × Nat)}
theorem push_ok {s : Shared} {l : List Value} {c : Nat} {v : Value} {Q : Unit → Shared → Prop} (hD : s.heap.get? D = some { cls := .type "list", data := .seq l.toArray c }) (hl : l.length ≤ 200000)
    (h : ∀ h', h'.get? D = some { cls := .type "list", data := .seq (l ++ [v]).toArray (c + 1) } → (∀ b o, b ≠ D → s.heap.get? b = some o → h'.get? b = some o) → Q () { s with heap := h' }) :
    wpAny (model prog w) A (updateSeq D (·.push v)) Q E s := by
  refine wpAny_updateSeq hD rfl (h _ ?_ fun b o hb e => ?_) (by rw [List.size_toArray, sizeLine_eq]; (first | lia | omega)) (by rw [Array.size_push, List.size_toArray, sizeLine_eq]; (first | lia | omega))
  · have := Heap.get?_update_self (Obj.mapSeq (·.push v)) hD rfl
    rw [this]
    have hs : ((l.toArray.push v).size == l.toArray.size) = false := by rw [Array.size_push]; simp
    show some (⟨_, _, .seq (l.toArray.push v) (if (l.toArray.push v).size == l.toArray.size then c else c + 1), _⟩ : Obj) = _
    rw [hs]
    simp
  · exact ((Heap.SameBut.update (h := s.heap) (a := D) ..).2 b hb).trans e
theorem sub_loop (hF : Finds code X.cps find) (hX : X.cps.size ≤ 100000) (hr : r.cps.size ≤ 10) (hPD : P ≠ D) (hCD : ct ≠ D) : ∀ (n start c : Nat) (k : Int) (l : List (Str × Tok)) (s : Shared), X.cps.size - start < n → start ≤ X.cps.size →
    IsPat s.heap P ct code → s.heap.get? D = some { cls := .type "list", data := .seq (strValues l).toArray c } → l.length ≤ 2 * start → (textsOf l).length ≤ 11 * start →
    (∀ (y : Str) tk h' tk', y.cps.toList = textsOf l ++ subL X.cps find r.cps.toList n start → (∀ b o, b ≠ D → s.heap.get? b = some o → h'.get? b = some o) → R (.ok (.ret (.str y tk))) { s with heap := h', toks := tk' }) →
    codeAny (model prog w) A (.builtin "re.Pattern.sub.loop" ⟨[.ref P, .str X t, .str r u, rawInt 0, rawInt 0, rawInt k, rawInt start, rawInt start, .bool false, .ref D, .bool false], []⟩) R s := by
  intro n
  induction n with
  | zero => intro start c k l s h; exact absurd h (Nat.not_lt_zero _)
  | succ n ih =>
    intro start c k l s hn hst hp hD hl ht hR
    refine codeAny_builtin entry_sub_loop ?_
    unfold Builtin.«re.Pattern.sub.loop»
    dsimp only [rawInt]
    refine wpAny_bind (whole_ok hp ?_)
    refine wpAny_bind (m := reLiteralCannotBeTurned (.str r u)) (wpAny_bind (m := asStr? (.str r u)) (wpAny_pure (wpAny_pure ?_)))
    dsimp only
    obtain ⟨m, f, hm, he, hf⟩ := hF start hst
    refine wpAny_bind (m := reNextFound _ _ _) ?_
    unfold reNextFound
    dsimp only
    rw [show ((start : Int)).toNat = start from rfl]
    have hlen : (strValues l).length = l.length := by unfold strValues; rw [List.length_map]
    cases q : find start with
    | none =>
      rw [q] at hf
      refine runToEnd_ok he hm (.inr ⟨hf, ?_⟩)
      dsimp only
      have fin : ∀ (l' : List (Str × Tok)) (c' : Nat) (h' : Heap) (tk' : Nat), h'.get? D = some { cls := .type "list", data := .seq (strValues l').toArray c' } → (∀ b o, b ≠ D → s.heap.get? b = some o → h'.get? b = some o) →
          textsOf l' = textsOf l ++ (X.cps.extract start X.cps.size).toList → (textsOf l').length ≤ 10000000 →
          wpAny (model prog w) (A.under (.builtin "re.Pattern.sub.loop" ⟨[.ref P, .str X t, .str r u, .int 0 0, .int 0 0, .int k 0, .int start 0, .int start 0, .bool false, .ref D, .bool false], []⟩))
            (do
              let joiner ← reSlice X.cps 0 0 0
              let text ← if ((← seqItems? (.ref D)).getD #[]).isEmpty then pure joiner else call (.builtin (if (0 : Nat) == 0 then "str.join" else "bytes.join")) [joiner, .ref D]
              if false then ret (← holding [text] do newTuple [text, ← mkInt k]) else ret text)
            (fun fin s' => match fin with | .done f => R (.ok f) s' | .again c' => c'.quiet = true ∧ codeAny (model prog w) A c' R s') (fun e s' => R (.error e) s') { s with heap := h', toks := tk' } := by
        intro l' c' h' tk' hD' hk' ht' hl'
        have hz : X.cps.size ≤ sizeLine := by rw [sizeLine_eq]; (first | lia | omega)
        refine wpAny_bind (slice_ok hz ?_)
        refine wpAny_bind (m := seqItems? (.ref D)) ?_
        unfold seqItems?
        refine wpAny_bind (wpAny_load hD' (wpAny_pure ?_))
        dsimp only
        rw [Option.getD_some]
        have e0 : X.cps.extract 0 0 = #[] := by simp
        rw [e0]
        have hy : textsOf l ++ subL X.cps find r.cps.toList (n + 1) start = textsOf l' := by
          rw [ht']
          show textsOf l ++ (match find start with
            | some (b, e) => (X.cps.extract start b).toList ++ r.cps.toList ++ subL X.cps find r.cps.toList n e
            | none => (X.cps.extract start X.cps.size).toList) = _
          rw [q]
        by_cases hem : (strValues l').toArray.isEmpty = true
        · rw [if_pos hem]
          have : l' = [] := by
            cases l' with
            | nil => rfl
            | cons a b => simp [strValues] at hem
          refine wpAny_pure (hR ⟨#[]⟩ _ _ _ ?_ hk')
          rw [hy, this]; rfl
        · rw [if_neg hem]
          refine wpAny_bind (m := call (.builtin "str.join") [_, .ref D]) (SC.join (l := l') ⟨_, hD', rfl, _, rfl⟩ rfl (join_ok l' hl') fun t' k' => ?_)
          refine wpAny_pure (hR _ _ _ _ ?_ hk')
          rw [hy]; exact glue_texts l'
      have hz : X.cps.size ≤ sizeLine := by rw [sizeLine_eq]; (first | lia | omega)
      by_cases hd : start < X.cps.size
      · rw [if_pos hd]
        refine wpAny_bind (slice_ok hz ?_)
        refine wpAny_bind (push_ok hD (by rw [hlen]; (first | lia | omega)) fun h' hD' hk' => ?_)
        refine fin (l ++ [(⟨X.cps.extract start X.cps.size⟩, s.toks)]) (c + 1) h' (s.toks + 1) ?_ hk' ?_ ?_
        · rw [hD']; simp [strValues]
        · rw [textsOf_append]; simp [textsOf]
        · rw [textsOf_append, List.length_append]; simp [textsOf] at ht ⊢; (first | lia | omega)
      · rw [if_neg hd]
        refine fin l c s.heap s.toks hD (fun _ _ _ e => e) ?_ (by first | with_reducible assumption | decide | (first | lia | omega))
        have : X.cps.extract start X.cps.size = #[] := by simp; (first | lia | omega)
        rw [this]; simp
    | some be =>
      obtain ⟨b, e⟩ := be
      rw [q] at hf
      obtain ⟨h1, h2, h3, h4, h5, h6⟩ := hf
      refine runToEnd_ok he hm (.inl ⟨h1, ?_⟩)
      dsimp only
      rw [h2, h3]
      have fin : ∀ (l' : List (Str × Tok)) (c' : Nat) (h' : Heap) (tk' : Nat), h'.get? D = some { cls := .type "list", data := .seq (strValues l').toArray c' } → (∀ b o, b ≠ D → s.heap.get? b = some o → h'.get? b = some o) →
          textsOf l' = textsOf l ++ (X.cps.extract start b).toList → l'.length ≤ l.length + 1 → 
          wpAny (model prog w) (A.under (.builtin "re.Pattern.sub.loop" ⟨[.ref P, .str X t, .str r u, .int 0 0, .int 0 0, .int k 0, .int start 0, .int start 0, .bool false, .ref D, .bool false], []⟩))
            (do
              let item : Value ← pure (Value.str r u)
              if item != .none then updateSeq D (·.push item)
              again (.builtin "re.Pattern.sub.loop" ⟨[.ref P, .str X t, .str r u, rawInt 0, rawInt 0, rawInt (k + 1), rawInt e, rawInt e, .bool (e == b), .ref D, .bool false], []⟩))
            (fun fin s' => match fin with | .done f => R (.ok f) s' | .again c' => c'.quiet = true ∧ codeAny (model prog w) A c' R s') (fun e s' => R (.error e) s') { s with heap := h', toks := tk' } := by
        intro l' c' h' tk' hD' hk' ht' hl'
        refine wpAny_bind (wpAny_pure ?_)
        dsimp only
        rw [str_ne_none, if_pos rfl]
        have hlen' : (strValues l').length = l'.length := by unfold strValues; rw [List.length_map]
        refine wpAny_bind (push_ok hD' (by rw [hlen']; (first | lia | omega)) fun h'' hD'' hk'' => ?_)
        refine wpAny_pure (And.intro (quiet_sub_loop _) ?_)
        have hb : (e == b) = false := by simp; (first | lia | omega)
        rw [hb]
        have hX' : (X.cps.extract start b).toList.length ≤ b - start := by simp; (first | lia | omega)
        refine ih e (c' + 1) (k + 1) (l' ++ [(r, u)]) _ (by first | with_reducible assumption | decide | (first | lia | omega)) h6 (hp.keeps hPD hCD fun b' o hb' eo => hk'' b' o hb' (hk' b' o hb' eo)) ?_ ?_ ?_ ?_
        · rw [hD'']; simp [strValues]
        · rw [List.length_append]; simp; (first | lia | omega)
        · rw [textsOf_append, List.length_append, ht', List.length_append]
          have : (textsOf [(r, u)]).length = r.cps.size := by simp [textsOf]
          rw [this]; (first | lia | omega)
        · intro y tk h3 tk3 hy hk3
          refine hR y tk h3 tk3 ?_ fun b' o hb' eo => hk3 b' o hb' (hk'' b' o hb' (hk' b' o hb' eo))
          rw [hy, textsOf_append, ht']
          show _ = textsOf l ++ (match find start with
            | some (b, e) => (X.cps.extract start b).toList ++ r.cps.toList ++ subL X.cps find r.cps.toList n e
            | none => (X.cps.extract start X.cps.size).toList)
          rw [q]
          simp [textsOf]
      have hz : X.cps.size ≤ sizeLine := by rw [sizeLine_eq]; (first | lia | omega)
      by_cases hd : start < b
      · rw [if_pos hd]
        refine wpAny_bind (slice_ok hz ?_)
        refine wpAny_bind (push_ok hD (by rw [hlen]; (first | lia | omega)) fun h' hD' hk' => ?_)
        refine fin (l ++ [(⟨X.cps.extract start b⟩, s.toks)]) (c + 1) h' (s.toks + 1) ?_ hk' ?_ ?_
        · rw [hD']; simp [strValues]
        · rw [textsOf_append]; simp [textsOf]
        · simp
      · rw [if_neg hd]
        refine wpAny_bind (wpAny_pure ?_)
        refine fin l c s.heap s.toks hD (fun _ _ _ e => e) ?_ (by first | with_reducible assumption | decide | (first | lia | omega))
        have : X.cps.extract start b = #[] := by simp; (first | lia | omega)
        rw [this]; simp
end
end SW
namespace SW
open PySem PySem.W PyProof.Rows PySem.Calls PySem.Spec
set_option maxRecDepth 100000
open PySem.Builtin PySem.Builtin.Re
theorem plainAttrs_re : PlainAttrs "re.Pattern" :=
  ⟨⟨"object.__getattribute__", by rw [typeLookup_type, builtinLookup_eq_fast]; kernel_rfl, by decide +kernel⟩, by rw [typeLookup_type, builtinLookup_eq_fast]; kernel_rfl⟩
theorem slot_re_sub : Slot "re.Pattern" "sub" "re.Pattern.sub" :=
  .of (owner := "re.Pattern") (n := "sub") (by rw [typeLookup_type, builtinLookup_eq_fast]; kernel_rfl) (by decide +kernel) (by decide +kernel) (by decide +kernel)
    (by first | exact .inl (by decide +kernel) | exact .inr (by decide +kernel)) (by rw [isSubtype_type]; kernel_rfl)
theorem type_re_sub : typeOf (.builtin "re.Pattern.sub") = pure (.type "method_descriptor") := by show builtinType _ = _; rw [builtinType_eq_fast]; kernel_rfl
theorem entry_re_sub : entryFor table "re.Pattern.sub" = some Builtin.«re.Pattern.sub» := entryFor_of_tree (by kernel_rfl)
theorem args_re_sub (a b c : Value) : argsOk "re.Pattern.sub" ⟨[a, b, c], []⟩ := by unfold argsOk; kernel_rfl
theorem str_no_call : typeLookup (.type "str") "__call__" = pure none := by rw [typeLookup_type, builtinLookup_eq_fast]; kernel_rfl
theorem named_ok (a b : Value) : reNamed "re.Pattern.sub" "sub" ["repl", "string", "count"] 2 [a, b] [] = pure [some a, some b, none] := by kernel_rfl
section
variable {prog : Program} {w : World} {A : Around} {E : Value → Shared → Prop} {s : Shared} {P ct : Addr} {code : Array Nat} {X r : Str} {t u : Tok} {find : Nat → Option (Nat × Nat)}
theorem IsPat.type (hp : IsPat s.heap P ct code) : s.TypeIs (.ref P) "re.Pattern" := let ⟨_, _, e⟩ := hp.pat; ⟨_, e, rfl⟩
theorem re_method {pl : Sem Bool} {Q : Value × List Value → Shared → Prop} (hp : IsPat s.heap P ct code) (h : Q (.builtin "re.Pattern.sub", [.ref P]) s) : wpAny (model prog w) A (getMethod (.ref P) "sub" pl) Q E s :=
  getMethod_builtin hp.type plainAttrs_re slot_re_sub type_re_sub (fun a e => by cases e; obtain ⟨_, _, e⟩ := hp.pat; exact ⟨_, e, rfl⟩) h
theorem sub_ok {Q : Value → Shared → Prop} (hF : Finds code X.cps find) (hX : X.cps.size ≤ 100000) (hr : r.cps.size ≤ 10) (h92 : r.cps.contains 92 = false) (hp : IsPat s.heap P ct code)
    (h : ∀ (y : Str) tk h' tk', y.cps.toList = subL X.cps find r.cps.toList (X.cps.size + 1) 0 → (∀ b o, s.heap.get? b = some o → h'.get? b = some o) → Q (.str y tk) { s with heap := h', toks := tk' }) :
    wpAny (model prog w) A (call (.builtin "re.Pattern.sub") [.ref P, .str r u, .str X t]) Q E s := by
  refine wpAny_call (codeAny_call_builtin slot_re_sub.plain entry_re_sub (slot_re_sub.check _ _ _ _ _ _ _ _ hp.type (args_re_sub _ _ _) ?_))
  unfold Builtin.«re.Pattern.sub» reSubstitute
  dsimp only
  rw [named_ok]
  refine wpAny_bind (wpAny_pure ?_)
  dsimp only
  refine wpAny_bind (wpAny_pure ?_)
  refine wpAny_bind (m := specialOf (.str r u) "__call__") (wpAny_specialOf (typeIs_str _ _ _) str_no_call ?_)
  refine wpAny_bind (m := asStr? (.str r u)) (wpAny_pure ?_)
  dsimp only
  rw [h92]
  refine wpAny_bind (wpAny_pure ?_)
  refine wpAny_bind (wpAny_pure ?_)
  refine wpAny_bind (wpAny_holding (whole_ok hp ?_))
  have hx : ∀ b o, s.heap.get? b = some o → b ≠ s.heap.objs.size := fun b o e => Nat.ne_of_lt (Heap.lt_size e)
  obtain ⟨⟨p0, p1, e1⟩, ⟨k, e2⟩⟩ := id hp
  refine wpAny_bind (m := newList []) (wpAny_newList ?_ (by rw [sizeLine_eq]; decide))
  refine wpAny_pure (And.intro (quiet_sub_loop _) ?_)
  refine sub_loop (D := s.heap.objs.size) (c := 0) (l := []) hF hX hr (hx _ _ e1) (hx _ _ e2) (X.cps.size + 1) 0 0 _ (by first | with_reducible assumption | decide | omega) (by first | with_reducible assumption | decide | omega) (hp.keeps (hx _ _ e1) (hx _ _ e2) fun b o _ e => Heap.get?_push_of_some _ e) (Heap.get?_push_size _ rfl) (by simp) (by simp [textsOf]) ?_
  intro y tk h' tk' hy hk
  exact h y tk h' tk' hy fun b o e => hk b o (hx b o e) (Heap.get?_push_of_some _ e)
end
end SW
namespace SW
open PySem PySem.W PyProof.Rows PySem.Calls PySem.Spec
set_option maxRecDepth 100000
/-- every line's end as a return and a feed -/
def crlf : List Nat → List Nat
  | [] => []
  | c :: r => if c = 10 then 13 :: 10 :: crlf r else if c = 13 then 13 :: 10 :: (match r with | d :: r' => if d = 10 then crlf r' else crlf (d :: r') | [] => []) else c :: crlf r
theorem crlf_cons (c : Nat) (r : List Nat) : crlf (c :: r) = if c = 10 then 13 :: 10 :: crlf r else if c = 13 then 13 :: 10 :: (match r with | d :: r' => if d = 10 then crlf r' else crlf (d :: r') | [] => []) else c :: crlf r := by
  cases r <;> rfl
/-- a dot that opens a line is doubled -/
def dots : Bool → List Nat → List Nat
  | _, [] => []
  | b, c :: r => if b = true ∧ c = 46 then 46 :: 46 :: dots false r else c :: dots (c == 10) r
def find1 (x : Array Nat) (s : Nat) : Option (Nat × Nat) := (next1 x (x.size + 1 - s) s).map fun p => (p, p + 1)
def find2 (x : Array Nat) (s : Nat) : Option (Nat × Nat) := (next2 x (x.size + 1 - s) s).map fun p => (p, p + wide2 x p)
theorem next1_facts {x : Array Nat} : ∀ {n s : Nat}, s + n ≥ x.size → match next1 x n s with
    | some p => s ≤ p ∧ hit1 x p = true ∧ (∀ q, s ≤ q → q < p → hit1 x q = false)
    | none => ∀ q, s ≤ q → q < x.size → hit1 x q = false
  | 0, s, h => fun q h1 h2 => by omega
  | n + 1, s, h => by
    rw [show next1 x (n + 1) s = (if hit1 x s = true then some s else next1 x n (s + 1)) from rfl]
    by_cases hh : hit1 x s = true
    · rw [if_pos hh]; exact ⟨Nat.le_refl _, hh, fun q h1 h2 => by (first | lia | omega)⟩
    · rw [if_neg hh]
      have ih := next1_facts (x := x) (n := n) (s := s + 1) (by first | with_reducible assumption | decide | (first | lia | omega))
      cases e : next1 x n (s + 1) with
      | none =>
        rw [e] at ih
        intro q h1 h2
        by_cases hq : q = s
        · subst hq; simpa using hh
        · exact ih q (by first | with_reducible assumption | decide | (first | lia | omega)) h2
      | some p =>
        rw [e] at ih
        refine ⟨by (first | lia | omega), ih.2.1, fun q h1 h2 => ?_⟩
        by_cases hq : q = s
        · subst hq; simpa using hh
        · exact ih.2.2 q (by first | with_reducible assumption | decide | (first | lia | omega)) h2
theorem next2_facts {x : Array Nat} : ∀ {n s : Nat}, s + n ≥ x.size → match next2 x n s with
    | some p => s ≤ p ∧ p < x.size ∧ hit2 x p = true ∧ (∀ q, s ≤ q → q < p → hit2 x q = false)
    | none => ∀ q, s ≤ q → q < x.size → hit2 x q = false
  | 0, s, h => fun q h1 h2 => by omega
  | n + 1, s, h => by
    rw [show next2 x (n + 1) s = (if s ≥ x.size then none else if hit2 x s = true then some s else next2 x n (s + 1)) from rfl]
    by_cases hs : s ≥ x.size
    · rw [if_pos hs]; exact fun q h1 h2 => by (first | lia | omega)
    rw [if_neg hs]
    by_cases hh : hit2 x s = true
    · rw [if_pos hh]; exact ⟨Nat.le_refl _, Nat.lt_of_not_le hs, hh, fun q h1 h2 => by (first | lia | omega)⟩
    · rw [if_neg hh]
      have ih := next2_facts (x := x) (n := n) (s := s + 1) (by first | with_reducible assumption | decide | (first | lia | omega))
      cases e : next2 x n (s + 1) with
      | none =>
        rw [e] at ih
        intro q h1 h2
        by_cases hq : q = s
        · subst hq; simpa using hh
        · exact ih q (by first | with_reducible assumption | decide | (first | lia | omega)) h2
      | some p =>
        rw [e] at ih
        refine ⟨by (first | lia | omega), ih.2.1, ih.2.2.1, fun q h1 h2 => ?_⟩
        by_cases hq : q = s
        · subst hq; simpa using hh
        · exact ih.2.2.2 q (by first | with_reducible assumption | decide | (first | lia | omega)) h2
theorem wide2_le {x : Array Nat} {p : Nat} (h : p < x.size) : p + wide2 x p ≤ x.size ∧ 1 ≤ wide2 x p := by
  by_cases q : (x.getD p 0 == 13 && (Nat.blt (p + 1) x.size && x.getD (p + 1) 0 == 10)) = true
  · have e : wide2 x p = 2 := if_pos q
    have := (Bool.and_eq_true_iff.mp (Bool.and_eq_true_iff.mp q).2).1
    have : p + 1 < x.size := Nat.le_of_ble_eq_true this
    (first | lia | omega)
  · have e : wide2 x p = 1 := if_neg q
    (first | lia | omega)
theorem finds1 (x : Array Nat) (hx : x.size ≤ 1000000) : Finds rc1 x (find1 x) := fun s hs => by
  obtain ⟨f, e, h⟩ := search1 x s hs
  refine ⟨_, f, ?_, e, ?_⟩
  · (first | lia | omega)
  · unfold find1
    have k := next1_facts (x := x) (n := x.size + 1 - s) (s := s) (by first | with_reducible assumption | decide | (first | lia | omega))
    cases q : next1 x (x.size + 1 - s) s with
    | none => rw [q] at h; exact h
    | some p =>
      rw [q] at h k
      have : p < x.size := Nat.le_of_ble_eq_true (Bool.and_eq_true_iff.mp (Bool.and_eq_true_iff.mp k.2.1).2).1
      exact ⟨h.1, h.2.1, h.2.2, k.1, by (first | lia | omega), by (first | lia | omega)⟩
theorem finds2 (x : Array Nat) : Finds rc2 x (find2 x) := fun s hs => by
  obtain ⟨f, e, h⟩ := search2 x s
  refine ⟨_, f, by (first | lia | omega), e, ?_⟩
  unfold find2
  have k := next2_facts (x := x) (n := x.size + 1 - s) (s := s) (by first | with_reducible assumption | decide | (first | lia | omega))
  cases q : next2 x (x.size + 1 - s) s with
  | none => rw [q] at h; exact h
  | some p =>
    rw [q] at h k
    have := wide2_le k.2.1
    exact ⟨h.1, h.2.1, h.2.2, k.1, by (first | lia | omega), this.1⟩
theorem drop_cons {l : List Nat} {s : Nat} (h : s < l.length) : l.drop s = l.getD s 0 :: l.drop (s + 1) := by
  rw [List.drop_eq_getElem_cons h, List.getD_eq_getElem?_getD, List.getElem?_eq_getElem h]; rfl
theorem getD_list {x : Array Nat} {s : Nat} : x.getD s 0 = x.toList.getD s 0 := by
  rw [Array.getD_eq_getD_getElem?, List.getD_eq_getElem?_getD, Array.getElem?_toList]
theorem ext_list {x : Array Nat} {s e : Nat} : (x.extract s e).toList = (x.toList.drop s).take (e - s) := by
  rw [Array.toList_extract]
theorem crlf_plain {l : List Nat} : ∀ (d s : Nat), s + d ≤ l.length → (∀ q, s ≤ q → q < s + d → (l.getD q 0 == 10 || l.getD q 0 == 13) = false) → crlf (l.drop s) = (l.drop s).take d ++ crlf (l.drop (s + d))
  | 0, s, _, _ => by simp
  | d + 1, s, h, k => by
    rw [drop_cons (by (first | lia | omega) : s < l.length)]
    have h0 := k s (Nat.le_refl _) (by first | with_reducible assumption | decide | (first | lia | omega))
    have h1 : ¬ l.getD s 0 = 10 := by intro e; rw [e] at h0; simp at h0
    have h2 : ¬ l.getD s 0 = 13 := by intro e; rw [e] at h0; simp at h0
    have e : ∀ (c : Nat) (r : List Nat), ¬ c = 10 → ¬ c = 13 → crlf (c :: r) = c :: crlf r := fun c r a b => by
      rw [crlf_cons, if_neg a, if_neg b]
    rw [e _ _ h1 h2, crlf_plain d (s + 1) (by first | with_reducible assumption | decide | (first | lia | omega)) fun q a b => k q (by first | with_reducible assumption | decide | (first | lia | omega)) (by first | with_reducible assumption | decide | (first | lia | omega))]
    rw [show s + 1 + d = s + (d + 1) from by (first | lia | omega), List.take_succ_cons, List.cons_append]
theorem crlf_hit {x : Array Nat} {p : Nat} (hp : p < x.size) (h : hit2 x p = true) : crlf (x.toList.drop p) = [13, 10] ++ crlf (x.toList.drop (p + wide2 x p)) := by
  rw [drop_cons (l := x.toList) (by simpa using hp)]
  unfold hit2 at h
  rw [getD_list] at h
  unfold wide2
  rw [getD_list, getD_list]
  rw [crlf_cons]
  by_cases h1 : x.toList.getD p 0 = 10
  · rw [if_pos h1, h1]; rfl
  · have h2 : x.toList.getD p 0 = 13 := by
      rcases Bool.or_eq_true_iff.mp h with a | a
      · exact absurd (beq_iff_eq.mp a) h1
      · exact beq_iff_eq.mp a
    rw [if_neg h1, if_pos h2, h2]
    by_cases h3 : p + 1 < x.size
    · rw [show Nat.blt (p + 1) x.size = true from Nat.ble_eq_true_of_le h3]
      rw [drop_cons (l := x.toList) (s := p + 1) (by simpa using h3)]
      by_cases h4 : x.toList.getD (p + 1) 0 = 10
      · rw [h4]; simp
      · have h5 : (x.toList.getD (p + 1) 0 == 10) = false := by simpa using h4
        rw [h5]
        simp only [h4, if_false, Bool.and_false]
        simp
        rw [drop_cons (l := x.toList) (s := p + 1) (by simpa using h3)]
        simp
    · have : x.toList.drop (p + 1) = [] := List.drop_eq_nil_of_le (by simp; (first | lia | omega))
      rw [show Nat.blt (p + 1) x.size = false from by
        cases q : Nat.blt (p + 1) x.size with
        | false => rfl
        | true => exact absurd (Nat.le_of_ble_eq_true q) h3]
      rw [this]
      simp [this, crlf]
theorem sub2_is (x : Array Nat) : ∀ (n s : Nat), x.size - s < n → s ≤ x.size → subL x (find2 x) [13, 10] n s = crlf (x.toList.drop s)
  | 0, _, h, _ => absurd h (Nat.not_lt_zero _)
  | n + 1, s, h, hs => by
    have k := next2_facts (x := x) (n := x.size + 1 - s) (s := s) (by first | with_reducible assumption | decide | (first | lia | omega))
    have e : subL x (find2 x) [13, 10] (n + 1) s = match find2 x s with
      | some (b, e) => (x.extract s b).toList ++ [13, 10] ++ subL x (find2 x) [13, 10] n e
      | none => (x.extract s x.size).toList := rfl
    rw [e]
    unfold find2
    cases q : next2 x (x.size + 1 - s) s with
    | none =>
      rw [q] at k
      have := crlf_plain (l := x.toList) (x.size - s) s (by simp; (first | lia | omega)) fun q h1 h2 => by
        have := k q h1 (by first | with_reducible assumption | decide | (first | lia | omega))
        unfold hit2 at this; rwa [getD_list] at this
      rw [this, show s + (x.size - s) = x.size from by (first | lia | omega), List.drop_eq_nil_of_le (as := x.toList) (i := x.size) (by simp)]
      show (x.extract s x.size).toList = _
      rw [ext_list]; simp [crlf]
    | some p =>
      rw [q] at k
      have hw := wide2_le k.2.1
      have := crlf_plain (l := x.toList) (p - s) s (by simp; (first | lia | omega)) fun q h1 h2 => by
        have := k.2.2.2 q h1 (by first | with_reducible assumption | decide | (first | lia | omega))
        unfold hit2 at this; rwa [getD_list] at this
      rw [this, show s + (p - s) = p from by (first | lia | omega), crlf_hit k.2.1 k.2.2.1]
      show (x.extract s p).toList ++ [13, 10] ++ subL x (find2 x) [13, 10] n (p + wide2 x p) = _
      rw [sub2_is x n (p + wide2 x p) (by first | with_reducible assumption | decide | (first | lia | omega)) hw.1, ext_list, List.append_assoc]

theorem dots_cons (b : Bool) (c : Nat) (r : List Nat) : dots b (c :: r) = if b = true ∧ c = 46 then 46 :: 46 :: dots false r else c :: dots (c == 10) r := by
  cases b <;> rfl
theorem atLine_succ {x : Array Nat} {s : Nat} : atLine x (s + 1) = (x.toList.getD s 0 == 10) := by
  unfold atLine
  rw [Nat.add_sub_cancel, getD_list]
  simp
theorem dots_plain {x : Array Nat} : ∀ (d s : Nat), s + d ≤ x.size → (∀ q, s ≤ q → q < s + d → hit1 x q = false) → dots (atLine x s) (x.toList.drop s) = (x.toList.drop s).take d ++ dots (atLine x (s + d)) (x.toList.drop (s + d))
  | 0, s, _, _ => by simp
  | d + 1, s, h, k => by
    rw [drop_cons (by simp; (first | lia | omega) : s < x.toList.length)]
    have h0 := k s (Nat.le_refl _) (by first | with_reducible assumption | decide | (first | lia | omega))
    unfold hit1 at h0
    rw [show Nat.blt s x.size = true from Nat.ble_eq_true_of_le (by first | with_reducible assumption | decide | (first | lia | omega)), getD_list] at h0
    rw [dots_cons, if_neg (by rintro ⟨a, b⟩; rw [a, b] at h0; simp at h0), ← atLine_succ, dots_plain d (s + 1) (by first | with_reducible assumption | decide | (first | lia | omega)) fun q a b => k q (by first | with_reducible assumption | decide | (first | lia | omega)) (by first | with_reducible assumption | decide | (first | lia | omega))]
    rw [show s + 1 + d = s + (d + 1) from by (first | lia | omega), List.take_succ_cons, List.cons_append]
theorem sub1_is (x : Array Nat) : ∀ (n s : Nat), x.size - s < n → s ≤ x.size → subL x (find1 x) [46, 46] n s = dots (atLine x s) (x.toList.drop s)
  | 0, _, h, _ => absurd h (Nat.not_lt_zero _)
  | n + 1, s, h, hs => by
    have k := next1_facts (x := x) (n := x.size + 1 - s) (s := s) (by first | with_reducible assumption | decide | (first | lia | omega))
    have e : subL x (find1 x) [46, 46] (n + 1) s = match find1 x s with
      | some (b, e) => (x.extract s b).toList ++ [46, 46] ++ subL x (find1 x) [46, 46] n e
      | none => (x.extract s x.size).toList := rfl
    rw [e]
    unfold find1
    cases q : next1 x (x.size + 1 - s) s with
    | none =>
      rw [q] at k
      rw [dots_plain (x.size - s) s (by first | with_reducible assumption | decide | (first | lia | omega)) fun q h1 h2 => k q h1 (by first | with_reducible assumption | decide | (first | lia | omega)), show s + (x.size - s) = x.size from by (first | lia | omega), List.drop_eq_nil_of_le (as := x.toList) (i := x.size) (by simp)]
      show (x.extract s x.size).toList = _
      rw [ext_list]; simp [dots]
    | some p =>
      rw [q] at k
      have h1 := Bool.and_eq_true_iff.mp k.2.1
      have h2 := Bool.and_eq_true_iff.mp h1.2
      have hp : p < x.size := Nat.le_of_ble_eq_true h2.1
      have hc : x.toList.getD p 0 = 46 := by
        have := h2.2
        rw [getD_list] at this
        exact beq_iff_eq.mp this
      rw [dots_plain (p - s) s (by first | with_reducible assumption | decide | (first | lia | omega)) fun q a b => k.2.2 q a (by first | with_reducible assumption | decide | (first | lia | omega)), show s + (p - s) = p from by (first | lia | omega), h1.1, drop_cons (l := x.toList) (s := p) (by simpa using hp), hc, dots_cons, if_pos ⟨rfl, rfl⟩]
      show (x.extract s p).toList ++ [46, 46] ++ subL x (find1 x) [46, 46] n (p + 1) = _
      rw [sub1_is x n (p + 1) (by first | with_reducible assumption | decide | (first | lia | omega)) (by first | with_reducible assumption | decide | (first | lia | omega)), ext_list, atLine_succ, hc, List.append_assoc]
      rfl
theorem crlf_len : ∀ l : List Nat, (crlf l).length ≤ 2 * l.length := by
  have key : ∀ n, ∀ l : List Nat, l.length ≤ n → (crlf l).length ≤ 2 * l.length := by
    intro n
    induction n with
    | zero => intro l h; cases l with
      | nil => exact Nat.le_refl _
      | cons a b => simp at h
    | succ n ih =>
      intro l h
      cases l with
      | nil => exact Nat.le_refl _
      | cons c r =>
        have hr : r.length ≤ n := by simpa using h
        have := ih r hr
        rw [crlf_cons]
        split
        · simp; (first | lia | omega)
        · split
          · cases r with
            | nil => simp
            | cons d r' =>
              simp only [List.length_cons]
              have h' := ih r' (by simp at hr; (first | lia | omega))
              split
              · (first | lia | omega)
              · simp only [List.length_cons] at this; (first | lia | omega)
          · simp; (first | lia | omega)
  exact fun l => key _ l (Nat.le_refl _)
theorem pat1 {P : Params} {h : Heap} (X : (SW.hd.heap_39 P).In h) : IsPat h 113 112 rc1 := ⟨⟨_, _, X 113 _ (by rfl)⟩, ⟨_, X 112 _ (by rfl)⟩⟩
theorem pat2 {P : Params} {h : Heap} (X : (SW.hd.heap_39 P).In h) : IsPat h 118 117 rc2 := ⟨⟨_, _, X 118 _ (by rfl)⟩, ⟨_, X 117 _ (by rfl)⟩⟩
section
variable {prog : Program} {w : World} {A : Around} {E : Value → Shared → Prop} {s : Shared} {X : Str} {t u : Tok} {h₀ : Heap} {L : Addr} {m : Str → Option Value} {news : List (Addr × Obj)}
theorem subK1 {Q : Value → Shared → Prop} (F : Fr h₀ L s.heap m) (K : (SW.hd.heap_39 w.params).In h₀) (N : News h₀ L s.heap news) (hX : X.cps.size ≤ 100000)
    (h : ∀ (y : Str) tk h' tk', y.cps.toList = dots true X.cps.toList → Fr h₀ L h' m → News h₀ L h' news → Q (.str y tk) { s with heap := h', toks := tk' }) :
    wpAny (model prog w) A (call (.builtin "re.Pattern.sub") [.ref 113, .str (PySem.Str.ofString "..") u, .str X t]) Q E s :=
  sub_ok (finds1 _ (by first | with_reducible assumption | decide | (first | lia | omega))) hX (by decide +kernel) (by decide +kernel) (pat1 (K.keeps F.keep)) fun y tk h' tk' hy hk =>
    h y tk h' tk' (by rw [hy, show (PySem.Str.ofString "..").cps.toList = [46, 46] from by decide +kernel, sub1_is _ _ _ (by first | with_reducible assumption | decide | (first | lia | omega)) (Nat.zero_le _)]; rfl) (F.keeps hk) (N.grown hk)
theorem subK2 {Q : Value → Shared → Prop} (F : Fr h₀ L s.heap m) (K : (SW.hd.heap_39 w.params).In h₀) (N : News h₀ L s.heap news) (hX : X.cps.size ≤ 100000)
    (h : ∀ (y : Str) tk h' tk', y.cps.toList = crlf X.cps.toList → Fr h₀ L h' m → News h₀ L h' news → Q (.str y tk) { s with heap := h', toks := tk' }) :
    wpAny (model prog w) A (call (.builtin "re.Pattern.sub") [.ref 118, .str (PySem.Str.ofString "\r\n") u, .str X t]) Q E s :=
  sub_ok (finds2 _) hX (by decide +kernel) (by decide +kernel) (pat2 (K.keeps F.keep)) fun y tk h' tk' hy hk =>
    h y tk h' tk' (by rw [hy, show (PySem.Str.ofString "\r\n").cps.toList = [13, 10] from by decide +kernel, sub2_is _ _ _ (by first | with_reducible assumption | decide | (first | lia | omega)) (Nat.zero_le _)]; rfl) (F.keeps hk) (N.grown hk)
theorem reK {P : Addr} {pl : Sem Bool} {Q : Value × List Value → Shared → Prop} (F : Fr h₀ L s.heap m) (K : (SW.hd.heap_39 w.params).In h₀) (hP : P = 113 ∨ P = 118) (h : Q (.builtin "re.Pattern.sub", [.ref P]) s) : wpAny (model prog w) A (getMethod (.ref P) "sub" pl) Q E s := by
  rcases hP with rfl | rfl
  · exact re_method (pat1 (K.keeps F.keep)) h
  · exact re_method (pat2 (K.keeps F.keep)) h
end
end SW
namespace SW
open PySem PySem.W PyProof.Rows PySem.Calls PySem.Spec
set_option maxRecDepth 100000
set_option maxHeartbeats 8000000
local macro_rules | `(tactic| walk_at "getMethod ref") => `(tactic| (k_here; (with_reducible show wpAny _ _ (getMethod (Value.ref _) (PySem.Str.ofString "sub") _) _ _ _); k_dflt (refine' reK ?k1 ?k2 ?k3 ?_; (case k1 | k2 => k_asm); (case k3 => first | exact .inl rfl | exact .inr rfl); k_whole)))
local macro_rules | `(tactic| walk_at "call builtin:re.Pattern.sub") => `(tactic| (k_here; k_dflt (first
  | (refine' subK1 ?k1 ?k2 ?k3 ?k4 ?_; (case k1 | k2 | k3 => k_asm); (case k4 => walk_at "SW size"); k_whole; intro y' tk' h' tk2' hy' F' N')
  | (refine' subK2 ?k1 ?k2 ?k3 ?k4 ?_; (case k1 | k2 | k3 => k_asm); (case k4 => walk_at "SW size"); k_whole; intro y' tk' h' tk2' hy' F' N'))))
theorem size_of {y : Str} {l : List Nat} (h : y.cps.toList = l) : y.cps.size = l.length := by rw [← h, Array.length_toList]
local macro_rules | `(tactic| walk_at "SW size") => `(tactic| first | omega | (simp only [size_of (by assumption)]; (have := crlf_len _); simp only [Array.length_toList] at *; omega))
theorem quote_size {x y : Str} (hx : x.cps.size ≤ 1000) (h : y.cps.toList = crlf x.cps.toList) : y.cps.size ≤ 100000 := by
  have := crlf_len x.cps.toList
  rw [← h, Array.length_toList, Array.length_toList] at this
  omega
local macro_rules | `(tactic| walk_at "SW size") => `(tactic| (refine' quote_size ?sz1 ?sz2; (case sz2 | sz1 => assumption)))
theorem quote_spec {prog : Program} {w : World} {p : Program} {loose : List Str} {mean : ExcName → Option Value} {mg mb : Str → Option Value}
  {dp un : Nat} {gd : Option (List Code)} {cn : Str} {cs : Scope} {a : Addr} {ccd : Value} {cl : List (Str × Addr)} {outer : List Env} {A₀ : Around} {base h₀ : Heap} {L : Addr} {m : Str → Option Value} {s : Shared} {Q E : Value → Shared → Prop}
  (B : Below A₀ base outer h₀) (F : Fr h₀ L s.heap m) (X : (SW.hd.heap_39 w.params).In h₀) (T : Top p loose mean mg mb h₀) (hk : cs.kind = .function) (hd : dp + 1 < recursionLimit) (hu : un + 8 < cLine)
  {x : Str} {t : Tok} (hx : x.cps.size ≤ 1000) {news : List (Addr × Obj)}
  (N : News h₀ L s.heap news)
  (ret : ∀ (y : Str) t' h' tk', y.cps.toList = dots true (crlf x.cps.toList) → Fr h₀ L h' m → News h₀ L h' news → Q (.str y t') { s with heap := h', toks := tk' }) :
  wpAny (model prog w) (ktrTop dp un gd cn cs L a ccd cl outer) (call (.ref 125) [.str x t]) Q E s := by
  refine wpAny_call ?_
  k_dflt cell_enter
  k_steps
  refine ret _ _ _ _ ?_ (by assumption) (by assumption)
  simp only [*]
end SW
namespace SW
open PySem PySem.W PyProof.Rows PySem.Calls PySem.Spec
set_option maxRecDepth 100000
set_option maxHeartbeats 8000000
local macro_rules | `(tactic| k_room) => `(tactic| ktr_room)
local macro_rules | `(tactic| k_all) => `(tactic| assumption)
local macro_rules | `(tactic| walk_at "SW size") => `(tactic| first | assumption | omega | decide | (simp only [Str.length] at *; omega))
local macro_rules | `(tactic| walk_at "call ref") => `(tactic| (k_here; (with_reducible show wpAny _ _ (call (Value.ref 125) [Value.str _ _]) _ _ _); k_dflt (refine' quote_spec ?k1 ?k2 ?k3 ?k4 ?k5 ?k6 ?k7 ?k8 ?k9 ?_; (case k1 | k2 | k3 | k4 => k_asm); (case k5 => first | exact rfl | assumption); (case k6 => ktr_room); (case k7 => ktr_units); (case k8 => walk_at "SW size"); (case k9 => k_asm); k_whole; intro y' t' h' tk' hy' F' N'; (try k_sweep))))
local macro_rules | `(tactic| walk_at "SW enterK") => `(tactic| (refine' code_defK ?k1 ?k2 ?k3 ?k4 ?k5 ?kA ?kF ?kK ?k6 ?k7 ?k8 ?k9 ?kB ?_ ?c2 ?c3 ?c4 ?c5; (case kA | kF => exact rfl); (case kK => first | exact rfl | assumption); (case k1 | k2 | k3 | k4 | k5 => k_asm); (case k6 | k7 => k_is); (case k8 => ktr_room); (case k9 => exact BindsTo.of_eq rfl); (case c5 => decide); (case kB => exact locs rfl); (case c2 | c3 | c4 => exact rfl); k_whole; intro g' L' h' FG' F' N' B' X' T' KG'; (try dsimp only); (try k_lift B'); (try k_fold)))
local macro_rules | `(tactic| walk_at "SW enterKC") => `(tactic| (refine' code_defKC ?k1 ?k2 ?k3 ?k4 ?k5 ?kA ?kF ?kK ?k6 ?k7 ?k8 ?k9 ?kB ?kD ?_ ?c2 ?c3 ?c4; (case kA | kF => exact rfl); (case kK => first | exact rfl | assumption); (case k1 | k2 | k3 | k4 | k5 => k_asm); (case k6 | k7 => k_is); (case k8 => ktr_room); (case k9 => exact BindsTo.of_eq rfl); (case kB => exact rfl); (case kD => decide +kernel); (case c2 | c3 | c4 => exact rfl); k_whole; intro g' L' h' tk' cells' FG' F' N' Y' B' X' T' l1 KG'; (try k_lt l1); k_cells Y'; (try simp only [List.cons_append, List.nil_append] at N'); (try dsimp only); (try k_lift B'); (try k_fold)))
local macro_rules | `(tactic| k_ne) => `(tactic| ((try dsimp only); first | with_reducible assumption | (refine Ne.symm ?_; with_reducible assumption)))
section
open PySem PySem.W PyProof.Rows PySem.Calls PySem.Spec
set_option maxRecDepth 100000
set_option maxHeartbeats 8000000

/-- what of a lexer over a stream does not turn -/
structure LexS where
  (x dx pb y dy rd pl ypb rc : Nat)
  (H1 H2 H3 H4 G1 G2 G3 G4 G5 : Int)
  (t1 t2 t3 t4 tw u1 u2 u3 u4 u5 un1 uw : Tok)
  (qual sent : Str)
  (rdP : Arguments) (rdB : List Stmt) (rdS : Scope) (rdC : List (Str × Addr))
  (doc pm ctv : Value)
  (aux : List (Addr × Obj))
def LexS.rdO (l : LexS) : Addr × Obj := (l.rd, fnMade "read" l.qual l.rdP l.rdB l.rdS l.rdC l.doc l.pm l.rc l.ctv)
/-- the call read(1) hands on the sign at the place, and the place goes on -/
def LexS.Reads (l : LexS) (prog : Program) (w : World) (p : Program) (loose : List Str) (mean : ExcName → Option Value) (mg mb : Str → Option Value) : Prop :=
  ∀ {dp un : Nat} {gd : Option (List Code)} {cn : Str} {cs : Scope} {a : Addr} {ccd : Value} {cl : List (Str × Addr)} {outer : List Env} {A₀ : Around} {base h₀ : Heap} {L : Addr} {m : Str → Option Value} {s : Shared} {R : Result → Shared → Prop}
  {pos : Int} {tp t : Tok} {c3 : Nat}, Below A₀ base outer h₀ → Fr h₀ L s.heap m → (SW.hd.heap_39 w.params).In h₀ → Top p loose mean mg mb h₀ → cs.kind = .function → dp + 1 < recursionLimit → un + 10 < cLine → CodeHd base 138 134 → 0 ≤ pos → pos ≤ 100000 →
  News h₀ L s.heap ((l.pl, listOf [.int pos tp].toArray c3) :: l.rdO :: l.aux) →
  (∀ tp' t' h' tk', Keep (l.pl :: l.rd :: l.aux.map (·.1)) s.heap h' → Fr h₀ L h' m → News h₀ L h' ((l.pl, listOf [.int (pos + 1) tp'].toArray c3) :: l.rdO :: l.aux) → R (.ok (.ret (.str (Txt.slice l.sent (some pos) (some (pos + 1))) t'))) { s with heap := h', toks := tk' }) →
  codeAny (model prog w) (ktrTop dp un gd cn cs L a ccd cl outer) (.call (.ref l.rd) ⟨[.int 1 t], []⟩) R s
structure LexS.Ok (l : LexS) : Prop where
  hn1 : l.pb ≠ l.dx ∧ l.pb ≠ l.pl ∧ l.dx ≠ l.pl
  hn4 : l.pb ≠ l.x ∧ l.pb ≠ l.y ∧ l.pb ≠ l.dy ∧ l.pb ≠ l.rd
  hn5 : l.dx ≠ l.x ∧ l.dx ≠ l.y ∧ l.dx ≠ l.dy ∧ l.dx ≠ l.rd
  hn6 : l.pl ≠ l.x ∧ l.pl ≠ l.y ∧ l.pl ≠ l.dy ∧ l.pl ≠ l.rd
  hn7 : l.x ≠ l.rd ∧ l.y ≠ l.rd ∧ l.dy ≠ l.rd
  aux : ∀ p ∈ l.aux, (p.1 ≠ l.pl ∧ p.1 ≠ l.pb ∧ p.1 ≠ l.dx) ∧ p.1 ≠ l.x ∧ p.1 ≠ l.y ∧ p.1 ≠ l.dy
  hs : l.sent.length ≤ 1000
/-- the ledger of a lexer: lineno, the words in line, the place in the text -/
def LexS.led (l : LexS) (n : Int) (tn : Tok) (vs : List Value) (c2 : Nat) (pos : Int) (tp : Tok) (c3 : Nat) : List (Addr × Obj) :=
  (l.pb, listOf vs.toArray c2) :: (l.dx, dictOf [⟨l.H1, .str "lineno" l.t1, .int n tn⟩, ⟨l.H2, .str "instream" l.t2, .ref l.y⟩, ⟨l.H3, .str "whitespace" l.t3, .str "\n\t\r " l.tw⟩, ⟨l.H4, .str "pushback" l.t4, .ref l.pb⟩] 4) :: (l.x, instObj 69 l.dx) ::
    (l.y, instObj 69 l.dy) :: (l.dy, dictOf [⟨l.G1, .str "lineno" l.u1, .int 1 l.un1⟩, ⟨l.G2, .str "instream" l.u2, .none⟩, ⟨l.G3, .str "whitespace" l.u3, .str "\n\t\r " l.uw⟩, ⟨l.G4, .str "pushback" l.u4, .ref l.ypb⟩, ⟨l.G5, .str "read" l.u5, .ref l.rd⟩] 5) ::
    (l.pl, listOf [.int pos tp].toArray c3) :: (l.rd, fnMade "read" l.qual l.rdP l.rdB l.rdS l.rdC l.doc l.pm l.rc l.ctv) :: l.aux
def LexS.adr (l : LexS) : List Addr := l.pb :: l.dx :: l.x :: l.y :: l.dy :: l.pl :: l.rd :: l.aux.map (·.1)
theorem eol_pos {x : Str} {n : Int} (h : (x == Str.ofString "\n") = true) : n + 1 = if x = Str.ofString "\n" then n + 1 else n := by rw [if_pos (beq_iff_eq.mp h)]
theorem eol_neg {x : Str} {n : Int} (h : (x == Str.ofString "\n") = false) : n = if x = Str.ofString "\n" then n + 1 else n := by rw [if_neg (fun e => by rw [beq_iff_eq.mpr e] at h; cases h)]
/-- what the call read(1) does where it stands, the ledger's other objects kept -/
theorem rd_use {prog : Program} {w : World} {p : Program} {loose : List Str} {mean : ExcName → Option Value} {mg mb : Str → Option Value}
  {dp un : Nat} {gd : Option (List Code)} {cn : Str} {cs : Scope} {a : Addr} {ccd : Value} {cl : List (Str × Addr)} {outer : List Env} {A₀ : Around} {base h₀ : Heap} {L : Addr} {m : Str → Option Value} {s : Shared}
  (B : Below A₀ base outer h₀) (F : Fr h₀ L s.heap m) (X : (SW.hd.heap_39 w.params).In h₀) (T : Top p loose mean mg mb h₀) (hk : cs.kind = .function)
  {Q E : Value → Shared → Prop} {l : LexS} (rs : l.Reads prog w p loose mean mg mb) (hd : dp + 1 < recursionLimit) (hu : un + 10 < cLine) (CH : CodeHd base 138 134)
  {n pos : Int} {tn tp t : Tok} {vs : List Value} {c2 c3 : Nat} (ok : l.Ok) (hp0 : 0 ≤ pos) (hp1 : pos ≤ 100000) (N : News h₀ L s.heap (l.led n tn vs c2 pos tp c3))
  (ret : ∀ tp' t' h' tk', Fr h₀ L h' m → News h₀ L h' (l.led n tn vs c2 (pos + 1) tp' c3) → Q (.str (Txt.slice l.sent (some pos) (some (pos + 1))) t') { s with heap := h', toks := tk' }) :
  wpAny (model prog w) (ktrTop dp un gd cn cs L a ccd cl outer) (call (.ref l.rd) [.int 1 t]) Q E s := by
  refine wpAny_call (rs B F X T hk hd hu CH hp0 hp1 (tp := tp) (c3 := c3) (fun q hq => N q ?_) ?_)
  · simp only [LexS.led, LexS.rdO, List.mem_cons] at hq ⊢
    rcases hq with h | h | h <;> simp [h]
  · intro tp' t' h' tk' hK F' N'
    refine ret tp' t' h' tk' F' ?_
    intro q hq
    obtain ⟨⟨a1, a2, a3⟩, ⟨b1, b2, b3, b4⟩, ⟨d1, d2, d3, d4⟩, ⟨e1, e2, e3, e4⟩, ⟨f1, f2, f3⟩, hx, _⟩ := ok
    have old : q ∈ l.led n tn vs c2 pos tp c3 → q.1 ∉ (l.pl :: l.rd :: l.aux.map (·.1)) → h'.get? q.1 = some q.2 ∧ q.1 ≠ L ∧ h₀.get? q.1 = none := fun hm hn => ⟨hK _ _ hn (N q hm).1, (N q hm).2⟩
    have nin : ∀ b : Nat, (∀ p ∈ l.aux, p.1 ≠ b) → b ∉ l.aux.map (·.1) := fun b h hb => by
      obtain ⟨p, hp, e⟩ := List.mem_map.mp hb
      exact h p hp e
    simp only [LexS.led, List.mem_cons] at hq
    rcases hq with rfl | rfl | rfl | rfl | rfl | rfl | rfl | hq
    · exact old (by simp [LexS.led]) (by simp only [List.mem_cons, not_or]; exact ⟨a2, b4, nin _ fun p hp => (hx p hp).1.2.1⟩)
    · exact old (by simp [LexS.led]) (by simp only [List.mem_cons, not_or]; exact ⟨a3, d4, nin _ fun p hp => (hx p hp).1.2.2⟩)
    · exact old (by simp [LexS.led]) (by simp only [List.mem_cons, not_or]; exact ⟨Ne.symm e1, f1, nin _ fun p hp => (hx p hp).2.1⟩)
    · exact old (by simp [LexS.led]) (by simp only [List.mem_cons, not_or]; exact ⟨Ne.symm e2, f2, nin _ fun p hp => (hx p hp).2.2.1⟩)
    · exact old (by simp [LexS.led]) (by simp only [List.mem_cons, not_or]; exact ⟨Ne.symm e3, f3, nin _ fun p hp => (hx p hp).2.2.2⟩)
    · exact N' _ (by simp)
    · exact N' _ (by simp [LexS.rdO])
    · exact N' _ (by simp [hq])
local macro_rules | `(tactic| walk_at "call ref") => `(tactic| (k_here; (with_reducible show wpAny _ _ (call (Value.ref (LexS.rd _)) [Value.int _ _]) _ _ _); k_dflt (refine' rd_use ?k1 ?k2 ?k3 ?k4 ?k5 ?rs ?kd ?ku ?CH ?ok ?p0 ?p1 ?N ?_; (case k1 | k2 | k3 | k4 => k_asm); (case k5 => first | exact rfl | assumption); (case rs => assumption); (case kd => ktr_room); (case ku => ktr_units); (case CH | ok => assumption); (case N => k_asm); (case p0 | p1 => assumption); k_whole; intro tp' t' h' tk' F' N'; (try dsimp only [LexS.led] at N'); (try k_sweep))))
theorem rc_code {prog : Program} {w : World} {p : Program} {loose : List Str} {mean : ExcName → Option Value} {mg mb : Str → Option Value}
  {dp un : Nat} {gd : Option (List Code)} {cn : Str} {cs : Scope} {a : Addr} {ccd : Value} {cl : List (Str × Addr)} {outer : List Env} {A₀ : Around} {base h₀ : Heap} {L : Addr} {m : Str → Option Value} {s : Shared}
  (B : Below A₀ base outer h₀) (F : Fr h₀ L s.heap m) (X : (SW.hd.heap_39 w.params).In h₀) (T : Top p loose mean mg mb h₀) (hk : cs.kind = .function)
  {R : Result → Shared → Prop} (hd : dp + 3 < recursionLimit) (hu : un + 20 < cLine) (CH : CodeHd base 138 134)
  (l : LexS) (ok : l.Ok) (rs : l.Reads prog w p loose mean mg mb) {n pos : Int} {tn tp : Tok} {vs : List Value} {c2 c3 : Nat} (hp0 : 0 ≤ pos) (hp1 : pos ≤ 100000)
  (N : News h₀ L s.heap (l.led n tn vs c2 pos tp c3))
  (ret : ∀ n' tn' tp' t' h' tk', n' = (if Txt.slice l.sent (some pos) (some (pos + 1)) = Str.ofString "\n" then n + 1 else n) → Keep l.adr s.heap h' → Fr h₀ L h' m → News h₀ L h' (l.led n' tn' vs c2 (pos + 1) tp' c3) →
    R (.ok (.ret (.str (Txt.slice l.sent (some pos) (some (pos + 1))) t'))) { s with heap := h', toks := tk' }) :
  codeAny (model prog w) (ktrTop dp un gd cn cs L a ccd cl outer) (.call (.ref 52) ⟨[.ref l.x], []⟩) R s := by
  have hadr : (l.led n tn vs c2 pos tp c3).map (·.1) = l.adr := rfl
  obtain ⟨⟨a1, a2, a3⟩, ⟨b1, b2, b3, b4⟩, ⟨d1, d2, d3, d4⟩, ⟨e1, e2, e3, e4⟩, ⟨f1, f2, f3⟩, hx, hs⟩ := id ok
  have hx1 : ∀ p ∈ l.aux, p.1 ≠ l.dx := fun p hp => (hx p hp).1.2.2
  k_dflt (walk_at "SW enterK")
  rename Keep _ _ _ => KG0
  rw [hadr] at KG0
  rename News _ _ _ _ => N0
  dsimp only [LexS.led] at N0
  k_steps
  all_goals (refine ret _ _ _ _ _ _ (by first | exact eol_pos (by assumption) | exact eol_neg (by assumption)) (Keep.then (by assumption) (Fr.keep (by assumption))) (by assumption) (by assumption))
end
section
open PySem PySem.W PyProof.Rows PySem.Calls PySem.Spec
set_option maxRecDepth 100000
theorem slot_ci_iter : Slot "callable_iterator" "__iter__" "callable_iterator.__iter__" :=
  .of (owner := "callable_iterator") (n := "__iter__") (by rw [typeLookup_type, builtinLookup_eq_fast]; kernel_rfl) (by decide +kernel) (by decide +kernel) (by decide +kernel)
    (by first | exact .inl (by decide +kernel) | exact .inr (by decide +kernel)) (by rw [isSubtype_type]; kernel_rfl)
theorem slot_ci_next : Slot "callable_iterator" "__next__" "callable_iterator.__next__" :=
  .of (owner := "callable_iterator") (n := "__next__") (by rw [typeLookup_type, builtinLookup_eq_fast]; kernel_rfl) (by decide +kernel) (by decide +kernel) (by decide +kernel)
    (by first | exact .inl (by decide +kernel) | exact .inr (by decide +kernel)) (by rw [isSubtype_type]; kernel_rfl)
theorem entry_ci_iter : entryFor table "callable_iterator.__iter__" = some Builtin.«dict_keyiterator.__iter__» := entryFor_alias (id' := "dict_keyiterator.__iter__") (by kernel_rfl) rfl (by decide +kernel) (by kernel_rfl)
theorem entry_ci_next : entryFor table "callable_iterator.__next__" = some Builtin.«callable_iterator.__next__» := entryFor_of_tree (by kernel_rfl)
theorem args_ci_iter (a : Value) : argsOk "callable_iterator.__iter__" ⟨[a], []⟩ := by unfold argsOk; kernel_rfl
theorem args_ci_next (a : Value) : argsOk "callable_iterator.__next__" ⟨[a], []⟩ := by unfold argsOk; kernel_rfl
theorem entry_iter : entryFor table "iter" = some Builtin.«iter» := entryFor_of_tree (by kernel_rfl)
theorem kind_iter : builtinKind "iter" = none := by decide +kernel
theorem plain_iter : plainId "iter" = true := by decide +kernel
theorem args_iter (a b : Value) : argsOk "iter" ⟨[a, b], []⟩ := by unfold argsOk; kernel_rfl
theorem meth_call : ∃ v, typeLookup (.type "method") "__call__" = pure (some v) := ⟨.builtin "method.__call__", by rw [typeLookup_type, builtinLookup_eq_fast]; kernel_rfl⟩
abbrev ciObj (q : Addr) (e : Value) : Obj := { cls := .type "callable_iterator", data := .fields #[.ref q, e, .bool false] }
section
variable {prog : Program} {w : World} {A : Around} {E : Value → Shared → Prop} {s : Shared} {h₀ : Heap} {L : Addr} {m : Str → Option Value} {news : List (Addr × Obj)} {q it : Addr} {f self e : Value}
theorem iter_ok {Q : Value → Shared → Prop} (F : Fr h₀ L s.heap m) (N : News h₀ L s.heap news) (hq : (q, methodObj f self) ∈ news)
    (h : ∀ i h', Fr h₀ L h' m → News h₀ L h' ((i, ciObj q e) :: news) → (∀ p ∈ news, p.1 < i) → Q (.ref i) { s with heap := h' }) :
    wpAny (model prog w) A (call (.builtin "iter") [.ref q, e]) Q E s := by
  refine call_function_entry kind_iter plain_iter entry_iter (args_iter _ _) ?_
  obtain ⟨v, hv⟩ := meth_call
  unfold Builtin.«iter»
  refine wpAny_bind (m := someArgs "iter" 1 2 _) (wpAny_of_eq (a := [.ref q, e]) rfl ?_)
  dsimp only
  refine wpAny_bind (m := specialOf (.ref q) "__call__") (wpAny_specialOf (T := "method") ⟨_, (N _ hq).1, rfl⟩ hv ?_)
  refine wpAny_bind (wpAny_rule ?_)
  refine wpAny_bind (m := newFields "callable_iterator" [.ref q, e, .bool false]) (wpAny_newObj_type ?_ (by size_fits))
  exact wpAny_pure ⟨_, rfl, h _ _ (F.push _) (N.push F _) fun p hp => Heap.lt_size (N p hp).1⟩
theorem ci_self {Q : Value → Shared → Prop} (hi : s.heap.get? it = some (ciObj q e)) (h : Q (.ref it) s) : wpAny (model prog w) A (pyIter (.ref it)) Q E s := by
  have hT : s.TypeIs (.ref it) "callable_iterator" := ⟨_, hi, rfl⟩
  refine wpAny_pyIter_slot hT slot_ci_iter (wpAny_call_entry slot_ci_iter hT entry_ci_iter ?_ (args_ci_iter _))
  show wpAny _ _ (ret (.ref it)) _ _ s
  exact wpAny_pure ⟨_, rfl, "callable_iterator", _, hT, slot_ci_next.lookup, h⟩
theorem borrows {oc : Value} {od : Option Addr} {fd : FuncData} {osl : Array (Option Value)} {fa : Addr} {Q : Bool → Shared → Prop} (hq : s.heap.get? q = some (methodObj (.ref fa) self)) (hf : s.heap.get? fa = some ⟨oc, od, .func fd, osl⟩) (h : Q true s) :
    wpAny (model prog w) A (borrowsExactly (.ref q)) Q E s := by
  unfold borrowsExactly
  dsimp only
  refine wpAny_bind (wpAny_load hq ?_)
  dsimp only
  rw [if_pos (by rfl)]
  show wpAny _ _ (do match (← load fa).data with
      | .func _ => pure true
      | _ => pure false) _ _ _
  exact wpAny_bind (wpAny_load hf (wpAny_pure h))
theorem call_borrowed {oc : Value} {od : Option Addr} {fd : FuncData} {osl : Array (Option Value)} {fa : Addr} {Q : Value → Shared → Prop} (hq : s.heap.get? q = some (methodObj (.ref fa) self)) (hf : s.heap.get? fa = some ⟨oc, od, .func fd, osl⟩)
    (h : codeAny (model prog w) (A.mark none) (.call (.ref fa) ⟨[self], []⟩) (fun r s' => match r with | .ok (.ret v) => Q v s' | .ok _ => False | .error e => E e s') s) :
    wpAny (model prog w) A (callOutOfASlot (.ref q) []) Q E s := by
  unfold callOutOfASlot
  refine wpAny_bind (borrows hq hf ?_)
  rw [if_pos rfl]
  unfold callBorrowed
  refine X.x_call (codeAny_mono (method_call hq h) fun r s' hr => ?_) (by intro x; cases x)
  match r, hr with
  | .ok (.ret v), hr => exact wpAny_pure hr
  | .error e, hr => exact fun _ _ _ => hr
theorem next_ok {oc : Value} {od : Option Addr} {fd : FuncData} {osl : Array (Option Value)} {fa : Addr} {ez : Str} {te : Tok} {Q : Option Value → Shared → Prop} (hh : A.handled = none) (hi : s.heap.get? it = some (ciObj q (.str ez te)))
    (hq : s.heap.get? q = some (methodObj (.ref fa) self)) (hf : s.heap.get? fa = some ⟨oc, od, .func fd, osl⟩)
    (h : codeAny (model prog w) (A.in1.mark none) (.call (.ref fa) ⟨[self], []⟩) (fun r s' => ∃ y t, r = .ok (.ret (.str y t)) ∧ s'.heap.get? it = some (ciObj q (.str ez te)) ∧ s'.heap.get? q = some (methodObj (.ref fa) self) ∧ s'.heap.get? fa = some ⟨oc, od, .func fd, osl⟩ ∧
      (y ≠ ez → Q (some (.str y t)) s') ∧ (y = ez → ∀ h', (∀ b o, b ≠ it → s'.heap.get? b = some o → h'.get? b = some o) → Q none { s' with heap := h' })) s) :
    wpAny (model prog w) A (pyNext (.ref it)) Q E s := by
  have hT : s.TypeIs (.ref it) "callable_iterator" := ⟨_, hi, rfl⟩
  unfold pyNext
  refine wpAny_bind (wpAny_attempt (wpAny_callSpecial?_slot (name := Str.ofString "__next__") hT slot_ci_next
    (wpAny_call_entry slot_ci_next hT entry_ci_next ?_ (args_ci_next _))))
  show wpAny _ _ (field (.ref it) 2 >>= _) _ _ s
  refine wpAny_bind (wpAny_field hi rfl (x := .bool false) rfl ?_)
  rw [if_neg (show ¬ ((Value.bool false == Value.bool true) = true) from by decide)]
  refine wpAny_bind (m := field (.ref it) 0) (wpAny_field hi rfl (x := .ref q) rfl ?_)
  refine wpAny_bind (wpAny_attempt (call_borrowed hq hf (codeAny_mono h ?_)))
  rintro r s' ⟨y, t, rfl, hi', hq', hf', hsome, hnone⟩
  dsimp only
  refine wpAny_bind (m := field (.ref it) 2) (wpAny_field hi' rfl (x := .bool false) rfl ?_)
  rw [if_neg (show ¬ ((Value.bool false == Value.bool true) = true) from by decide)]
  refine wpAny_bind (m := field (.ref it) 1) (wpAny_field hi' rfl (x := .str ez te) rfl ?_)
  refine wpAny_bind (wpAny_holding (PySem.wpAny_eqBool_str ?_))
  by_cases he : ez = y
  · rw [decide_eq_true he]
    refine wpAny_bind (wpAny_rule ?_)
    refine wpAny_bind ?_
    show wpAny _ _ (do
      let x ← field (.ref it) 0
      slotLetsGo "callable_iterator.__next__" x fun | .builtin "callable_iterator.__next__" x => x.pos.head? == some (.ref it) | _ => false
      setField (.ref it) 0 .none
      setField (.ref it) 1 .none
      setField (.ref it) 2 (.bool true)) _ _ _
    refine wpAny_bind (m := field (.ref it) 0) (wpAny_field hi' rfl (x := .ref q) rfl ?_)
    refine wpAny_bind (m := slotLetsGo _ _ _) ?_
    unfold slotLetsGo
    dsimp only
    refine wpAny_bind (borrows hq' hf' ?_)
    rw [if_pos rfl]
    refine wpAny_pure ?_
    have keep1 : ∀ (h1 h2 : Heap), Heap.SameBut it h1 h2 → ∀ b o, b ≠ it → h1.get? b = some o → h2.get? b = some o := fun h1 h2 hs b o hb e => (hs.2 b hb).trans e
    refine wpAny_bind (wpAny_setField hi' rfl (by simp) ?_)
    have hi1 := Heap.get?_update_self (Obj.mapFields (·.setIfInBounds 0 Value.none)) hi' rfl
    refine wpAny_bind (wpAny_setField hi1 rfl (by simp) ?_)
    have hi2 := Heap.get?_update_self (Obj.mapFields (·.setIfInBounds 1 Value.none)) hi1 rfl
    refine wpAny_setField hi2 rfl (by simp) ?_
    show wpAny _ _ (newExc (.type "StopIteration") [] >>= _) _ _ _
    refine wpAny_bind ?_
    simp only [newExc, newTuple]
    refine wpAny_bind (wpAny_newObj_type ?_ (by size_fits))
    refine wpAny_bind (m := firstArgMember _ _) (wpAny_of_eq (a := Value.none) (by first | rfl | (simp only [firstArgMember]; rfl)) ?_)
    refine wpAny_newObj_type ?_ (by size_fits)
    simp only [raiseNew]
    refine wpAny_bind (wpAny_handled ?_)
    rw [show A.in1.handled = none from hh]
    refine wpAny_bind (wpAny_pure (wpAny_throw ?_))
    refine wpAny_bind (wpAny_isInstance (T := "StopIteration") (b := true) ⟨_, Heap.get?_push_size _ rfl, rfl⟩ isSubtype_stop ?_)
    refine wpAny_pure (hnone he.symm _ fun b o hb e => ?_)
    exact Heap.get?_push_of_some _ (Heap.get?_push_of_some _ (keep1 _ _ (Heap.SameBut.update ..) b o hb (keep1 _ _ (Heap.SameBut.update ..) b o hb (keep1 _ _ (Heap.SameBut.update ..) b o hb e))))
  · rw [decide_eq_false he]
    show wpAny _ _ (ret (Value.str y t)) _ _ _
    exact wpAny_pure ⟨_, rfl, wpAny_pure (hsome (Ne.symm he))⟩
end
end
section
open PySem PySem.W PyProof.Rows PySem.Calls PySem.Spec
set_option maxRecDepth 100000
set_option maxHeartbeats 4000000
def chOf : List Nat → Str
  | [] => ⟨#[]⟩
  | c :: _ => ⟨#[c]⟩
theorem slice_ch (sent : Str) (k : Nat) : Txt.slice sent (some (k : Int)) (some ((k : Int) + 1)) = chOf (sent.cps.toList.drop k) := by
  have e : ∀ u v, Txt.slice sent u v = StrLaws.sliceText sent u v := fun _ _ => rfl
  rw [e]
  have hl : sent.length = sent.cps.toList.length := by simp [Str.length]
  by_cases h : k < sent.length
  · have := StrLaws.sliceText_nat sent (a := k) (b := k + 1) (by first | with_reducible assumption | decide | omega) (by first | with_reducible assumption | decide | omega)
    rw [Int.natCast_succ] at this
    rw [this, drop_cons (by first | with_reducible assumption | decide | omega)]
    simp [chOf]
  · have h1 : sent.cps.toList.drop k = [] := List.drop_eq_nil_of_le (by first | with_reducible assumption | decide | omega)
    rw [h1]
    unfold StrLaws.sliceText
    have e2 : Builtin.Str.strSliceIndices (some (k : Int)) (some ((k : Int) + 1)) 1 sent.length = [] := by
      have a1 : ¬ ((k : Int) < 0) := by omega
      have a2 : ¬ ((k : Int) + 1 < 0) := by omega
      have a3 : max (0 : Int) (min (k : Int) (sent.length : Int)) = sent.length := by omega
      have a4 : max (0 : Int) (min ((k : Int) + 1) (sent.length : Int)) = sent.length := by omega
      simp [Builtin.Str.strSliceIndices, a1, a2, a3, a4, sliceRange]
    rw [e2]
    split
    · rename_i q
      have : sent.length = 0 := by simp at q; omega
      apply Str.ext'
      show sent.cps = #[]
      exact Array.eq_empty_of_size_eq_zero this
    · rfl
theorem rest_of {T : List Addr} {X X' rest : List (Addr × Obj)} {h₀ h h' : Heap} {L : Addr} (N : News h₀ L h (X ++ rest)) (K : Keep T h h') (hoff : ∀ p ∈ rest, p.1 ∉ T) (N' : News h₀ L h' X') : News h₀ L h' (X' ++ rest) := fun p hp => by
  rcases List.mem_append.mp hp with hp | hp
  · exact N' p hp
  · have z := N p (List.mem_append.mpr (.inr hp))
    exact ⟨K _ _ (hoff p hp) z.1, z.2⟩
theorem news_left {X rest : List (Addr × Obj)} {h₀ h : Heap} {L : Addr} (N : News h₀ L h (X ++ rest)) : News h₀ L h X := fun p hp => N p (List.mem_append.mpr (.inl hp))
theorem news_right {X rest : List (Addr × Obj)} {h₀ h : Heap} {L : Addr} (N : News h₀ L h (X ++ rest)) : News h₀ L h rest := fun p hp => N p (List.mem_append.mpr (.inr hp))
theorem fn52 {P : Params} {h : Heap} (X : (SW.hd.heap_39 P).In h) : ∃ oc od fd osl, h.get? 52 = some ⟨oc, od, .func fd, osl⟩ := ⟨_, _, _, _, X 52 _ (by rfl)⟩
theorem eol_ch {c : Nat} {r : List Nat} : (chOf (c :: r) = Str.ofString "\n") ↔ c = 10 := by
  constructor
  · intro h
    have : (chOf (c :: r)).cps = (Str.ofString "\n").cps := by rw [h]
    rw [show (Str.ofString "\n").cps = #[10] from by decide +kernel] at this
    have e : #[c] = #[10] := this
    simpa using e
  · rintro rfl
    show (⟨#[10]⟩ : Str) = _
    decide +kernel
theorem nl_ne_nil : ¬ ((⟨#[]⟩ : Str) = Str.ofString "\n") := by decide +kernel
/-- one sign more of the lexer's text -/
theorem next_sign {prog : Program} {w : World} {p : Program} {loose : List Str} {mean : ExcName → Option Value} {mg mb : Str → Option Value}
  {dp un : Nat} {gd : Option (List Code)} {cn : Str} {cs : Scope} {a : Addr} {ccd : Value} {cl : List (Str × Addr)} {outer : List Env} {A₀ : Around} {base h₀ : Heap} {L : Addr} {m : Str → Option Value} {s : Shared}
  (B : Below A₀ base outer h₀) (F : Fr h₀ L s.heap m) (X : (SW.hd.heap_39 w.params).In h₀) (T : Top p loose mean mg mb h₀) (hk : cs.kind = .function)
  {Q : Option Value → Shared → Prop} {E : Value → Shared → Prop} (hd : dp + 3 < recursionLimit) (hu : un + 30 < cLine) (CH : CodeHd base 138 134)
  (l : LexS) (ok : l.Ok) (rs : l.Reads prog w p loose mean mg mb) {n : Int} {k : Nat} {tn tp te : Tok} {vs : List Value} {c2 c3 : Nat} (hk1 : k ≤ 100000) {it q : Addr} {rest : List (Addr × Obj)}
  (N : News h₀ L s.heap (l.led n tn vs c2 k tp c3 ++ rest)) (hit : (it, ciObj q (.str ⟨#[]⟩ te)) ∈ rest) (hq : (q, methodObj (.ref 52) (.ref l.x)) ∈ rest) (hoff : ∀ p ∈ rest, p.1 ∉ l.adr) (hiq : it ≠ q)
  (some_ : ∀ c r tn' tp' t' h' tk', l.sent.cps.toList.drop k = c :: r → l.sent.cps.toList.drop (k + 1) = r → Fr h₀ L h' m → News h₀ L h' (l.led (if c = 10 then n + 1 else n) tn' vs c2 (k + 1 : Nat) tp' c3 ++ rest) →
    Q (some (.str ⟨#[c]⟩ t')) { s with heap := h', toks := tk' })
  (none_ : ∀ tn' tp' h' tk', l.sent.cps.toList.drop k = [] → Fr h₀ L h' m → News h₀ L h' (l.led n tn' vs c2 (k + 1 : Nat) tp' c3) → (∀ p ∈ rest, p.1 ≠ it → h'.get? p.1 = some p.2) → Q none { s with heap := h', toks := tk' }) :
  wpAny (model prog w) (ktrTop dp un gd cn cs L a ccd cl outer) (pyNext (.ref it)) Q E s := by
  obtain ⟨oc, od, fd, osl, hf⟩ := fn52 (X.keeps F.keep)
  have hf₀ : ∀ {h'}, Fr h₀ L h' m → h'.get? 52 = some ⟨oc, od, .func fd, osl⟩ := fun F' => by
    obtain ⟨oc', od', fd', osl', hf'⟩ := fn52 X
    have := F.keep _ _ hf'
    rw [hf] at this
    rw [F'.keep _ _ hf', this]
  have Nr := news_right N
  refine next_ok (hh := rfl) (Nr _ hit).1 (Nr _ hq).1 hf ?_
  refine rc_code (un := un + 1) B F X T hk hd (by first | with_reducible assumption | decide | omega) CH l ok rs (Int.natCast_nonneg k) (by first | with_reducible assumption | decide | omega) (news_left N) ?_
  intro n' tn' tp' t' h' tk' hn' hK F' N'
  rw [slice_ch] at hn' ⊢
  have N2 := rest_of N hK hoff N'
  have hi' : h'.get? it = some (ciObj q (.str ⟨#[]⟩ te)) := hK _ _ (hoff _ hit) (Nr _ hit).1
  have hq' : h'.get? q = some (methodObj (.ref 52) (.ref l.x)) := hK _ _ (hoff _ hq) (Nr _ hq).1
  refine ⟨_, _, rfl, hi', hq', hf₀ F', ?_, ?_⟩
  · intro hne
    cases hcs : l.sent.cps.toList.drop k with
    | nil => rw [hcs] at hne; exact absurd rfl hne
    | cons c r =>
      have h2 : l.sent.cps.toList.drop (k + 1) = r := by
        have := congrArg List.tail hcs
        rwa [List.tail_drop] at this
      refine some_ c r tn' tp' t' h' tk' hcs h2 F' ?_
      have e : n' = if c = 10 then n + 1 else n := by
        rw [hn', hcs]
        by_cases hc : c = 10
        · rw [if_pos (eol_ch.mpr hc), if_pos hc]
        · rw [if_neg (fun e => hc (eol_ch.mp e)), if_neg hc]
      rw [← e]
      exact N2
  · intro he h'' hk''
    have hcs : l.sent.cps.toList.drop k = [] := by
      cases hcs : l.sent.cps.toList.drop k with
      | nil => rfl
      | cons c r => rw [hcs] at he; have := congrArg Str.cps he; simp [chOf] at this
    rw [hcs, show chOf [] = (⟨#[]⟩ : Str) from rfl, if_neg nl_ne_nil] at hn'
    subst hn'
    have hit0 : h₀.get? it = none := (Nr _ hit).2.2
    have hitL : it ≠ L := (Nr _ hit).2.1
    refine none_ tn' tp' h'' tk' hcs ⟨F'.ns.at' fun o e => hk'' _ _ (Ne.symm hitL) e, fun b o e => hk'' _ _ (fun q => by rw [q, hit0] at e; cases e) (F'.keep b o e), F'.above⟩ (fun p hp => ?_) ?_
    · have z := N' p hp
      refine ⟨hk'' _ _ (fun q => ?_) z.1, z.2⟩
      have : p.1 ∈ l.adr := by
        have e : ∀ n₁, (l.led n₁ tn' vs c2 ((k : Int) + 1) tp' c3).map (·.1) = l.adr := fun _ => rfl
        exact (e _) ▸ List.mem_map_of_mem hp
      exact hoff _ hit (q ▸ this)
    · intro p hp hne
      exact hk'' _ _ hne (hK _ _ (hoff p hp) (Nr p hp).1)
end
section
open PySem PySem.W PyProof.Rows PySem.Calls PySem.Spec
set_option maxRecDepth 100000
set_option maxHeartbeats 8000000
theorem lex_map {o : Option (Nat × List Nat)} {n n' : Int} {x : Nat × List Nat} (h : o.map (·, n) = some (x, n')) : o = some x ∧ n = n' := by
  cases o with
  | none => cases h
  | some y => cases h; exact ⟨rfl, rfl⟩
structure Held (P : Prop) : Prop where
  out : P
theorem held_turn {M : Model} {A : Around} {E E' : Value → Shared → Prop} {s : Shared} {env : Env} {x : Str} {pos : Pos} {v : Value} {body : List Stmt} {Q : Flow → Shared → Prop}
    (h : wpAny M A (storeName env x v) (fun _ s₂ => wpAny M A (execs body env) (fun f s₃ => Held (Q f s₃)) E s₂) E' s) :
    wpAny M A (assign (.Name x pos) env v) (fun _ s₂ => wpAny M A (execs body env) (fun f s₃ => Q f s₃) E s₂) E' s :=
  wpAny_assign_Name (wpAny_mono h (fun _ _ h' => wpAny_mono h' (fun _ _ h'' => h''.out) fun _ _ e => e) fun _ _ e => e)
theorem in_lit {prog : Program} {w : World} {A : Around} {E : Value → Shared → Prop} {s : Shared} {x y : Str} {t u : Tok} {Q : Value → Shared → Prop} (b : Bool) (hb : (!(Builtin.Str.occurrences y x 0 y.length 1).isEmpty) = b) (h : Q (.bool b) s) :
    wpAny (model prog w) A (compareOp .In (.str x t) (.str y u)) Q E s := in_str (by rw [hb]; exact h)
def dotStr (k : Nat) : Str := ⟨(List.replicate k 46).toArray⟩
theorem dot_succ (k : Nat) : dotStr k ++ Str.ofString "." = dotStr (k + 1) := by
  apply Str.ext'
  rw [Str.cps_append]
  show (List.replicate k 46).toArray ++ (Str.ofString ".").cps = (List.replicate (k + 1) 46).toArray
  rw [show (Str.ofString ".").cps = [46].toArray from by decide +kernel, List.append_toArray, List.replicate_succ']
theorem dot_one : dotStr 1 = Str.ofString "" ++ Str.ofString "." := by decide +kernel
theorem dot_len (k : Nat) : (dotStr k).length = k := by show (List.replicate k 46).toArray.size = k; simp
theorem dot_size {k k2 : Nat} (h : k ≤ k2) (h2 : k2 ≤ 100000) : (dotStr k ++ Str.ofString ".").length ≤ sizeLine := by
  rw [dot_succ, dot_len, sizeLine_eq]; (first | lia | omega)
theorem dot_size2 {k k2 : Nat} (h : k ≤ k2) (h2 : k2 ≤ 100000) : (dotStr k).length + (Str.ofString ".").length ≤ sizeLine := by
  rw [dot_len, sizeLine_eq, show (Str.ofString ".").length = 1 from by decide +kernel]; (first | lia | omega)
def lexC : List Nat → Nat → Option (Nat × List Nat)
  | [], _ => none
  | c :: r, k => if c = 46 then lexC r (k + 1) else if c = 13 then some (k, r) else none
def lexB : List Nat → Nat → Option (Nat × List Nat)
  | [], _ => none
  | c :: r, k => if c = 46 then lexB r (k + 1) else if c = 34 then some (k, r) else none
def lexA : List Nat → Int → Option ((Nat × List Nat) × Int)
  | [], n => some ((0, []), n)
  | c :: r, n => if c = 32 then lexA r n else if c = 13 then lexA r n else if c = 10 then lexA r (n + 1) else if c = 34 then (lexB r 0).map (·, n) else
      if c = 92 then (match r with | d :: r' => if d = 46 then (lexC r' 1).map (·, n) else none | [] => none) else if c = 46 then (lexC r 1).map (·, n) else none
theorem lex_slash {r : List Nat} {nl n₁ : Int} {x : Nat × List Nat} (h : lexA (92 :: r) nl = some (x, n₁)) : ∃ r', r = 46 :: r' ∧ (lexC r' 1).map (·, nl) = some (x, n₁) := by
  cases r with
  | nil => cases h
  | cons d r' =>
    by_cases hd : d = 46
    · subst hd; exact ⟨r', rfl, h⟩
    · have h2 : (if d = 46 then (lexC r' 1).map (·, nl) else none) = some (x, n₁) := h
      rw [if_neg hd] at h2; cases h2
theorem read_dot {prog : Program} {w : World} {p : Program} {loose : List Str} {mean : ExcName → Option Value} {mg mb : Str → Option Value}
  {dp un : Nat} {gd : Option (List Code)} {cn : Str} {cs : Scope} {a : Addr} {ccd : Value} {cl : List (Str × Addr)} {outer : List Env} {A₀ : Around} {base h₀ : Heap} {L : Addr} {m : Str → Option Value} {s : Shared}
  (B : Below A₀ base outer h₀) (F : Fr h₀ L s.heap m) (X : (SW.hd.heap_39 w.params).In h₀) (T : Top p loose mean mg mb h₀) (hk : cs.kind = .function)
  {Q E : Value → Shared → Prop} (hd : dp + 3 < recursionLimit) (hu : un + 30 < cLine) (CH : CodeHd base 138 134)
  {l : LexS} (ok : l.Ok) (rs : l.Reads prog w p loose mean mg mb) {n : Int} {k : Nat} {tn tp : Tok} {vs : List Value} {c2 c3 : Nat} (hk1 : k ≤ 100000) {rest : List (Addr × Obj)} {r : List Nat} (hc : l.sent.cps.toList.drop k = 46 :: r)
  (hoff : ∀ p ∈ rest, p.1 ∉ l.adr)
  (N : News h₀ L s.heap (l.led n tn vs c2 k tp c3 ++ rest))
  (some_ : ∀ tn' tp' t' h' tk', Fr h₀ L h' m → News h₀ L h' (l.led n tn' vs c2 (k + 1 : Nat) tp' c3 ++ rest) →
    Q (.str (Str.ofString ".") t') { s with heap := h', toks := tk' }) :
  wpAny (model prog w) (ktrTop dp un gd cn cs L a ccd cl outer) (call (.ref 52) [.ref l.x]) Q E s := by
  refine wpAny_call ?_
  refine rc_code B F X T hk hd (by first | with_reducible assumption | decide | (first | lia | omega)) CH l ok rs (Int.natCast_nonneg k) (by first | with_reducible assumption | decide | (first | lia | omega)) (news_left N) ?_
  intro n' tn' tp' t' h' tk' hn' hK F' N'
  rw [slice_ch, hc] at hn' ⊢
  rw [show chOf (46 :: r) = Str.ofString "." from by show chOf [46] = _; decide +kernel] at hn' ⊢
  rw [if_neg (by decide +kernel)] at hn'
  subst hn'
  exact some_ tn' tp' t' h' tk' F' (rest_of N hK hoff N')
structure Wait (P : Prop) : Prop where
  mk ::
  it : P
theorem Wait.out {P : Prop} (h : Wait P) : P := h.it
abbrev fm (x it : Nat) (tok : Str) (tt : Tok) (m₀ : Str → Option Value) : Str → Option Value := fun y => if y = Str.ofString "token" then some (.str tok tt) else if y = Str.ofString "fiter" then some (.ref it) else if y = Str.ofString "self" then some (.ref x) else m₀ y
theorem news_comm {X Y : List (Addr × Obj)} {h₀ h : Heap} {L : Addr} (N : News h₀ L h (Y ++ X)) : News h₀ L h (X ++ Y) := fun p hp => N p (List.mem_append.mpr (List.mem_append.mp hp).symm)
theorem off_adr {l : LexS} {b : Nat} (h : l.pb < b ∧ l.dx < b ∧ l.x < b ∧ l.y < b ∧ l.dy < b ∧ l.pl < b ∧ l.rd < b ∧ AllLt b l.aux) : b ∉ l.adr := by
  obtain ⟨h1, h2, h3, h4, h5, h6, h7, h8⟩ := h
  intro hb
  simp only [LexS.adr, List.mem_cons] at hb
  rcases hb with e | e | e | e | e | e | e | hb
  · exact Nat.lt_irrefl _ (e ▸ h1)
  · exact Nat.lt_irrefl _ (e ▸ h2)
  · exact Nat.lt_irrefl _ (e ▸ h3)
  · exact Nat.lt_irrefl _ (e ▸ h4)
  · exact Nat.lt_irrefl _ (e ▸ h5)
  · exact Nat.lt_irrefl _ (e ▸ h6)
  · exact Nat.lt_irrefl _ (e ▸ h7)
  · obtain ⟨p, hp, e⟩ := List.mem_map.mp hb
    exact Nat.lt_irrefl _ (e ▸ kst_ltOf h8 p hp)
theorem fm_of {x it : Nat} {tok : Str} {tt : Tok} {M : Str → Option Value} (h1 : M (Str.ofString "token") = some (.str tok tt)) (h2 : M (Str.ofString "fiter") = some (.ref it)) (h3 : M (Str.ofString "self") = some (.ref x)) : M = fm x it tok tt M := by
  funext y
  show M y = if y = Str.ofString "token" then some (.str tok tt) else if y = Str.ofString "fiter" then some (.ref it) else if y = Str.ofString "self" then some (.ref x) else M y
  by_cases a : y = Str.ofString "token"
  · rw [if_pos a, a, h1]
  · rw [if_neg a]
    by_cases b : y = Str.ofString "fiter"
    · rw [if_pos b, b, h2]
    · rw [if_neg b]
      by_cases c : y = Str.ofString "self"
      · rw [if_pos c, c, h3]
      · rw [if_neg c]
theorem fr_fm {g h : Heap} {L : Addr} {M : Str → Option Value} {x it : Nat} {tok : Str} {tt : Tok} (F : Fr g L h M) (h1 : M (Str.ofString "token") = some (.str tok tt)) (h2 : M (Str.ofString "fiter") = some (.ref it)) (h3 : M (Str.ofString "self") = some (.ref x)) :
    ∃ tt m₀, Fr g L h (fm x it tok tt m₀) := ⟨tt, M, (fm_of h1 h2 h3) ▸ F⟩

local macro_rules | `(tactic| walk_at "call builtin:iter") => `(tactic| (k_here; (with_reducible show wpAny _ _ (call (Value.builtin _) [Value.ref _, _]) _ _ _); k_dflt (refine' iter_ok ?k1 ?k2 ?k3 ?_; (case k1 | k2 => k_asm); (case k3 => k_mem); k_whole; intro i' h' F' N' l1; (try k_lt l1); (try k_sweep))))
local macro_rules | `(tactic| walk_at "inplaceOp Add str str") => `(tactic| (k_here; (refine iadd_str ?_ (by assumption)); intro _ _))
local macro_rules | `(tactic| walk_at "compareOp In str str") => `(tactic| (k_here; first | refine in_lit true (by decide +kernel) ?_ | refine in_lit false (by decide +kernel) ?_))
local macro_rules | `(tactic| walk_at "exec For Name Name cons nil") => `(tactic| (k_here; refine wpAny_For ?_))
local macro_rules | `(tactic| walk_at "call ref") => `(tactic| (k_here; refine Wait.out ?_))
local macro_rules | `(tactic| walk_at "pyIter ref") => `(tactic| (k_here; (refine' ci_self (News.get ?k1 ?k2) ?_; (case k1 => k_asm); (case k2 => k_mem)); (try dsimp only)))

local macro_rules | `(tactic| walk_at "execs cons") => `(tactic| (k_here; k_fold; walk_at "execs cons"))
theorem gt_code {prog : Program} {w : World} {p : Program} {loose : List Str} {mean : ExcName → Option Value} {mg mb : Str → Option Value}
  {dp un : Nat} {gd : Option (List Code)} {cn : Str} {cs : Scope} {a : Addr} {ccd : Value} {cl : List (Str × Addr)} {outer : List Env} {A₀ : Around} {base h₀ : Heap} {L : Addr} {m : Str → Option Value} {s : Shared}
  (B : Below A₀ base outer h₀) (F : Fr h₀ L s.heap m) (X : (SW.hd.heap_39 w.params).In h₀) (T : Top p loose mean mg mb h₀) (hk : cs.kind = .function)
  {R : Result → Shared → Prop} (hd : dp + 6 < recursionLimit) (hu : un + 60 < cLine) (CH : CodeHd base 138 134)
  (l : LexS) (ok : l.Ok) (rs : l.Reads prog w p loose mean mg mb) {n : Int} {k : Nat} {tn tp : Tok} {c2 c3 : Nat} (hk1 : k + (l.sent.cps.toList.drop k).length + 1 ≤ 100000)
  {K : Nat} {Rr : List Nat} {n₁ : Int} (hres : lexA (l.sent.cps.toList.drop k) n = some ((K, Rr), n₁))
  (N : News h₀ L s.heap (l.led n tn [] c2 k tp c3))
  (ret : ∀ k' tn' tp' t' h' tk', l.sent.cps.toList.drop k' = Rr → k' + Rr.length ≤ k + (l.sent.cps.toList.drop k).length + 1 → Keep l.adr s.heap h' → Fr h₀ L h' m → News h₀ L h' (l.led n₁ tn' [] c2 (k' : Nat) tp' c3) →
    R (.ok (.ret (.str (dotStr K) t'))) { s with heap := h', toks := tk' }) :
  codeAny (model prog w) (ktrTop dp un gd cn cs L a ccd cl outer) (.call (.ref 59) ⟨[.ref l.x], []⟩) R s := by
  have hadr : ∀ n tn vs c2 pos tp c3, (l.led n tn vs c2 pos tp c3).map (·.1) = l.adr := fun _ _ _ _ _ _ _ => rfl
  obtain ⟨⟨a1, a2, a3⟩, ⟨b1, b2, b3, b4⟩, ⟨d1, d2, d3, d4⟩, ⟨e1, e2, e3, e4⟩, ⟨f1, f2, f3⟩, hx, hs⟩ := id ok
  have hx1 : ∀ p ∈ l.aux, p.1 ≠ l.dx := fun p hp => (hx p hp).1.2.2
  k_dflt (walk_at "SW enterK")
  rename Keep _ _ _ => KG0
  rw [hadr] at KG0
  rename News _ _ _ _ => N0
  dsimp only [LexS.led] at N0
  k_steps
  rename_i q1 hA lq i1 hB li hC F1 N1
  rename Below _ _ _ _ => B1
  rename Frag.In _ _ => X1
  rename Top _ _ _ _ _ _ => T1
  have hE : Str.ofString "" = (⟨#[]⟩ : Str) := by decide +kernel
  rw [hE] at N1 F1
  have hqi := li.1
  replace li := li.2
  have hof : ∀ te, ∀ p ∈ [((i1 : Addr), ciObj q1 (.str ⟨#[]⟩ te)), (q1, methodObj (.ref 52) (.ref l.x))], p.1 ∉ l.adr := fun te p hp => by
    rcases List.mem_cons.mp hp with rfl | hp
    · exact off_adr li
    · rw [List.mem_singleton.mp hp]; exact off_adr lq
  have N2 := news_comm (X := l.led n tn [] c2 k tp c3) (Y := [((i1 : Addr), ciObj q1 (.str ⟨#[]⟩ _)), (q1, methodObj (.ref 52) (.ref l.x))]) N1
  clear N1
  obtain ⟨tt0, m1, F2⟩ := fr_fm F1 rfl rfl rfl
  clear F1
  obtain ⟨J1, mkJ1, elJ1⟩ : ∃ J1 : Nat → Shared → Prop, (∀ (N' : Nat) (k' : Nat) (cs : List Nat) (nl : Int) (tn' tp' tt : Tok) (h : Heap) (tk : Nat) (m₀ : Str → Option Value), (l.sent.cps.toList.drop k' = cs) → (cs.length = N') → (k' + cs.length ≤ k + (l.sent.cps.toList.drop k).length) → (lexA cs nl = some ((K, Rr), n₁)) → (Fr _ _ h (fm l.x i1 ⟨#[]⟩ tt m₀)) → (News _ _ h (l.led nl tn' [] c2 k' tp' c3 ++ [((i1 : Addr), ciObj q1 (.str ⟨#[]⟩ _)), (q1, methodObj (.ref 52) (.ref l.x))])) → J1 N' { s with heap := h, toks := tk }) ∧ (∀ (N' : Nat) (s' : Shared), J1 N' s' → ∃ (k' : Nat) (cs : List Nat) (nl : Int) (tn' tp' tt : Tok) (h : Heap) (tk : Nat) (m₀ : Str → Option Value), s' = { s with heap := h, toks := tk } ∧ l.sent.cps.toList.drop k' = cs ∧ cs.length = N' ∧ k' + cs.length ≤ k + (l.sent.cps.toList.drop k).length ∧
    lexA cs nl = some ((K, Rr), n₁) ∧ Fr _ _ h (fm l.x i1 ⟨#[]⟩ tt m₀) ∧ News _ _ h (l.led nl tn' [] c2 k' tp' c3 ++ [((i1 : Addr), ciObj q1 (.str ⟨#[]⟩ _)), (q1, methodObj (.ref 52) (.ref l.x))])) := ⟨fun N' s' => ∃ (k' : Nat) (cs : List Nat) (nl : Int) (tn' tp' tt : Tok) (h : Heap) (tk : Nat) (m₀ : Str → Option Value), s' = { s with heap := h, toks := tk } ∧ l.sent.cps.toList.drop k' = cs ∧ cs.length = N' ∧ k' + cs.length ≤ k + (l.sent.cps.toList.drop k).length ∧
    lexA cs nl = some ((K, Rr), n₁) ∧ Fr _ _ h (fm l.x i1 ⟨#[]⟩ tt m₀) ∧ News _ _ h (l.led nl tn' [] c2 k' tp' c3 ++ [((i1 : Addr), ciObj q1 (.str ⟨#[]⟩ _)), (q1, methodObj (.ref 52) (.ref l.x))]), fun _ k' cs nl tn' tp' tt h tk m₀ hC2 hC3 hC4 hC5 hC6 hC7 => ⟨k', cs, nl, tn', tp', tt, h, tk, m₀, rfl, hC2, hC3, hC4, hC5, hC6, hC7⟩, fun _ _ h => h⟩
  refine codeAny_forLoop J1 ?turn _ (mkJ1 _ k _ n tn tp tt0 _ _ m1 rfl rfl (Nat.le_refl _) hres F2 N2)
  case turn =>
    clear F2 N2
    intro N' s' hInv0
    k_fold
    obtain ⟨k', cs1, nl, tn1, tp1, tt1, h1, tk1, m2, rfl, hcs, hN, hb, hlx, F3, N3⟩ := elJ1 _ _ hInv0
    clear hInv0
    have hiq : i1 ≠ q1 := Nat.ne_of_gt hqi
    refine next_sign (dp := dp + 1) (un := un + 3) B1 F3 X1 T1 rfl (by first | with_reducible assumption | decide | (first | lia | omega)) (by first | with_reducible assumption | decide | (first | lia | omega)) CH l ok rs (k := k') (by first | with_reducible assumption | decide | (first | lia | omega)) N3 (.head _) (.tail _ (.head _)) (hof _) hiq ?sm ?nn
    case nn =>
      intro tn' tp' h' tk' hnil F4 N4 hkeep
      clear F3 N3
      rw [← hcs, hnil] at hlx
      cases hlx
      dsimp only [LexS.led] at N4
      (try dsimp only [fm] at F4)
      k_steps
      refine ret (k' + 1) _ _ _ _ _ (by rw [← List.tail_drop, hnil]; rfl) (by simp only [List.length_nil]; (first | lia | omega)) (Keep.then KG0 (Fr.keep F4)) (by assumption) (by assumption)
    case sm =>
      intro c r tn' tp' t' h' tk' hc1 hc2 F4 N4
      clear F3 N3
      rw [← hcs, hc1] at hlx
      rw [← hcs, hc1] at hb
      k_unfold
      try dsimp only
      refine held_turn ?_
      k_fold
      (try dsimp only [fm] at F4)
      have hlen : N' = r.length + 1 := by rw [← hN, ← hcs, hc1]; rfl
      by_cases h32 : c = 32
      · subst h32
        rw [if_neg (by decide)] at N4
        have hlx : lexA r nl = some ((K, Rr), n₁) := hlx
        dsimp only [LexS.led, List.cons_append] at N4
        rw [show ((⟨#[32]⟩ : Str)) = Str.ofString " " from by decide +kernel]
        k_steps
        try dsimp only
        obtain ⟨tt2, m3, F5⟩ := fr_fm (x := l.x) (it := i1) (tok := ⟨#[]⟩) (by assumption) rfl rfl rfl
        refine Held.mk ⟨r.length, by (first | lia | omega), mkJ1 _ (k' + 1) r nl tn' tp' tt2 _ _ m3 hc2 rfl (by simp only [List.length_cons] at hb; (first | lia | omega)) hlx F5 (by assumption)⟩
      by_cases h13 : c = 13
      · subst h13
        rw [if_neg (by decide)] at N4
        have hlx : lexA r nl = some ((K, Rr), n₁) := hlx
        dsimp only [LexS.led, List.cons_append] at N4
        rw [show ((⟨#[13]⟩ : Str)) = Str.ofString "\r" from by decide +kernel]
        k_steps
        try dsimp only
        obtain ⟨tt2, m3, F5⟩ := fr_fm (x := l.x) (it := i1) (tok := ⟨#[]⟩) (by assumption) rfl rfl rfl
        refine Held.mk ⟨r.length, by (first | lia | omega), mkJ1 _ (k' + 1) r nl tn' tp' tt2 _ _ m3 hc2 rfl (by simp only [List.length_cons] at hb; (first | lia | omega)) hlx F5 (by assumption)⟩
      by_cases h10 : c = 10
      · subst h10
        rw [if_pos rfl] at N4
        have hlx : lexA r (nl + 1) = some ((K, Rr), n₁) := hlx
        dsimp only [LexS.led, List.cons_append] at N4
        rw [show ((⟨#[10]⟩ : Str)) = Str.ofString "\n" from by decide +kernel]
        k_steps
        try dsimp only
        obtain ⟨tt2, m3, F5⟩ := fr_fm (x := l.x) (it := i1) (tok := ⟨#[]⟩) (by assumption) rfl rfl rfl
        refine Held.mk ⟨r.length, by (first | lia | omega), mkJ1 _ (k' + 1) r (nl + 1) tn' tp' tt2 _ _ m3 hc2 rfl (by simp only [List.length_cons] at hb; (first | lia | omega)) hlx F5 (by assumption)⟩
      by_cases h34 : c = 34
      · subst h34
        rw [if_neg (by decide)] at N4
        have hlx : (lexB r 0).map (·, nl) = some ((K, Rr), n₁) := hlx
        obtain ⟨hly, rfl⟩ := lex_map hlx
        dsimp only [LexS.led, List.cons_append] at N4
        rw [show ((⟨#[34]⟩ : Str)) = Str.ofString "\"" from by decide +kernel]
        k_steps
        (try clear N4)
        (try clear F4)
        rename News _ _ _ _ => N5
        rename Fr _ _ _ _ => F5
        obtain ⟨tt2, m3, F6⟩ := fr_fm (x := l.x) (it := i1) (tok := dotStr 0) F5 rfl rfl rfl
        clear F5
        refine ci_self (News.get N5 (.tail _ (.tail _ (.tail _ (.tail _ (.tail _ (.tail _ (.tail _ (List.mem_append_right _ (.head _)))))))))) ?_
        obtain ⟨J2, mkJ2, elJ2⟩ : ∃ J2 : Nat → Shared → Prop, (∀ (M' : Nat) (k2 kd : Nat) (cs2 : List Nat) (tn' tp' tt : Tok) (h : Heap) (tk : Nat) (m₀ : Str → Option Value), (l.sent.cps.toList.drop k2 = cs2) → (cs2.length = M') → (kd ≤ k2) → (k2 + cs2.length ≤ k + (l.sent.cps.toList.drop k).length) → (lexB cs2 kd = some (K, Rr)) → (Fr _ _ h (fm l.x i1 (dotStr kd) tt m₀)) → (News _ _ h (l.led nl tn' [] c2 k2 tp' c3 ++ [((i1 : Addr), ciObj q1 (.str ⟨#[]⟩ _)), (q1, methodObj (.ref 52) (.ref l.x))])) → J2 M' { s with heap := h, toks := tk }) ∧ (∀ (M' : Nat) (s' : Shared), J2 M' s' → ∃ (k2 kd : Nat) (cs2 : List Nat) (tn' tp' tt : Tok) (h : Heap) (tk : Nat) (m₀ : Str → Option Value), s' = { s with heap := h, toks := tk } ∧ l.sent.cps.toList.drop k2 = cs2 ∧ cs2.length = M' ∧ kd ≤ k2 ∧ k2 + cs2.length ≤ k + (l.sent.cps.toList.drop k).length ∧
          lexB cs2 kd = some (K, Rr) ∧ Fr _ _ h (fm l.x i1 (dotStr kd) tt m₀) ∧ News _ _ h (l.led nl tn' [] c2 k2 tp' c3 ++ [((i1 : Addr), ciObj q1 (.str ⟨#[]⟩ _)), (q1, methodObj (.ref 52) (.ref l.x))])) := ⟨fun M' s' => ∃ (k2 kd : Nat) (cs2 : List Nat) (tn' tp' tt : Tok) (h : Heap) (tk : Nat) (m₀ : Str → Option Value), s' = { s with heap := h, toks := tk } ∧ l.sent.cps.toList.drop k2 = cs2 ∧ cs2.length = M' ∧ kd ≤ k2 ∧ k2 + cs2.length ≤ k + (l.sent.cps.toList.drop k).length ∧
          lexB cs2 kd = some (K, Rr) ∧ Fr _ _ h (fm l.x i1 (dotStr kd) tt m₀) ∧ News _ _ h (l.led nl tn' [] c2 k2 tp' c3 ++ [((i1 : Addr), ciObj q1 (.str ⟨#[]⟩ _)), (q1, methodObj (.ref 52) (.ref l.x))]), fun _ k2 kd cs2 tn' tp' tt h tk m₀ hC2 hC3 hC4 hC5 hC6 hC7 hC8 => ⟨k2, kd, cs2, tn', tp', tt, h, tk, m₀, rfl, hC2, hC3, hC4, hC5, hC6, hC7, hC8⟩, fun _ _ h => h⟩
        refine codeAny_forLoop J2 ?_ _ (mkJ2 _ (k' + 1) 0 r _ _ tt2 _ _ m3 hc2 rfl (by first | with_reducible assumption | decide | (first | lia | omega)) (by simp only [List.length_cons] at hb; (first | lia | omega)) hly F6 N5)
        clear F6 N5
        intro M' s' hInv0
        k_fold
        obtain ⟨k2, kd, cs2, tn2, tp2, tt3, h2, tk2, m4, rfl, hcs2, hM, hkd, hb2, hlx2, F7, N7⟩ := elJ2 _ _ hInv0
        clear hInv0
        refine next_sign (dp := dp + 1) (un := un + 3) B1 F7 X1 T1 rfl (by first | with_reducible assumption | decide | (first | lia | omega)) (by first | with_reducible assumption | decide | (first | lia | omega)) CH l ok rs (k := k2) (by first | with_reducible assumption | decide | (first | lia | omega)) N7 (.head _) (.tail _ (.head _)) (hof _) hiq ?sm ?nn
        case nn =>
          intro tn' tp' h' tk' hnil F4 N4 hkeep
          rw [← hcs2, hnil] at hlx2
          cases hlx2
        case sm =>
          intro c r tn' tp' t' h' tk' hc1 hc2 F4 N4
          clear F7 N7
          rw [← hcs2, hc1] at hlx2
          rw [← hcs2, hc1] at hb2
          k_unfold
          try dsimp only
          refine held_turn ?_
          k_fold
          (try dsimp only [fm] at F4)
          have hlen : M' = r.length + 1 := by rw [← hM, ← hcs2, hc1]; rfl
          have hkb : k2 ≤ 100000 := by (first | lia | omega)
          by_cases h46 : c = 46
          · subst h46
            rw [if_neg (by decide)] at N4
            have hlx2 : lexB r (kd + 1) = some (K, Rr) := hlx2
            dsimp only [LexS.led, List.cons_append] at N4
            rw [show ((⟨#[46]⟩ : Str)) = Str.ofString "." from by decide +kernel]
            have hsz : (dotStr kd).length + (Str.ofString ".").length ≤ sizeLine := dot_size2 hkd hkb
            k_steps
            try dsimp only
            obtain ⟨tt4, m5, F8⟩ := fr_fm (x := l.x) (it := i1) (tok := dotStr kd ++ Str.ofString ".") (by assumption) rfl rfl rfl
            rw [dot_succ] at F8
            refine Held.mk ⟨r.length, by (first | lia | omega), mkJ2 _ (k2 + 1) (kd + 1) r tn' tp' tt4 _ _ m5 hc2 rfl (by first | with_reducible assumption | decide | (first | lia | omega)) (by simp only [List.length_cons] at hb2; (first | lia | omega)) hlx2 F8 (by assumption)⟩
          by_cases hq : c = 34
          · subst hq
            rw [if_neg (by decide)] at N4
            have hlx2 : some (kd, r) = some (K, Rr) := hlx2
            cases hlx2
            dsimp only [LexS.led, List.cons_append] at N4
            rw [show ((⟨#[34]⟩ : Str)) = Str.ofString "\"" from by decide +kernel]
            k_steps
            (try dsimp only)
            refine Held.mk ?_
            (try dsimp only)
            refine Held.mk ?_
            (try dsimp only)
            rename News _ _ _ _ => N8
            replace N8 := news_left (X := l.led nl tn' [] c2 ((k2 + 1 : Nat) : Int) tp' c3) (rest := [((i1 : Addr), ciObj q1 (.str ⟨#[]⟩ _)), (q1, methodObj (.ref 52) (.ref l.x))]) N8
            dsimp only [LexS.led] at N8
            k_steps
            refine ret (k2 + 1) _ _ _ _ _ hc2 (by simp only [List.length_cons] at hb2; (first | lia | omega)) (Keep.then KG0 (Fr.keep (by assumption))) (by assumption) (by assumption)
          exfalso
          unfold lexB at hlx2
          rw [if_neg h46, if_neg hq] at hlx2
          cases hlx2
      by_cases h46 : c = 46
      · subst h46
        rw [if_neg (by decide)] at N4
        have hlx : (lexC r 1).map (·, nl) = some ((K, Rr), n₁) := hlx
        obtain ⟨hly, rfl⟩ := lex_map hlx
        dsimp only [LexS.led, List.cons_append] at N4
        rw [show ((⟨#[46]⟩ : Str)) = Str.ofString "." from by decide +kernel]
        k_steps
        (try clear N4)
        (try clear F4)
        rename News _ _ _ _ => N5
        rename Fr _ _ _ _ => F5
        obtain ⟨tt2, m3, F6⟩ := fr_fm (x := l.x) (it := i1) (tok := dotStr 1) F5 (by rw [dot_one]; rfl) rfl rfl
        clear F5
        refine ci_self (News.get N5 (.tail _ (.tail _ (.tail _ (.tail _ (.tail _ (.tail _ (.tail _ (List.mem_append_right _ (.head _)))))))))) ?_
        obtain ⟨J3, mkJ3, elJ3⟩ : ∃ J3 : Nat → Shared → Prop, (∀ (M' : Nat) (k2 kd : Nat) (cs2 : List Nat) (tn' tp' tt : Tok) (h : Heap) (tk : Nat) (m₀ : Str → Option Value), (l.sent.cps.toList.drop k2 = cs2) → (cs2.length = M') → (kd ≤ k2) → (k2 + cs2.length ≤ k + (l.sent.cps.toList.drop k).length) → (lexC cs2 kd = some (K, Rr)) → (Fr _ _ h (fm l.x i1 (dotStr kd) tt m₀)) → (News _ _ h (l.led nl tn' [] c2 k2 tp' c3 ++ [((i1 : Addr), ciObj q1 (.str ⟨#[]⟩ _)), (q1, methodObj (.ref 52) (.ref l.x))])) → J3 M' { s with heap := h, toks := tk }) ∧ (∀ (M' : Nat) (s' : Shared), J3 M' s' → ∃ (k2 kd : Nat) (cs2 : List Nat) (tn' tp' tt : Tok) (h : Heap) (tk : Nat) (m₀ : Str → Option Value), s' = { s with heap := h, toks := tk } ∧ l.sent.cps.toList.drop k2 = cs2 ∧ cs2.length = M' ∧ kd ≤ k2 ∧ k2 + cs2.length ≤ k + (l.sent.cps.toList.drop k).length ∧
          lexC cs2 kd = some (K, Rr) ∧ Fr _ _ h (fm l.x i1 (dotStr kd) tt m₀) ∧ News _ _ h (l.led nl tn' [] c2 k2 tp' c3 ++ [((i1 : Addr), ciObj q1 (.str ⟨#[]⟩ _)), (q1, methodObj (.ref 52) (.ref l.x))])) := ⟨fun M' s' => ∃ (k2 kd : Nat) (cs2 : List Nat) (tn' tp' tt : Tok) (h : Heap) (tk : Nat) (m₀ : Str → Option Value), s' = { s with heap := h, toks := tk } ∧ l.sent.cps.toList.drop k2 = cs2 ∧ cs2.length = M' ∧ kd ≤ k2 ∧ k2 + cs2.length ≤ k + (l.sent.cps.toList.drop k).length ∧
          lexC cs2 kd = some (K, Rr) ∧ Fr _ _ h (fm l.x i1 (dotStr kd) tt m₀) ∧ News _ _ h (l.led nl tn' [] c2 k2 tp' c3 ++ [((i1 : Addr), ciObj q1 (.str ⟨#[]⟩ _)), (q1, methodObj (.ref 52) (.ref l.x))]), fun _ k2 kd cs2 tn' tp' tt h tk m₀ hC2 hC3 hC4 hC5 hC6 hC7 hC8 => ⟨k2, kd, cs2, tn', tp', tt, h, tk, m₀, rfl, hC2, hC3, hC4, hC5, hC6, hC7, hC8⟩, fun _ _ h => h⟩
        refine codeAny_forLoop J3 ?_ _ (mkJ3 _ (k' + 1) 1 r _ _ tt2 _ _ m3 hc2 rfl (by first | with_reducible assumption | decide | (first | lia | omega)) (by simp only [List.length_cons] at hb; (first | lia | omega)) hly F6 N5)
        clear F6 N5
        intro M' s' hInv0
        k_fold
        obtain ⟨k2, kd, cs2, tn2, tp2, tt3, h2, tk2, m4, rfl, hcs2, hM, hkd, hb2, hlx2, F7, N7⟩ := elJ3 _ _ hInv0
        clear hInv0
        refine next_sign (dp := dp + 1) (un := un + 3) B1 F7 X1 T1 rfl (by first | with_reducible assumption | decide | (first | lia | omega)) (by first | with_reducible assumption | decide | (first | lia | omega)) CH l ok rs (k := k2) (by first | with_reducible assumption | decide | (first | lia | omega)) N7 (.head _) (.tail _ (.head _)) (hof _) hiq ?sm ?nn
        case nn =>
          intro tn' tp' h' tk' hnil F4 N4 hkeep
          rw [← hcs2, hnil] at hlx2
          cases hlx2
        case sm =>
          intro c r tn' tp' t' h' tk' hc1 hc2 F4 N4
          clear F7 N7
          rw [← hcs2, hc1] at hlx2
          rw [← hcs2, hc1] at hb2
          k_unfold
          try dsimp only
          refine held_turn ?_
          k_fold
          (try dsimp only [fm] at F4)
          have hlen : M' = r.length + 1 := by rw [← hM, ← hcs2, hc1]; rfl
          have hkb : k2 ≤ 100000 := by (first | lia | omega)
          by_cases h46 : c = 46
          · subst h46
            rw [if_neg (by decide)] at N4
            have hlx2 : lexC r (kd + 1) = some (K, Rr) := hlx2
            dsimp only [LexS.led, List.cons_append] at N4
            rw [show ((⟨#[46]⟩ : Str)) = Str.ofString "." from by decide +kernel]
            have hsz : (dotStr kd).length + (Str.ofString ".").length ≤ sizeLine := dot_size2 hkd hkb
            k_steps
            try dsimp only
            obtain ⟨tt4, m5, F8⟩ := fr_fm (x := l.x) (it := i1) (tok := dotStr kd ++ Str.ofString ".") (by assumption) rfl rfl rfl
            rw [dot_succ] at F8
            refine Held.mk ⟨r.length, by (first | lia | omega), mkJ3 _ (k2 + 1) (kd + 1) r tn' tp' tt4 _ _ m5 hc2 rfl (by first | with_reducible assumption | decide | (first | lia | omega)) (by simp only [List.length_cons] at hb2; (first | lia | omega)) hlx2 F8 (by assumption)⟩
          by_cases hq : c = 13
          · subst hq
            rw [if_neg (by decide)] at N4
            have hlx2 : some (kd, r) = some (K, Rr) := hlx2
            cases hlx2
            dsimp only [LexS.led, List.cons_append] at N4
            rw [show ((⟨#[13]⟩ : Str)) = Str.ofString "\r" from by decide +kernel]
            k_steps
            (try dsimp only)
            refine Held.mk ?_
            (try dsimp only)
            refine Held.mk ?_
            (try dsimp only)
            rename News _ _ _ _ => N8
            replace N8 := news_left (X := l.led nl tn' [] c2 ((k2 + 1 : Nat) : Int) tp' c3) (rest := [((i1 : Addr), ciObj q1 (.str ⟨#[]⟩ _)), (q1, methodObj (.ref 52) (.ref l.x))]) N8
            dsimp only [LexS.led] at N8
            k_steps
            refine ret (k2 + 1) _ _ _ _ _ hc2 (by simp only [List.length_cons] at hb2; (first | lia | omega)) (Keep.then KG0 (Fr.keep (by assumption))) (by assumption) (by assumption)
          exfalso
          unfold lexC at hlx2
          rw [if_neg h46, if_neg hq] at hlx2
          cases hlx2
      by_cases h92 : c = 92
      · subst h92
        rw [if_neg (by decide)] at N4
        obtain ⟨r', rfl, hly⟩ := lex_slash hlx
        obtain ⟨hlz, rfl⟩ := lex_map hly
        have hc3 : l.sent.cps.toList.drop (k' + 1 + 1) = r' := by rw [← List.tail_drop, hc2]; rfl
        have hk2 : k' + 1 ≤ 100000 := by simp only [List.length_cons] at hb; (first | lia | omega)
        have hof2 := hof
        dsimp only [LexS.led, List.cons_append] at N4
        rw [show ((⟨#[92]⟩ : Str)) = Str.ofString "\\" from by decide +kernel]
        k_steps
        refine Wait.mk ?_
        rename News _ _ _ _ => N4
        rename Fr _ _ _ _ => F4
        refine read_dot (dp := dp + 1) (un := un + 3) B1 F4 X1 T1 rfl (by first | with_reducible assumption | decide | (first | lia | omega)) (by first | with_reducible assumption | decide | (first | lia | omega)) CH (l := l) ok rs (k := k' + 1) hk2 hc2 (hof _) (rest := [((i1 : Addr), ciObj q1 (.str ⟨#[]⟩ _)), (q1, methodObj (.ref 52) (.ref l.x))]) N4 ?_
        intro tn' tp' t' h' tk' F5 N5
        clear N4 F4
        dsimp only [LexS.led, List.cons_append] at N5
        k_steps
        (try clear N4)
        (try clear F4)
        rename News _ _ _ _ => N5
        rename Fr _ _ _ _ => F5
        obtain ⟨tt2, m3, F6⟩ := fr_fm (x := l.x) (it := i1) (tok := dotStr 1) F5 (by rw [dot_one]; rfl) rfl rfl
        clear F5
        refine ci_self (News.get N5 (.tail _ (.tail _ (.tail _ (.tail _ (.tail _ (.tail _ (.tail _ (List.mem_append_right _ (.head _)))))))))) ?_
        obtain ⟨J4, mkJ4, elJ4⟩ : ∃ J4 : Nat → Shared → Prop, (∀ (M' : Nat) (k2 kd : Nat) (cs2 : List Nat) (tn' tp' tt : Tok) (h : Heap) (tk : Nat) (m₀ : Str → Option Value), (l.sent.cps.toList.drop k2 = cs2) → (cs2.length = M') → (kd ≤ k2) → (k2 + cs2.length ≤ k + (l.sent.cps.toList.drop k).length) → (lexC cs2 kd = some (K, Rr)) → (Fr _ _ h (fm l.x i1 (dotStr kd) tt m₀)) → (News _ _ h (l.led nl tn' [] c2 k2 tp' c3 ++ [((i1 : Addr), ciObj q1 (.str ⟨#[]⟩ _)), (q1, methodObj (.ref 52) (.ref l.x))])) → J4 M' { s with heap := h, toks := tk }) ∧ (∀ (M' : Nat) (s' : Shared), J4 M' s' → ∃ (k2 kd : Nat) (cs2 : List Nat) (tn' tp' tt : Tok) (h : Heap) (tk : Nat) (m₀ : Str → Option Value), s' = { s with heap := h, toks := tk } ∧ l.sent.cps.toList.drop k2 = cs2 ∧ cs2.length = M' ∧ kd ≤ k2 ∧ k2 + cs2.length ≤ k + (l.sent.cps.toList.drop k).length ∧
          lexC cs2 kd = some (K, Rr) ∧ Fr _ _ h (fm l.x i1 (dotStr kd) tt m₀) ∧ News _ _ h (l.led nl tn' [] c2 k2 tp' c3 ++ [((i1 : Addr), ciObj q1 (.str ⟨#[]⟩ _)), (q1, methodObj (.ref 52) (.ref l.x))])) := ⟨fun M' s' => ∃ (k2 kd : Nat) (cs2 : List Nat) (tn' tp' tt : Tok) (h : Heap) (tk : Nat) (m₀ : Str → Option Value), s' = { s with heap := h, toks := tk } ∧ l.sent.cps.toList.drop k2 = cs2 ∧ cs2.length = M' ∧ kd ≤ k2 ∧ k2 + cs2.length ≤ k + (l.sent.cps.toList.drop k).length ∧
          lexC cs2 kd = some (K, Rr) ∧ Fr _ _ h (fm l.x i1 (dotStr kd) tt m₀) ∧ News _ _ h (l.led nl tn' [] c2 k2 tp' c3 ++ [((i1 : Addr), ciObj q1 (.str ⟨#[]⟩ _)), (q1, methodObj (.ref 52) (.ref l.x))]), fun _ k2 kd cs2 tn' tp' tt h tk m₀ hC2 hC3 hC4 hC5 hC6 hC7 hC8 => ⟨k2, kd, cs2, tn', tp', tt, h, tk, m₀, rfl, hC2, hC3, hC4, hC5, hC6, hC7, hC8⟩, fun _ _ h => h⟩
        refine codeAny_forLoop J4 ?_ _ (mkJ4 _ (k' + 1 + 1) 1 r' _ _ tt2 _ _ m3 hc3 rfl (by first | with_reducible assumption | decide | (first | lia | omega)) (by simp only [List.length_cons] at hb; (first | lia | omega)) hlz F6 N5)
        clear F6 N5
        intro M' s' hInv0
        k_fold
        obtain ⟨k2, kd, cs2, tn2, tp2, tt3, h2, tk2, m4, rfl, hcs2, hM, hkd, hb2, hlx2, F7, N7⟩ := elJ4 _ _ hInv0
        clear hInv0
        refine next_sign (dp := dp + 1) (un := un + 3) B1 F7 X1 T1 rfl (by first | with_reducible assumption | decide | (first | lia | omega)) (by first | with_reducible assumption | decide | (first | lia | omega)) CH l ok rs (k := k2) (by first | with_reducible assumption | decide | (first | lia | omega)) N7 (.head _) (.tail _ (.head _)) (hof _) hiq ?sm ?nn
        case nn =>
          intro tn' tp' h' tk' hnil F4 N4 hkeep
          rw [← hcs2, hnil] at hlx2
          cases hlx2
        case sm =>
          intro c r tn' tp' t' h' tk' hc1 hc2 F4 N4
          clear F7 N7
          rw [← hcs2, hc1] at hlx2
          rw [← hcs2, hc1] at hb2
          k_unfold
          try dsimp only
          refine held_turn ?_
          k_fold
          (try dsimp only [fm] at F4)
          have hlen : M' = r.length + 1 := by rw [← hM, ← hcs2, hc1]; rfl
          have hkb : k2 ≤ 100000 := by (first | lia | omega)
          by_cases h46 : c = 46
          · subst h46
            rw [if_neg (by decide)] at N4
            have hlx2 : lexC r (kd + 1) = some (K, Rr) := hlx2
            dsimp only [LexS.led, List.cons_append] at N4
            rw [show ((⟨#[46]⟩ : Str)) = Str.ofString "." from by decide +kernel]
            have hsz : (dotStr kd).length + (Str.ofString ".").length ≤ sizeLine := dot_size2 hkd hkb
            k_steps
            try dsimp only
            obtain ⟨tt4, m5, F8⟩ := fr_fm (x := l.x) (it := i1) (tok := dotStr kd ++ Str.ofString ".") (by assumption) rfl rfl rfl
            rw [dot_succ] at F8
            refine Held.mk ⟨r.length, by (first | lia | omega), mkJ4 _ (k2 + 1) (kd + 1) r tn' tp' tt4 _ _ m5 hc2 rfl (by first | with_reducible assumption | decide | (first | lia | omega)) (by simp only [List.length_cons] at hb2; (first | lia | omega)) hlx2 F8 (by assumption)⟩
          by_cases hq : c = 13
          · subst hq
            rw [if_neg (by decide)] at N4
            have hlx2 : some (kd, r) = some (K, Rr) := hlx2
            cases hlx2
            dsimp only [LexS.led, List.cons_append] at N4
            rw [show ((⟨#[13]⟩ : Str)) = Str.ofString "\r" from by decide +kernel]
            k_steps
            (try dsimp only)
            refine Held.mk ?_
            (try dsimp only)
            refine Held.mk ?_
            (try dsimp only)
            rename News _ _ _ _ => N8
            replace N8 := news_left (X := l.led nl tn' [] c2 ((k2 + 1 : Nat) : Int) tp' c3) (rest := [((i1 : Addr), ciObj q1 (.str ⟨#[]⟩ _)), (q1, methodObj (.ref 52) (.ref l.x))]) N8
            dsimp only [LexS.led] at N8
            k_steps
            refine ret (k2 + 1) _ _ _ _ _ hc2 (by simp only [List.length_cons] at hb2; (first | lia | omega)) (Keep.then KG0 (Fr.keep (by assumption))) (by assumption) (by assumption)
          exfalso
          unfold lexC at hlx2
          rw [if_neg h46, if_neg hq] at hlx2
          cases hlx2
      exfalso
      unfold lexA at hlx
      rw [if_neg h32, if_neg h13, if_neg h10, if_neg h34, if_neg h92, if_neg h46] at hlx
      cases hlx
end
section
open PySem PySem.W PyProof.Rows PySem.Calls PySem.Spec PyProof
set_option maxRecDepth 100000
section
variable {prog : Program} {w : World} {A : Around} {E : Value → Shared → Prop} {s : Shared} {h₀ : Heap} {L : Addr} {m : Str → Option Value} {news : List (Addr × Obj)}
theorem kept_but {h h' : Heap} {I : Addr} (F : Fr h₀ L h m) (N : News h₀ L h news) (hI : h₀.get? I = none ∧ I ≠ L) (hoff : ∀ p ∈ news, p.1 ≠ I) (hk : ∀ b o, b ≠ I → h.get? b = some o → h'.get? b = some o) : Fr h₀ L h' m ∧ News h₀ L h' news :=
  ⟨⟨F.ns.at' fun o e => hk _ _ (Ne.symm hI.2) e, fun b o e => hk _ _ (fun q => by rw [q, hI.1] at e; cases e) (F.keep b o e), F.above⟩, fun p hp => ⟨hk _ _ (hoff p hp) (N p hp).1, (N p hp).2⟩⟩
theorem iter_rangeF {r : Addr} {a b : Int} {t u v : Tok} {n : Nat} {Q : Value → Shared → Prop} (hr : IsRange s.heap r a b 1 t u v) (hn : (b - a).toNat = n) (ha : 0 ≤ a) (ha' : a < 1000) (hb : 0 ≤ b) (hb' : b < 1000) (F : Fr h₀ L s.heap m) (N : News h₀ L s.heap news)
    (h : ∀ I h', (∀ p ∈ news, p.1 < I) → Fr h₀ L h' m → News h₀ L h' ((I, itR a n) :: news) → (∀ b o, s.heap.get? b = some o → h'.get? b = some o) → Q (.ref I) { s with heap := h' }) : wpAny (model prog w) A (pyIter (.ref r)) Q E s := by
  refine wpAny_pyIter_range hr (small_one (by first | with_reducible assumption | decide | omega) (by first | with_reducible assumption | decide | omega) (by first | with_reducible assumption | decide | omega) (by first | with_reducible assumption | decide | omega)) ?_
  refine h _ _ (fun p hp => Heap.lt_size (N p hp).1) (F.push _) ?_ (fun b o e => Heap.get?_push_of_some _ e)
  have : Builtin.Range.rangeSize a b 1 = (n : Int) := by rw [rangeSize_nat, hn]
  rw [this]
  exact N.push F _
theorem next_rangeF {I : Addr} {x left : Int} {Q : Option Value → Shared → Prop} (hh : A.handled = none) (F : Fr h₀ L s.heap m) (N : News h₀ L s.heap ((I, itR x left) :: news)) (hof : OffI I (itR x left) news)
    (some_ : 0 < left → ∀ t h' tk', Fr h₀ L h' m → News h₀ L h' ((I, itR (x + 1) (left - 1)) :: news) → Q (some (.int x t)) { s with heap := h', toks := tk' })
    (none_ : left ≤ 0 → ∀ h', Fr h₀ L h' m → News h₀ L h' news → Q none { s with heap := h' }) : wpAny (model prog w) A (pyNext (.ref I)) Q E s := by
  have hI := N _ (.head _)
  have hI' : h₀.get? I = none ∧ I ≠ L := ⟨hI.2.2, hI.2.1⟩
  have N1 : News h₀ L s.heap news := fun p hp => N p (.tail _ hp)
  have hoff : ∀ p ∈ news, p.1 ≠ I := fun p hp e => by
    rcases hof.at p hp with h | h
    · exact h e
    · have h1 := (N1 _ hp).1
      have h2 := hI.1
      rw [e] at h1
      exact h (congrArg Obj.cls (Option.some.inj (h1.symm.trans h2)))
  by_cases hl : 0 < left
  · refine wpAny_pyNext_range_item (x := x) (left := left) (step := 1) hI.1 hl fun h' hit hs => ?_
    obtain ⟨F', N'⟩ := kept_but F N1 hI' hoff fun b o hb e => (hs.2 b hb).trans e
    refine some_ hl _ _ _ F' fun p hp => ?_
    rcases List.mem_cons.mp hp with rfl | hp
    · exact ⟨hit, hI.2⟩
    · exact N' p hp
  · refine wpAny_pyNext_range_end (x := x) (left := left) (step := 1) hh hI.1 (by first | with_reducible assumption | decide | omega) fun h' hk => ?_
    obtain ⟨F', N'⟩ := kept_but F N1 hI' hoff fun b o hb e => hk b o hb e
    exact none_ (by first | with_reducible assumption | decide | omega) _ F' N'
end
section
variable {prog : Program} {w : World} {A : Around}
def LoopRest (prog : Program) (w : World) (A : Around) (R : Result → Shared → Prop) (target : Expr) (it : Value) (body orelse : List Stmt) (env : Env) : Nat → Shared → Prop
  | 0, s => wpAny (model prog w) A (pyNext it) (fun r s₁ => match r with
      | none => wpAny (model prog w) A (execs orelse env) (fun f s₃ => R (.ok f) s₃) (notedBy (model prog w) A env fun e s' => R (.error e) s') s₁
      | some _ => False) (notedBy (model prog w) A env fun e s' => R (.error e) s') s
  | k + 1, s => wpAny (model prog w) A (pyNext it) (fun r s₁ => match r with
      | none => wpAny (model prog w) A (execs orelse env) (fun f s₃ => R (.ok f) s₃) (notedBy (model prog w) A env fun e s' => R (.error e) s') s₁
      | some v => wpAny (model prog w) A (assign target env v) (fun _ s₂ => wpAny (model prog w) A (execs body env) (fun f s₃ => match f with
          | .next | .cont => LoopRest prog w A R target it body orelse env k s₃
          | .brk => R (.ok .next) s₃
          | .ret v => R (.ok (.ret v)) s₃) (notedBy (model prog w) A env fun e s' => R (.error e) s') s₂) (notedBy (model prog w) A env fun e s' => R (.error e) s') s₁) (notedBy (model prog w) A env fun e s' => R (.error e) s') s
theorem forLoop_rest {R : Result → Shared → Prop} {target : Expr} {it : Value} {body orelse : List Stmt} {env : Env} {s : Shared} (n : Nat) (h : LoopRest prog w A R target it body orelse env n s) (ht : ∀ v, letOwnedTupleGo target it v = pure () := by intro _; rfl) :
    codeAny (model prog w) A (.forLoop target it body orelse env) R s := by
  refine codeAny_forLoop (fun n s => LoopRest prog w A R target it body orelse env n s) (fun n s h => ?_) n h ht
  cases n with
  | zero =>
    refine wpAny_mono h (fun r s₁ h₁ => ?_) fun _ _ e => e
    cases r with
    | none => exact h₁
    | some v => exact h₁.elim
  | succ k =>
    refine wpAny_mono h (fun r s₁ h₁ => ?_) fun _ _ e => e
    cases r with
    | none => exact h₁
    | some v =>
      refine wpAny_mono h₁ (fun _ s₂ h₂ => ?_) fun _ _ e => e
      refine wpAny_mono h₂ (fun f s₃ h₃ => ?_) fun _ _ e => e
      cases f with
      | next => exact ⟨k, Nat.lt_succ_self k, h₃⟩
      | cont => exact ⟨k, Nat.lt_succ_self k, h₃⟩
      | brk => exact h₃
      | ret v => exact h₃
end
end
section
open PySem PySem.W PyProof.Rows PySem.Calls PySem.Spec
set_option maxRecDepth 100000
set_option maxHeartbeats 8000000
local macro_rules | `(tactic| walk_at "exec For Name Call cons nil") => `(tactic| (k_here; refine wpAny_For ?_))
local macro_rules | `(tactic| walk_at "pyIter ref") => `(tactic| (k_here; (rename IsRange _ _ _ _ _ _ _ _ => lR'); (rename Fr _ _ _ _ => lF'); (rename News _ _ _ _ => lN'); (refine iter_rangeF lR' rfl (by first | decide | omega) (by first | decide | omega) (by first | decide | omega) (by first | decide | omega) lF' lN' ?_); clear lF' lN'; intro i' h' l1 F' N' K'; (try k_lt l1); (try k_sweep)))
inductive Unr : Prop where | mk
structure Off {α : Sort _} (a b : α) : Prop where
  ne : a ≠ b
local macro_rules | `(tactic| walk_at "SW flat") => `(tactic| (repeat (rename And _ _ => hA'; obtain ⟨hA1', hA2'⟩ := hA')))
local macro_rules | `(tactic| walk_at "SW hide1") => `(tactic| ((first | rename @Ne Nat _ _ => hN' | rename @Ne Addr _ _ => hN'); have hO' := Off.mk hN'; clear hN'))
local macro_rules | `(tactic| walk_at "SW hide") => `(tactic| (walk_at "SW flat"; walk_at "SW hide1"; (repeat walk_at "SW hide1")))
local macro_rules | `(tactic| walk_at "SW off") => `(tactic| first | (refine Off.ne ?_; with_reducible assumption) | (refine Ne.symm (Off.ne ?_); with_reducible assumption))
local macro_rules | `(tactic| k_ne) => `(tactic| ((try dsimp only); first
  | with_reducible assumption
  | (refine Ne.symm ?_; with_reducible assumption)
  | walk_at "SW off"
  | (walk_at "SW flat"; first
     | with_reducible assumption | (refine Ne.symm ?_; with_reducible assumption)
     | (refine Nat.ne_of_lt ?_; with_reducible assumption) | (refine Nat.ne_of_gt ?_; with_reducible assumption)
     | ((repeat (rename Ne _ _ => hN'; clear hN')); (first | lia | omega)))))
local macro_rules | `(tactic| walk_at "eval BinOp") => `(tactic| (k_here; (rename Unr => lU'); walk_at "SW hide"; walk_at "eval BinOp"))
local macro_rules | `(tactic| walk_at "CompEnd") => `(tactic| (k_here; (rename Unr => lU'); walk_at "SW hide"; walk_at "CompEnd"))
def shareF (g ls : List Int) (i k' : Int) : Int := ((if k' < i then k' else i) * ((g.length : Int) + 1 - if k' > i then k' else i)) * (g.getD (k' - 1).toNat 0 - ls.getD (k' - 1).toNat 0)
def gaveAt (g ls : List Int) (i : Int) : Int := (List.map (shareF g ls i) (rangeKs 1 ((g.length : Int) + 1 - 1).toNat)).sum.fdiv ((g.length : Int) + 1)
def leftF (g : List Int) : List Int := (rangeKs 0 ((g.length : Int) - 0).toNat).map fun k' => if k' + 1 = ((((g.length : Int) * ((g.length : Int) + 1)).fdiv 2 - ((rangeKs 0 ((g.length : Int) - 0).toNat).map fun k' => (k' + 1) * g.getD k'.toNat 0).sum).fmod ((g.length : Int) + 1)) then 0 else 1
def gavesF (g ls : List Int) : List Int := (List.range g.length).map fun a : Nat => gaveAt g ls (1 + (a : Int))
theorem put_eq {M : Str → Option Value} {x : Str} {v : Option Value} (hx : M x = v) : M = (fun y => if y = x then v else M y) := by
  funext y
  by_cases e : y = x
  · rw [if_pos e, e, hx]
  · rw [if_neg e]
theorem fr_put {g h : Heap} {L : Addr} {M : Str → Option Value} {x : Str} {v : Option Value} (F : Fr g L h M) (hx : M x = v) : ∃ m₀ : Str → Option Value, Fr g L h (fun y => if y = x then v else m₀ y) :=
  ⟨M, (put_eq hx) ▸ F⟩
theorem gave_succ {g ls : List Int} {j : Nat} {arr : List Value} {t : Tok} (h : IntsAre arr ((List.range j).map fun a : Nat => gaveAt g ls (1 + (a : Int)))) : IntsAre (arr ++ [.int (gaveAt g ls (1 + (j : Int))) t]) ((List.range (j + 1)).map fun a : Nat => gaveAt g ls (1 + (a : Int))) := by
  rw [List.range_succ, List.map_append]
  exact IntsAre.append h (by constructor; constructor)
local macro_rules | `(tactic| size_fits) => `(tactic| ((rename Unr => lU'); assumption))
theorem mul_small {x y z : Int} (hx : 0 ≤ x) (hx' : x ≤ 5) (hy : 0 ≤ y) (hy' : y ≤ 5) : IntMulOk (x * y) z := by
  have h1 : 0 ≤ x * y := Int.mul_nonneg hx hy
  have h2 : x * y ≤ 5 * 5 := Int.mul_le_mul hx' hy' hy (by decide)
  exact PySem.IntMulOk.of_left (PySem.intBits_le_64 (by first | with_reducible assumption | decide | (first | lia | omega)) (by first | with_reducible assumption | decide | (first | lia | omega)))
local macro_rules | `(tactic| mul_fits) => `(tactic| ((rename Unr => lU'); (refine mul_small ?_ ?_ ?_ ?_ <;> ((repeat' split) <;> omega))))
theorem rest_it (n : Nat) : itR 1 ((((n : Int) + 1 - 1).toNat : Nat) : Int) = itR (1 + ((0 : Nat) : Int)) ((n : Int) - ((0 : Nat) : Int)) := by
  rw [show (1 : Int) + ((0 : Nat) : Int) = 1 from rfl, show ((((n : Int) + 1 - 1).toNat : Nat) : Int) = (n : Int) - ((0 : Nat) : Int) from by (first | lia | omega)]

local macro_rules | `(tactic| walk_at "execs cons") => `(tactic| (k_here; k_fold; walk_at "execs cons"))
theorem rest_code {prog : Program} {w : World} {p : Program} {loose : List Str} {mean : ExcName → Option Value} {mg mb : Str → Option Value}
  {dp un : Nat} {gd : Option (List Code)} {cn : Str} {cs : Scope} {a : Addr} {ccd : Value} {cl : List (Str × Addr)} {outer : List Env} {A₀ : Around} {base h₀ : Heap} {L : Addr} {m : Str → Option Value} {s : Shared}
  (B : Below A₀ base outer h₀) (F : Fr h₀ L s.heap m) (X : (SW.hd.heap_39 w.params).In h₀) (T : Top p loose mean mg mb h₀) (hk : cs.kind = .function) {R : Result → Shared → Prop} (hd : dp + 20 < recursionLimit) (hu : un + 100 < cLine) (CH : CodeHd base 138 134)
  {gl : Addr} {vs : List Value} {g : List Int} (hI : IntsAre vs g) (hn1 : 2 ≤ vs.length) (hn2 : vs.length ≤ 4) (hl9 : vs.length = g.length)
  (N : News h₀ L s.heap [(gl, LCg.lst vs)])
  (ret : ∀ tp gv lf ys arr c h' tk', IntsAre ys (leftF g) → IntsAre arr (gavesF g (leftF g)) → (∀ b o, s.heap.get? b = some o → b ≠ tp ∧ b ≠ gv ∧ b ≠ lf) → Keep [gl] s.heap h' → Fr h₀ L h' m →
    News h₀ L h' [(tp, { cls := .type "tuple", data := .seq #[.ref lf, .ref gv] 0 }), (gv, W.listOf arr.toArray c), (lf, LCg.lst ys), (gl, LCg.lst vs)] → R (.ok (.ret (.ref tp))) { s with heap := h', toks := tk' }) :
  codeAny (model prog w) (ktrTop dp un gd cn cs L a ccd cl outer) (.call (.ref 163) ⟨[.ref gl], []⟩) R s := by
  k_dflt (walk_at "SW enterKC")
  rename_i g0 L0 h00 tk00 FG0 F0 B0 X0 T0 KG0 ll0 oI oL oB oS oG dI dL dB dS dG N0
  replace dG : oG.data = .cell (some (.ref gl)) := dG
  replace dI : oI.data = .cell none := dI
  have hgt1 : ((((g.length : Int) - 0).toNat : Nat) : Int) = (g.length : Int) := by (first | lia | omega)
  have hgt2 : ((((g.length : Int) + 1 - 1).toNat : Nat) : Int) = (g.length : Int) := by (first | lia | omega)
  k_steps
  rename_i oSz dSz x1 x2 x3 x4 x5 x6 x7 x8 x9 g1 y1 hY1 hZ1 D1 x10 x11 q1 x12 x13 x14 x15 x16 x17 oBr dBr x18 x19 x20 x21 x22 x23 x24 x25 hk1 g2 hY hZ Dl h5 tk5 o1 h4 oLf dLf tk1 gv h3 l11 h2 h1 tk0 t1 u1 v1 lR aa i1 hh F1 N1 K1 l1
  rw [rest_it] at N1
  have N2 : News g0 L0 hh [(i1, itR (1 + ((0 : Nat) : Int)) ((g.length : Int) - ((0 : Nat) : Int))), (gv, W.listOf #[] 0), (Dl, LCg.lst ys), (L0 + 1 + 1 + 1 + 1 + 1, oI), (L0 + 1 + 1 + 1 + 1, oLf), (L0 + 1 + 1, oSz), (L0 + 1, oG), (gl, LCg.lst vs)] := fun p hp => N1 p (SubL.mem (by k_subL) p hp)
  obtain ⟨ls, hls, hYs⟩ : ∃ ls : List Int, Held (ls = leftF g) ∧ IntsAre ys ls := ⟨_, ⟨rfl⟩, hY⟩
  have hlen : ls.length = g.length := by rw [hls.out, leftF, List.length_map, rangeKs_length]; (first | lia | omega)
  have hlen2 := hYs.length
  clear hY hZ dL dB dS oL oB oS dBr hZ1 hY1 N1 x25 x24 x8 x7 K1 lR aa
  walk_at "SW flat"
  obtain ⟨J1, mkJ1, elJ1⟩ : ∃ J1 : Nat → Shared → Prop, (∀ (k : Nat) (j : Nat) (arr : List Value) (c : Nat) (oi : Obj) (vi : Option Value) (h : Heap) (tk : Nat) (m₀ : Str → Option Value), (j + k = g.length) → (IntsAre arr ((List.range j).map fun a : Nat => gaveAt g ls (1 + (a : Int)))) → (oi.data = .cell vi) → (Fr _ _ h (fun y => if y = Str.ofString "gave" then some (.ref gv) else m₀ y)) → (News g0 L0 h [(i1, itR (1 + (j : Int)) ((g.length : Int) - (j : Int))), (gv, W.listOf arr.toArray c), (Dl, LCg.lst ys), (L0 + 1 + 1 + 1 + 1 + 1, oi), (L0 + 1 + 1 + 1 + 1, oLf), (L0 + 1 + 1, oSz), (L0 + 1, oG), (gl, LCg.lst vs)]) → J1 k { s with heap := h, toks := tk }) ∧ (∀ (k : Nat) (s' : Shared), J1 k s' → ∃ (j : Nat) (arr : List Value) (c : Nat) (oi : Obj) (vi : Option Value) (h : Heap) (tk : Nat) (m₀ : Str → Option Value), s' = { s with heap := h, toks := tk } ∧ j + k = g.length ∧ IntsAre arr ((List.range j).map fun a : Nat => gaveAt g ls (1 + (a : Int))) ∧ oi.data = .cell vi ∧
     Fr _ _ h (fun y => if y = Str.ofString "gave" then some (.ref gv) else m₀ y) ∧ News g0 L0 h [(i1, itR (1 + (j : Int)) ((g.length : Int) - (j : Int))), (gv, W.listOf arr.toArray c), (Dl, LCg.lst ys), (L0 + 1 + 1 + 1 + 1 + 1, oi), (L0 + 1 + 1 + 1 + 1, oLf), (L0 + 1 + 1, oSz), (L0 + 1, oG), (gl, LCg.lst vs)]) := ⟨fun k s' => ∃ (j : Nat) (arr : List Value) (c : Nat) (oi : Obj) (vi : Option Value) (h : Heap) (tk : Nat) (m₀ : Str → Option Value), s' = { s with heap := h, toks := tk } ∧ j + k = g.length ∧ IntsAre arr ((List.range j).map fun a : Nat => gaveAt g ls (1 + (a : Int))) ∧ oi.data = .cell vi ∧
     Fr _ _ h (fun y => if y = Str.ofString "gave" then some (.ref gv) else m₀ y) ∧ News g0 L0 h [(i1, itR (1 + (j : Int)) ((g.length : Int) - (j : Int))), (gv, W.listOf arr.toArray c), (Dl, LCg.lst ys), (L0 + 1 + 1 + 1 + 1 + 1, oi), (L0 + 1 + 1 + 1 + 1, oLf), (L0 + 1 + 1, oSz), (L0 + 1, oG), (gl, LCg.lst vs)], fun _ j arr c oi vi h tk m₀ hC2 hC3 hC4 hC5 hC6 => ⟨j, arr, c, oi, vi, h, tk, m₀, rfl, hC2, hC3, hC4, hC5, hC6⟩, fun _ _ h => h⟩
  refine codeAny_forLoop J1 ?turn g.length (mkJ1 _ 0 ([]) 0 _ _ _ _ _ (Nat.zero_add _) .nil dI F1 N2)
  clear F1 N2
  intro k s' hInv0
  k_fold
  obtain ⟨j, arr, c, oi, vi, h, tk, m₀, rfl, hjk, hgs, hoi, F3, N3⟩ := elJ1 _ _ hInv0
  clear hInv0
  refine next_rangeF rfl F3 N3 (by k_offL) ?some ?none
  case none =>
    intro hle h' F4 N4
    clear F3 N3
    k_unfold
    try dsimp only
    have hj : j = g.length := by (first | lia | omega)
    subst hj
    k_steps
    rename_i tp h9 F9 N9 l9 F8 N8 T8 X8
    have hnew : ∀ b o, s.heap.get? b = some o → b ≠ tp ∧ b ≠ gv ∧ b ≠ Dl := fun b o e => by
      by_cases hb : b = gl
      · subst hb; refine ⟨?_, ?_, ?_⟩ <;> k_ne
      · have e0 : g0.get? b = some o := KG0 b o (fun hm => hb (List.mem_singleton.mp hm)) e
        refine ⟨fun q => ?_, fun q => ?_, fun q => ?_⟩ <;> (subst q)
        · exact absurd ((N9 _ (.head _)).2.2.symm.trans e0) (by simp)
        · exact absurd ((N9 _ (.tail _ (.head _))).2.2.symm.trans e0) (by simp)
        · exact absurd ((N9 _ (.tail _ (.tail _ (.head _)))).2.2.symm.trans e0) (by simp)
    rw [hls.out] at hYs
    rw [hls.out] at hgs
    exact ret tp gv Dl ys arr c h9 _ hYs hgs hnew (Keep.then KG0 (Fr.keep F9)) F8 (fun p hp => N8 p (SubL.mem (by k_subL) p hp))
  case some =>
    intro hlt t h' tk' F4 N4
    clear F3 N3
    k_unfold
    try dsimp only
    refine held_turn ?_
    have hU := Unr.mk
    have harr : arr.toArray.size ≤ sizeLine := by rw [sizeLine_eq, List.size_toArray, hgs.length, List.length_map, List.length_range]; (first | lia | omega)
    k_steps
    rename News _ _ _ _ => N5
    rename Fr _ _ _ _ => F5
    rename Obj.data _ = Data.cell _ => dI5
    obtain ⟨m₅, F6⟩ := fr_put (x := Str.ofString "gave") F5 rfl
    try dsimp only
    have N6 : News g0 L0 _ [(_, _), (i1, _), (gv, W.listOf (arr.toArray.push (.int (gaveAt g ls (1 + (j : Int))) _)) (c + 1)), (Dl, _), (_, _), (_, _), (_, _), (_, _), (_, _)] := N5
    rw [List.push_toArray] at N6
    refine Held.mk ⟨k - 1, by (first | lia | omega), mkJ1 _ (j + 1) _ (c + 1) _ _ _ _ m₅ (by first | with_reducible assumption | decide | (first | lia | omega)) (gave_succ (t := ?tt) hgs) dI5 F6 ?nw⟩
    case nw =>
     rw [show (1 : Int) + ((j + 1 : Nat) : Int) = 1 + (j : Int) + 1 from by (first | lia | omega), show (g.length : Int) - ((j + 1 : Nat) : Int) = (g.length : Int) - (j : Int) - 1 from by (first | lia | omega)]
     exact fun p hp => N6 p (SubL.mem (by k_subL) p hp)
end
section
open PySem PySem.W PyProof.Rows PySem.Calls PySem.Spec
set_option maxRecDepth 100000
set_option maxHeartbeats 8000000
theorem idx0 {v : Value} {vs : List Value} : seqIndex? 0 (v :: vs).toArray.size = some 0 := by
  unfold seqIndex?
  rw [List.size_toArray, List.length_cons]
  simp
local macro_rules | `(tactic| walk_at "call builtin:list.pop") => `(tactic| (k_here; k_dflt ((with_reducible show wpAny _ _ (call (Value.builtin _) [Value.ref _, Value.int _ _]) _ _ _); refine' kl_popAt (k := 0) (p := []) ?F ?N ?f ?k ?e ?U ?z ?_; (case F | N => k_asm); (case f => rfl); (case k => exact idx0); (case e => rfl); (case U => k_upd); (case z => (show (_ :: _).length ≤ _; rw [sizeLine_eq, List.length_cons]; omega))); (intro h' F' N'; (try dsimp only [List.nil_append, List.cons_append] at N'))))
local macro_rules | `(tactic| size_fits) => `(tactic| ((rw [sizeLine_eq, List.size_toArray]); (try simp only [List.length_cons]); omega))
theorem pt_code {prog : Program} {w : World} {p : Program} {loose : List Str} {mean : ExcName → Option Value} {mg mb : Str → Option Value}
  {dp un : Nat} {gd : Option (List Code)} {cn : Str} {cs : Scope} {a : Addr} {ccd : Value} {cl : List (Str × Addr)} {outer : List Env} {A₀ : Around} {base h₀ : Heap} {L : Addr} {m : Str → Option Value} {s : Shared}
  (B : Below A₀ base outer h₀) (F : Fr h₀ L s.heap m) (X : (SW.hd.heap_39 w.params).In h₀) (T : Top p loose mean mg mb h₀) (hk : cs.kind = .function)
  {R : Result → Shared → Prop} (hd : dp + 2 < recursionLimit) (hu : un + 20 < cLine)
  (l : LexS) (ok : l.Ok) {n pos : Int} {tn tp : Tok} {vs : List Value} {c2 c3 : Nat} {v : Value} (hv : vs.length ≤ 1000)
  (N : News h₀ L s.heap (l.led n tn (vs) c2 pos tp c3))
  (ret : ∀ c' h' tk', Keep l.adr s.heap h' → Fr h₀ L h' m → News h₀ L h' (l.led n tn (vs ++ [v]) c' pos tp c3) → R (.ok (.ret .none)) { s with heap := h', toks := tk' }) :
  codeAny (model prog w) (ktrTop dp un gd cn cs L a ccd cl outer) (.call (.ref 66) ⟨[.ref l.x, v], []⟩) R s := by
  have hadr : (l.led n tn (vs) c2 pos tp c3).map (·.1) = l.adr := rfl
  obtain ⟨⟨a1, a2, a3⟩, ⟨b1, b2, b3, b4⟩, ⟨d1, d2, d3, d4⟩, ⟨e1, e2, e3, e4⟩, ⟨f1, f2, f3⟩, hx, hs⟩ := id ok
  have hx1 : ∀ p ∈ l.aux, p.1 ≠ l.pb := fun p hp => (hx p hp).1.2.1
  have hx2 : ∀ p ∈ l.aux, p.1 ≠ l.dx := fun p hp => (hx p hp).1.2.2
  k_dflt (walk_at "SW enterK")
  rename_i g0 L0 h00 FG0 F0 N0 B0 X0 T0 KG0
  rw [hadr] at KG0
  dsimp only [LexS.led] at N0
  k_steps
  rename Fr g0 _ _ _ => F9
  rename Fr h₀ L _ _ => F8
  rename News h₀ L _ _ => N8
  rename Fr h₀ L _ _ => F8
  rename News h₀ L _ _ => N8
  refine ret (c2 + 1) _ _ (Keep.then KG0 (Fr.keep F9)) F8 ?_
  · unfold LexS.led
    rw [show (vs ++ [v]).toArray = vs.toArray.push v from (List.push_toArray ..).symm]
    exact N8
theorem gp_code {prog : Program} {w : World} {p : Program} {loose : List Str} {mean : ExcName → Option Value} {mg mb : Str → Option Value}
  {dp un : Nat} {gd : Option (List Code)} {cn : Str} {cs : Scope} {a : Addr} {ccd : Value} {cl : List (Str × Addr)} {outer : List Env} {A₀ : Around} {base h₀ : Heap} {L : Addr} {m : Str → Option Value} {s : Shared}
  (B : Below A₀ base outer h₀) (F : Fr h₀ L s.heap m) (X : (SW.hd.heap_39 w.params).In h₀) (T : Top p loose mean mg mb h₀) (hk : cs.kind = .function)
  {R : Result → Shared → Prop} (hd : dp + 2 < recursionLimit) (hu : un + 20 < cLine)
  (l : LexS) (ok : l.Ok) {n pos : Int} {tn tp : Tok} {vs : List Value} {c2 c3 : Nat} {v : Value} (hv : vs.length ≤ 1000)
  (N : News h₀ L s.heap (l.led n tn (v :: vs) c2 pos tp c3))
  (ret : ∀ c' h' tk', Keep l.adr s.heap h' → Fr h₀ L h' m → News h₀ L h' (l.led n tn vs c' pos tp c3) → R (.ok (.ret v)) { s with heap := h', toks := tk' }) :
  codeAny (model prog w) (ktrTop dp un gd cn cs L a ccd cl outer) (.call (.ref 59) ⟨[.ref l.x], []⟩) R s := by
  have hadr : (l.led n tn (v :: vs) c2 pos tp c3).map (·.1) = l.adr := rfl
  obtain ⟨⟨a1, a2, a3⟩, ⟨b1, b2, b3, b4⟩, ⟨d1, d2, d3, d4⟩, ⟨e1, e2, e3, e4⟩, ⟨f1, f2, f3⟩, hx, hs⟩ := id ok
  have hx1 : ∀ p ∈ l.aux, p.1 ≠ l.pb := fun p hp => (hx p hp).1.2.1
  have hx2 : ∀ p ∈ l.aux, p.1 ≠ l.dx := fun p hp => (hx p hp).1.2.2
  k_dflt (walk_at "SW enterK")
  rename_i g0 L0 h00 FG0 F0 N0 B0 X0 T0 KG0
  rw [hadr] at KG0
  dsimp only [LexS.led] at N0
  k_steps
  rename Fr g0 _ _ _ => F9
  rename News g0 _ _ _ => N9
  refine kl_popAt (k := 0) (p := []) F9 N9 rfl idx0 rfl (by k_upd) ?zz ?_
  · show (_ :: _).length ≤ _
    rw [sizeLine_eq, List.length_cons]; omega
  clear F9 N9
  intro h9 F9 N9
  dsimp only [List.nil_append, List.cons_append] at N9
  k_steps
  rename Fr g0 _ _ _ => F9
  rename Fr h₀ L _ _ => F8
  rename News h₀ L _ _ => N8
  rename Fr h₀ L _ _ => F8
  rename News h₀ L _ _ => N8
  refine ret (c2 + 1) _ _ (Keep.then KG0 (Fr.keep F9)) F8 ?_
  · unfold LexS.led
    exact N8
end
section
open PySem PySem.W PyProof.Rows PySem.Calls PySem.Spec
set_option maxRecDepth 100000
set_option maxHeartbeats 4000000
/-- words of dots, by their numbers of dots -/
inductive DotsAre : List Value → List Nat → Prop
  | nil : DotsAre [] []
  | cons {k t vs ks} : DotsAre vs ks → DotsAre (.str (dotStr k) t :: vs) (k :: ks)
theorem DotsAre.length {vs : List Value} {ks : List Nat} (h : DotsAre vs ks) : vs.length = ks.length := by
  induction h with
  | nil => rfl
  | cons _ ih => simp [ih]
theorem DotsAre.snoc {vs : List Value} {ks : List Nat} {k : Nat} {t : Tok} (h : DotsAre vs ks) : DotsAre (vs ++ [.str (dotStr k) t]) (ks ++ [k]) := by
  induction h with
  | nil => exact .cons .nil
  | cons _ ih => exact .cons ih
/-- one word got: from the line of those given back, or out of the text -/
def getS : List Nat → List Nat → Int → Option (Nat × List Nat × List Nat × Int)
  | k :: ks, us, n => some (k, ks, us, n)
  | [], us, n => (lexA us n).map fun x => (x.1.1, [], x.1.2, x.2)
theorem get_use {prog : Program} {w : World} {p : Program} {loose : List Str} {mean : ExcName → Option Value} {mg mb : Str → Option Value}
  {dp un : Nat} {gd : Option (List Code)} {cn : Str} {cs : Scope} {a : Addr} {ccd : Value} {cl : List (Str × Addr)} {outer : List Env} {A₀ : Around} {base h₀ : Heap} {L : Addr} {m : Str → Option Value} {s : Shared}
  (B : Below A₀ base outer h₀) (F : Fr h₀ L s.heap m) (X : (SW.hd.heap_39 w.params).In h₀) (T : Top p loose mean mg mb h₀) (hk : cs.kind = .function)
  {Q E : Value → Shared → Prop} (hd : dp + 6 < recursionLimit) (hu : un + 60 < cLine) (CH : CodeHd base 138 134)
  (l : LexS) (ok : l.Ok) (rs : l.Reads prog w p loose mean mg mb) {n n' : Int} {k K : Nat} {tn tp : Tok} {vs : List Value} {ks us ks' us' : List Nat} {c2 c3 : Nat} {rest : List (Addr × Obj)}
  (hv : DotsAre vs ks) (hl : ks.length ≤ 1000) (hc : l.sent.cps.toList.drop k = us) (hb : k + us.length + 1 ≤ 100000) (hg : getS ks us n = some (K, ks', us', n'))
  (hoff : ∀ p ∈ rest, p.1 ∉ l.adr)
  (N : News h₀ L s.heap (l.led n tn vs c2 k tp c3 ++ rest))
  (ret : ∀ vs' c2' k' tn' tp' t' h' tk', DotsAre vs' ks' → l.sent.cps.toList.drop k' = us' → k' + us'.length ≤ k + us.length + 1 → Keep l.adr s.heap h' → Fr h₀ L h' m → News h₀ L h' (l.led n' tn' vs' c2' (k' : Nat) tp' c3 ++ rest) →
    Q (.str (dotStr K) t') { s with heap := h', toks := tk' }) :
  wpAny (model prog w) (ktrTop dp un gd cn cs L a ccd cl outer) (call (.ref 59) [.ref l.x]) Q E s := by
  refine wpAny_call ?_
  cases hv with
  | nil =>
    subst hc
    have hg : (lexA (l.sent.cps.toList.drop k) n).map (fun x => (x.1.1, ([] : List Nat), x.1.2, x.2)) = some (K, ks', us', n') := hg
    obtain ⟨x, hx, hy⟩ := Option.map_eq_some_iff.mp hg
    obtain ⟨⟨x1, x2⟩, x3⟩ := x
    cases hy
    refine gt_code B F X T hk hd hu CH l ok rs hb hx (news_left N) ?_
    intro k' tn' tp' t' h' tk' h1 h2 hK F' N'
    exact ret [] c2 k' tn' tp' t' h' tk' .nil h1 h2 hK F' (rest_of N hK hoff N')
  | cons hv =>
    rename_i k0 t0 vs0 ks0
    cases hg
    refine gp_code B F X T hk (by first | with_reducible assumption | decide | omega) (by first | with_reducible assumption | decide | omega) l ok (by rw [hv.length]; simp only [List.length_cons] at hl; omega) (news_left N) ?_
    intro c' h' tk' hK F' N'
    exact ret vs0 c' k tn tp t0 h' tk' hv hc (by first | with_reducible assumption | decide | omega) hK F' (rest_of N hK hoff N')
theorem push_use {prog : Program} {w : World} {p : Program} {loose : List Str} {mean : ExcName → Option Value} {mg mb : Str → Option Value}
  {dp un : Nat} {gd : Option (List Code)} {cn : Str} {cs : Scope} {a : Addr} {ccd : Value} {cl : List (Str × Addr)} {outer : List Env} {A₀ : Around} {base h₀ : Heap} {L : Addr} {m : Str → Option Value} {s : Shared}
  (B : Below A₀ base outer h₀) (F : Fr h₀ L s.heap m) (X : (SW.hd.heap_39 w.params).In h₀) (T : Top p loose mean mg mb h₀) (hk : cs.kind = .function)
  {Q E : Value → Shared → Prop} (hd : dp + 6 < recursionLimit) (hu : un + 60 < cLine)
  (l : LexS) (ok : l.Ok) {n : Int} {k K : Nat} {tn tp t : Tok} {vs : List Value} {ks : List Nat} {c2 c3 : Nat} {rest : List (Addr × Obj)}
  (hv : DotsAre vs ks) (hl : ks.length ≤ 1000)
  (hoff : ∀ p ∈ rest, p.1 ∉ l.adr)
  (N : News h₀ L s.heap (l.led n tn vs c2 k tp c3 ++ rest))
  (ret : ∀ vs' c2' h' tk', DotsAre vs' (ks ++ [K]) → Keep l.adr s.heap h' → Fr h₀ L h' m → News h₀ L h' (l.led n tn vs' c2' k tp c3 ++ rest) →
    Q .none { s with heap := h', toks := tk' }) :
  wpAny (model prog w) (ktrTop dp un gd cn cs L a ccd cl outer) (call (.ref 66) [.ref l.x, .str (dotStr K) t]) Q E s := by
  refine wpAny_call ?_
  refine pt_code B F X T hk (by first | with_reducible assumption | decide | omega) (by first | with_reducible assumption | decide | omega) l ok (by rw [hv.length]; exact hl) (news_left N) ?_
  intro c' h' tk' hK F' N'
  exact ret _ c' h' tk' hv.snoc hK F' (rest_of N hK hoff N')
/-- a ledger's parts change places -/
theorem news_swap {X Y Z : List (Addr × Obj)} {h₀ h : Heap} {L : Addr} (N : News h₀ L h (Y ++ (X ++ Z))) : News h₀ L h (X ++ (Y ++ Z)) := fun p hp => N p (by
  simp only [List.mem_append] at hp ⊢
  rcases hp with h | h | h
  · exact .inr (.inl h)
  · exact .inl h
  · exact .inr (.inr h))
end
section
open PySem PySem.W PyProof.Rows PySem.Calls PySem.Spec
set_option maxRecDepth 100000
set_option maxHeartbeats 8000000
local macro_rules | `(tactic| walk_at "exec For Name Call cons nil") => `(tactic| (k_here; k_dflt (refine wpAny_For ?_)))
local macro_rules | `(tactic| walk_at "pyIter ref") => `(tactic| (k_here; (rename IsRange _ _ _ _ _ _ _ _ => lR'); (rename Fr _ _ _ _ => lF'); (rename News _ _ _ _ => lN'); (k_dflt (refine iter_rangeF lR' rfl (by first | decide | omega) (by first | decide | omega) (by first | decide | omega) (by first | decide | omega) lF' lN' ?_)); clear lF' lN'; intro i' h' l1 F' N' K'; (try k_lt l1); (try k_sweep)))
local macro_rules | `(tactic| size_fits) => `(tactic| assumption)
local macro_rules | `(tactic| walk_at "call ref") => `(tactic| (k_here; k_dflt (refine Wait.out ?_)))

def tupOb (w : Nat) (n : Int) (t u : Tok) : Obj := { cls := .type "tuple", data := .seq #[.str (dotStr w) t, .int n u] 0 }
/-- the list's members, the tuples they name, and what these hold -/
inductive TupsAre : List Value → List (Addr × Obj) → List (Nat × Int) → Prop
  | nil : TupsAre [] [] []
  | snoc {arr ts res a w n t u} : TupsAre arr ts res → TupsAre (arr ++ [.ref a]) (ts ++ [(a, tupOb w n t u)]) (res ++ [(w, n)])
theorem TupsAre.length {arr : List Value} {ts : List (Addr × Obj)} {res : List (Nat × Int)} (h : TupsAre arr ts res) : arr.length = res.length := by
  induction h with
  | nil => rfl
  | snoc _ ih => simp [ih]
def getN : Nat → List Nat → List Nat → Int → Option (List (Nat × Int) × List Nat × List Nat × Int)
  | 0, ks, us, n => some ([], ks, us, n)
  | j + 1, ks, us, n => match getS ks us n with
    | none => none
    | some (K, ks', us', n') => (getN j ks' us' n').map fun x => ((K, n') :: x.1, x.2)

theorem getS_len {ks us ks' us' : List Nat} {n n' : Int} {K : Nat} (h : getS ks us n = some (K, ks', us', n')) : ks'.length ≤ ks.length := by
  cases ks with
  | nil =>
    obtain ⟨x, hx, hy⟩ := Option.map_eq_some_iff.mp h
    cases hy; exact Nat.le_refl _
  | cons k r => cases h; exact Nat.le_succ _
theorem allLt_left {b : Nat} : ∀ {X Y : List (Addr × Obj)}, AllLt b (X ++ Y) → AllLt b X
  | [], _, _ => trivial
  | _ :: _, _, h => ⟨h.1, allLt_left h.2⟩
theorem getN_step {j : Nat} {ks us ks' us' : List Nat} {n n' : Int} {res : List (Nat × Int)} (h : getN (j + 1) ks us n = some (res, ks', us', n')) : ∃ K ks1 us1 n1 res1, getS ks us n = some (K, ks1, us1, n1) ∧ getN j ks1 us1 n1 = some (res1, ks', us', n') ∧ res = (K, n1) :: res1 := by
  unfold getN at h
  cases hq : getS ks us n with
  | none => rw [hq] at h; cases h
  | some x =>
    obtain ⟨K, ks1, us1, n1⟩ := x
    rw [hq] at h
    obtain ⟨y, hy, hz⟩ := Option.map_eq_some_iff.mp h
    obtain ⟨y1, y2, y3, y4⟩ := y
    cases hz
    exact ⟨K, ks1, us1, n1, y1, rfl, hy, rfl⟩
theorem next_rangeO {prog : Program} {w : World} {A : Around} {E : Value → Shared → Prop} {s : Shared} {h₀ : Heap} {L : Addr} {m : Str → Option Value} {news : List (Addr × Obj)} {I : Addr} {x left : Int} {Q : Option Value → Shared → Prop} (hh : A.handled = none) (F : Fr h₀ L s.heap m) (N : News h₀ L s.heap ((I, itR x left) :: news)) (hoff : ∀ p ∈ news, p.1 ≠ I)
    (some_ : 0 < left → ∀ t h' tk', (∀ b o, b ≠ I → s.heap.get? b = some o → h'.get? b = some o) → Fr h₀ L h' m → News h₀ L h' ((I, itR (x + 1) (left - 1)) :: news) → Q (some (.int x t)) { s with heap := h', toks := tk' })
    (none_ : left ≤ 0 → ∀ h', (∀ b o, b ≠ I → s.heap.get? b = some o → h'.get? b = some o) → Fr h₀ L h' m → News h₀ L h' news → Q none { s with heap := h' }) : wpAny (model prog w) A (pyNext (.ref I)) Q E s := by
  have hI := N _ (.head _)
  have hI' : h₀.get? I = none ∧ I ≠ L := ⟨hI.2.2, hI.2.1⟩
  have N1 : News h₀ L s.heap news := fun p hp => N p (.tail _ hp)
  by_cases hl : 0 < left
  · refine wpAny_pyNext_range_item (x := x) (left := left) (step := 1) hI.1 hl fun h' hit hs => ?_
    have hkp : ∀ b o, b ≠ I → s.heap.get? b = some o → h'.get? b = some o := fun b o hb e => (hs.2 b hb).trans e
    obtain ⟨F', N'⟩ := kept_but F N1 hI' hoff hkp
    refine some_ hl _ _ _ hkp F' fun p hp => ?_
    rcases List.mem_cons.mp hp with rfl | hp
    · exact ⟨hit, hI.2⟩
    · exact N' p hp
  · refine wpAny_pyNext_range_end (x := x) (left := left) (step := 1) hh hI.1 (by first | with_reducible assumption | decide | (first | lia | omega)) fun h' hk => ?_
    obtain ⟨F', N'⟩ := kept_but F N1 hI' hoff fun b o hb e => hk b o hb e
    exact none_ (by first | with_reducible assumption | decide | (first | lia | omega)) _ (fun b o hb e => hk b o hb e) F' N'
/-- two names in a frame, put in front -/
theorem fr_put2 {g h : Heap} {L : Addr} {M : Str → Option Value} {x y : Str} {v u : Option Value} (F : Fr g L h M) (hx : M x = v) (hy : M y = u) : ∃ m₀ : Str → Option Value, Fr g L h (fun z => if z = x then v else if z = y then u else m₀ z) := by
  refine ⟨M, ?_⟩
  have : (fun z => if z = x then v else if z = y then u else M z) = M := by
    funext z
    by_cases e : z = x
    · rw [if_pos e, e, hx]
    · rw [if_neg e]
      by_cases e2 : z = y
      · rw [if_pos e2, e2, hy]
      · rw [if_neg e2]
  rw [this]; exact F
theorem off_all {ts : List (Addr × Obj)} {l : LexS} {tl : Addr} (h1 : ∀ p ∈ ts, p.1 ≠ tl) (h2 : tl ∉ l.adr) : ∀ p ∈ l.aux ++ ts, p.1 ≠ tl := fun p hp => by
  rcases List.mem_append.mp hp with hp | hp
  · exact fun e => h2 (by simp only [LexS.adr, List.mem_cons]; exact .inr (.inr (.inr (.inr (.inr (.inr (.inr (e ▸ List.mem_map_of_mem hp)))))))) 
  · exact h1 p hp

local macro_rules | `(tactic| walk_at "execs cons") => `(tactic| (k_here; k_fold; walk_at "execs cons"))
theorem got_code {prog : Program} {w : World} {p : Program} {loose : List Str} {mean : ExcName → Option Value} {mg mb : Str → Option Value}
  {dp un : Nat} {gd : Option (List Code)} {cn : Str} {cs : Scope} {a : Addr} {ccd : Value} {cl : List (Str × Addr)} {outer : List Env} {A₀ : Around} {base h₀ : Heap} {L : Addr} {m : Str → Option Value} {s : Shared}
  (B : Below A₀ base outer h₀) (F : Fr h₀ L s.heap m) (X : (SW.hd.heap_39 w.params).In h₀) (T : Top p loose mean mg mb h₀) (hk : cs.kind = .function) {R : Result → Shared → Prop} (hd : dp + 20 < recursionLimit) (hu : un + 100 < cLine) (CH : CodeHd base 138 134)
  (l : LexS) (ok : l.Ok) (rs : l.Reads prog w p loose mean mg mb) {n n' : Int} {k ct : Nat} {tn tp t : Tok} {vs : List Value} {ks us ks' us' : List Nat} {c2 c3 : Nat} {res : List (Nat × Int)}
  (hv : DotsAre vs ks) (hl : ks.length ≤ 900) (hc : l.sent.cps.toList.drop k = us) (hb : k + us.length + ct + 1 ≤ 90000) (hct : ct ≤ 50) (hg : getN ct ks us n = some (res, ks', us', n'))
  (N : News h₀ L s.heap (l.led n tn vs c2 k tp c3))
  (ret : ∀ tl ts arr c vs' c2' k' tn' tp' h' tk', TupsAre arr ts res → (∀ b o, s.heap.get? b = some o → b ≠ tl ∧ ∀ p ∈ ts, p.1 ≠ b) → DotsAre vs' ks' → l.sent.cps.toList.drop k' = us' → k' + us'.length ≤ k + us.length + ct → Keep l.adr s.heap h' → Fr h₀ L h' m → News h₀ L h' (l.led n' tn' vs' c2' (k' : Nat) tp' c3 ++ ((tl, W.listOf arr.toArray c) :: ts)) →
    R (.ok (.ret (.ref tl))) { s with heap := h', toks := tk' }) :
  codeAny (model prog w) (ktrTop dp un gd cn cs L a ccd cl outer) (.call (.ref 146) ⟨[.ref l.x, .int ct t], []⟩) R s := by
  obtain ⟨⟨a1, a2, a3⟩, ⟨b1, b2, b3, b4⟩, ⟨d1, d2, d3, d4⟩, ⟨e1, e2, e3, e4⟩, ⟨f1, f2, f3⟩, hx, hs⟩ := id ok
  have hx1 : ∀ p ∈ l.aux, p.1 ≠ l.pb := fun p hp => (hx p hp).1.2.1
  have hx2 : ∀ p ∈ l.aux, p.1 ≠ l.dx := fun p hp => (hx p hp).1.2.2
  k_dflt (walk_at "SW enterK")
  rename_i g0 L0 h00 FG0 F0 N0 B0 X0 T0 KG0
  rw [show (l.led n tn vs c2 k tp c3).map (·.1) = l.adr from rfl] at KG0
  dsimp only [LexS.led] at N0
  k_steps
  rename_i tk1 tl h3 l3 h2 hh1 tk0 t1 u1 v1 lR aa i1 hh F1 N1 K1 l1
  rw [show ((ct : Int) - 0).toNat = ct from by (first | lia | omega)] at N1
  obtain ⟨m0, F2⟩ := fr_put2 (x := Str.ofString "told") (y := Str.ofString "lexer") F1 rfl rfl
  have N2 : News g0 L0 hh (l.led n tn vs c2 k tp c3 ++ ([(i1, itR ((0 : Nat) : Int) ((ct : Int) - ((0 : Nat) : Int))), (tl, W.listOf ([] : List Value).toArray 0)] ++ [])) := by
    rw [List.append_nil]
    refine news_comm ?_
    rw [show (ct : Int) - ((0 : Nat) : Int) = ct from by (first | lia | omega)]
    exact N1
  have htl : tl ∉ l.adr := off_adr l3
  have hil : i1 ∉ l.adr := off_adr l1.2
  have hit : i1 ≠ tl := Nat.ne_of_gt l1.1
  clear N1 F1 aa K1 lR N
  obtain ⟨J1, mkJ1, elJ1⟩ : ∃ J1 : Nat → Shared → Prop, (∀ (rem : Nat) (j : Nat) (res1 res2 : List (Nat × Int)) (ks1 us1 : List Nat) (n1 : Int) (arr : List Value) (ts : List (Addr × Obj)) (vs1 : List Value) (c c2' k1 : Nat) (tn' tp' : Tok) (h : Heap) (tk : Nat) (m₀ : Str → Option Value), (j + rem = ct) → (TupsAre arr ts res1) → (res1.length = j) → (getN rem ks1 us1 n1 = some (res2, ks', us', n')) → (res1 ++ res2 = res) → (DotsAre vs1 ks1) → (ks1.length ≤ 900) → (l.sent.cps.toList.drop k1 = us1) → (k1 + us1.length ≤ k + us.length + j) → ((∀ p ∈ ts, p.1 ∉ l.adr ∧ p.1 ≠ tl ∧ p.1 ≠ i1)) → (Fr g0 L0 h (fun y => if y = Str.ofString "told" then some (.ref tl) else if y = Str.ofString "lexer" then some (.ref l.x) else m₀ y)) → (News g0 L0 h (l.led n1 tn' vs1 c2' k1 tp' c3 ++ ([(i1, itR (j : Int) ((ct : Int) - (j : Int))), (tl, W.listOf arr.toArray c)] ++ ts))) → J1 rem { s with heap := h, toks := tk }) ∧ (∀ (rem : Nat) (s' : Shared), J1 rem s' → ∃ (j : Nat) (res1 res2 : List (Nat × Int)) (ks1 us1 : List Nat) (n1 : Int) (arr : List Value) (ts : List (Addr × Obj)) (vs1 : List Value) (c c2' k1 : Nat) (tn' tp' : Tok) (h : Heap) (tk : Nat) (m₀ : Str → Option Value), s' = { s with heap := h, toks := tk } ∧ j + rem = ct ∧ TupsAre arr ts res1 ∧ res1.length = j ∧ getN rem ks1 us1 n1 = some (res2, ks', us', n') ∧ res1 ++ res2 = res ∧ DotsAre vs1 ks1 ∧ ks1.length ≤ 900 ∧ l.sent.cps.toList.drop k1 = us1 ∧ k1 + us1.length ≤ k + us.length + j ∧ (∀ p ∈ ts, p.1 ∉ l.adr ∧ p.1 ≠ tl ∧ p.1 ≠ i1) ∧
     Fr g0 L0 h (fun y => if y = Str.ofString "told" then some (.ref tl) else if y = Str.ofString "lexer" then some (.ref l.x) else m₀ y) ∧ News g0 L0 h (l.led n1 tn' vs1 c2' k1 tp' c3 ++ ([(i1, itR (j : Int) ((ct : Int) - (j : Int))), (tl, W.listOf arr.toArray c)] ++ ts))) := by
    refine ⟨fun rem s' => ∃ (j : Nat) (res1 res2 : List (Nat × Int)) (ks1 us1 : List Nat) (n1 : Int) (arr : List Value) (ts : List (Addr × Obj)) (vs1 : List Value) (c c2' k1 : Nat) (tn' tp' : Tok) (h : Heap) (tk : Nat) (m₀ : Str → Option Value), s' = { s with heap := h, toks := tk } ∧ j + rem = ct ∧ TupsAre arr ts res1 ∧ res1.length = j ∧ getN rem ks1 us1 n1 = some (res2, ks', us', n') ∧ res1 ++ res2 = res ∧ DotsAre vs1 ks1 ∧ ks1.length ≤ 900 ∧ l.sent.cps.toList.drop k1 = us1 ∧ k1 + us1.length ≤ k + us.length + j ∧ (∀ p ∈ ts, p.1 ∉ l.adr ∧ p.1 ≠ tl ∧ p.1 ≠ i1) ∧
     Fr g0 L0 h (fun y => if y = Str.ofString "told" then some (.ref tl) else if y = Str.ofString "lexer" then some (.ref l.x) else m₀ y) ∧ News g0 L0 h (l.led n1 tn' vs1 c2' k1 tp' c3 ++ ([(i1, itR (j : Int) ((ct : Int) - (j : Int))), (tl, W.listOf arr.toArray c)] ++ ts)), ?_, ?_⟩
    · intro _ j res1 res2 ks1 us1 n1 arr ts vs1 c c2' k1 tn' tp' h tk m₀ hC2 hC3 hC4 hC5 hC6 hC7 hC8 hC9 hC10 hC11 hC12 hC13
      exact ⟨j, res1, res2, ks1, us1, n1, arr, ts, vs1, c, c2', k1, tn', tp', h, tk, m₀, rfl, hC2, hC3, hC4, hC5, hC6, hC7, hC8, hC9, hC10, hC11, hC12, hC13⟩
    · intro _ _ h; exact h
  refine codeAny_forLoop J1 ?turn ct (mkJ1 _ 0 ([]) res ks us n ([]) ([]) vs 0 c2 k tn tp _ _ _ (Nat.zero_add _) .nil rfl hg rfl hv hl hc (Nat.le_refl _) (fun _ h => nomatch h) F2 N2)
  clear F2 N2
  intro rem s' hInv0
  k_fold
  obtain ⟨j, res1, res2, ks1, us1, n1, arr, ts, vs1, c, c2', k1, tn', tp', h, tk9, m₀, rfl, hjk, hts, hrl, hgj, hres, hv1, hl1, hc1, hb1, hoff, F3, N3⟩ := elJ1 _ _ hInv0
  clear hInv0
  have N4 := news_comm N3
  refine next_rangeO (news := (tl, W.listOf arr.toArray c) :: (ts ++ l.led n1 tn' vs1 c2' k1 tp' c3)) rfl F3 N4 ?offi ?some ?none
  case offi =>
    intro p hp
    rcases List.mem_cons.mp hp with rfl | hp
    · exact hit.symm
    · rcases List.mem_append.mp hp with hp | hp
      · exact (hoff p hp).2.2
      · exact fun e => hil (e ▸ List.mem_map_of_mem (f := (·.1)) hp)
  case none =>
    intro hle h' hkp F4 N4'
    clear F3 N3 N4
    k_unfold
    try dsimp only
    have hj : rem = 0 := by (first | lia | omega)
    subst hj
    cases hgj
    k_steps
    rename_i F9 N9 T9 X9
    have N10 : News h₀ L h' (l.led n' tn' vs1 c2' k1 tp' c3 ++ ((tl, W.listOf arr.toArray c) :: ts)) := news_comm N9
    have hfr : ∀ b o, s.heap.get? b = some o → b ≠ tl ∧ ∀ p ∈ ts, p.1 ≠ b := fun b o e => by
      by_cases hb : b ∈ l.adr
      · exact ⟨fun q => htl (q ▸ hb), fun p hp q => (hoff p hp).1 (q ▸ hb)⟩
      · have e0 := KG0 b o hb e
        refine ⟨fun q => ?_, fun p hp q => ?_⟩ <;> (subst q)
        · exact absurd ((N4' _ (.head _)).2.2.symm.trans e0) (by simp)
        · exact absurd ((N4' _ (.tail _ (List.mem_append_left _ hp))).2.2.symm.trans e0) (by simp)
    refine ret tl ts arr c vs1 c2' k1 tn' tp' h' _ ?_ hfr hv1 hc1 (by first | with_reducible assumption | decide | (first | lia | omega)) (Keep.then KG0 (Fr.keep F4)) F9 N10
    rw [List.append_nil] at hres
    rw [← hres]; exact hts
  case some =>
    intro hlt t h' tk' hkp F4 N4'
    clear F3 N3 N4
    k_unfold
    try dsimp only
    refine held_turn ?_
    have N5 : News g0 L0 h' ((i1, itR ((j : Int) + 1) ((ct : Int) - j - 1)) :: (tl, W.listOf arr.toArray c) :: l.led n1 tn' vs1 c2' k1 tp' c3 ++ ts) := news_swap (X := [(i1, itR ((j : Int) + 1) ((ct : Int) - j - 1)), (tl, W.listOf arr.toArray c)] ++ l.led n1 tn' vs1 c2' k1 tp' c3) (Y := []) (Z := ts) (fun p hp => N4' p (by simp only [List.nil_append, List.cons_append, List.mem_cons, List.mem_append] at hp ⊢; rcases hp with h | h | h | h <;> simp [h]))
    clear N4'
    dsimp only [LexS.led, List.cons_append] at N5
    k_steps
    refine Wait.mk ?_
    rename News _ _ _ _ => N6
    rename Fr _ _ _ _ => F6
    have N7 : News g0 L0 _ (l.led n1 tn' vs1 c2' k1 tp' c3 ++ ([(i1, itR ((j : Int) + 1) ((ct : Int) - j - 1)), (tl, W.listOf arr.toArray c)] ++ ts)) := news_swap (X := l.led n1 tn' vs1 c2' k1 tp' c3) N6
    obtain ⟨r, rfl⟩ : ∃ r, rem = r + 1 := ⟨rem - 1, by (first | lia | omega)⟩
    obtain ⟨K, ks2, us2, n2, res3, hgs, hg3, rfl⟩ := getN_step hgj
    have hoff2 : ∀ p ∈ [((i1 : Addr), itR ((j : Int) + 1) ((ct : Int) - j - 1)), (tl, W.listOf arr.toArray c)] ++ ts, p.1 ∉ l.adr := fun p hp => by
      rcases List.mem_cons.mp hp with rfl | hp
      · exact hil
      · rcases List.mem_cons.mp hp with rfl | hp
        · exact htl
        · exact (hoff p hp).1
    refine get_use (dp := dp + 1) (un := un + 3) B0 F6 X0 T0 rfl (by first | with_reducible assumption | decide | (first | lia | omega)) (by first | with_reducible assumption | decide | (first | lia | omega)) CH l ok rs hv1 (by first | with_reducible assumption | decide | (first | lia | omega)) hc1 (by first | with_reducible assumption | decide | (first | lia | omega)) hgs hoff2 N7 ?_
    intro vs3 c4 k3 tn3 tp3 t3 h4 tk4 hv3 hc3 hb3 hK3 F8 N8
    clear N6 N7 F6
    have N9 : News g0 L0 h4 ([(i1, itR ((j : Int) + 1) ((ct : Int) - j - 1)), (tl, W.listOf arr.toArray c)] ++ (l.led n2 tn3 vs3 c4 k3 tp3 c3 ++ ts)) := news_swap (X := [(i1, itR ((j : Int) + 1) ((ct : Int) - j - 1)), (tl, W.listOf arr.toArray c)]) N8
    clear N8
    have hta : ∀ p ∈ l.aux ++ ts, p.1 ≠ tl := off_all (fun p hp => (hoff p hp).2.1) htl
    dsimp only [LexS.led, List.cons_append, List.nil_append] at N9
    have harr : arr.toArray.size ≤ sizeLine := by rw [sizeLine_eq, List.size_toArray, hts.length]; (first | lia | omega)
    k_steps
    rename News _ _ _ _ => N5
    rename Fr _ _ _ _ => F5
    rename_i hA D9 hB lD hC
    obtain ⟨q1, q2, q3, q4, q5, q6, q7, q8, q9, q10⟩ := lD
    have hD : D9 ∉ l.adr := off_adr ⟨q3, q4, q5, q6, q7, q8, q9, allLt_left q10⟩
    obtain ⟨m5, F9⟩ := fr_put2 (x := Str.ofString "told") (y := Str.ofString "lexer") F5 rfl rfl
    try dsimp only
    rw [List.push_toArray] at N5
    have N9 : News g0 L0 hC ([(D9, tupOb K n2 t3 tn3), (i1, itR ((j : Int) + 1) ((ct : Int) - j - 1)), (tl, W.listOf (arr ++ [Value.ref D9]).toArray (c + 1))] ++ (l.led n2 tn3 vs3 c4 k3 tp3 c3 ++ ts)) := N5
    have hfin : ∀ p ∈ ts ++ [(D9, tupOb K n2 t3 tn3)], p.1 ∉ l.adr ∧ p.1 ≠ tl ∧ p.1 ≠ i1 := fun p hp => by
      rcases List.mem_append.mp hp with hp | hp
      · exact hoff p hp
      · cases List.mem_singleton.mp hp
        exact ⟨hD, Nat.ne_of_gt q2, Nat.ne_of_gt q1⟩
    refine Held.mk ⟨r, by (first | lia | omega), mkJ1 _ (j + 1) (res1 ++ [(K, n2)]) res3 ks2 us2 n2 (arr ++ [Value.ref D9]) (ts ++ [(D9, tupOb K n2 t3 tn3)]) vs3 (c + 1) c4 k3 tn3 tp3 _ _ m5 (by first | with_reducible assumption | decide | (first | lia | omega)) hts.snoc (by rw [List.length_append, hrl]; rfl) hg3 (by rw [List.append_assoc]; exact hres) hv3 (Nat.le_trans (getS_len hgs) hl1) hc3 (by first | with_reducible assumption | decide | (first | lia | omega)) hfin F9 (fun p hp => ?_)⟩
    have N10 : News g0 L0 hC (l.led n2 tn3 vs3 c4 k3 tp3 c3 ++ ([(i1, itR ((j : Int) + 1) ((ct : Int) - j - 1)), (tl, W.listOf (arr ++ [Value.ref D9]).toArray (c + 1))] ++ (ts ++ [(D9, tupOb K n2 t3 tn3)]))) := fun p hp => N9 p (by
      simp only [List.mem_append, List.mem_cons] at hp ⊢
      rcases hp with h | (h | h | h) | h | h | h <;> simp [h])
    rw [show ((j + 1 : Nat) : Int) = (j : Int) + 1 from rfl, show (ct : Int) - ((j : Int) + 1) = (ct : Int) - j - 1 from by (first | lia | omega)] at hp
    exact N10 p hp
end
section
open PySem PySem.W PyProof.Rows PySem.Calls PySem.Spec
set_option maxRecDepth 100000
set_option maxHeartbeats 8000000
local macro_rules | `(tactic| walk_at "exec For Name Call cons nil") => `(tactic| (k_here; k_dflt (refine wpAny_For ?_)))
local macro_rules | `(tactic| walk_at "pyIter ref") => `(tactic| (k_here; (rename IsRange _ _ _ _ _ _ _ _ => lR'); (rename Fr _ _ _ _ => lF'); (rename News _ _ _ _ => lN'); (k_dflt (refine iter_rangeF lR' rfl (by first | decide | omega) (by first | decide | omega) (by first | decide | omega) (by first | decide | omega) lF' lN' ?_)); clear lF' lN'; intro i' h' l1 F' N' K'; (try k_lt l1); (try k_sweep)))
local macro_rules | `(tactic| size_fits) => `(tactic| assumption)
local macro_rules | `(tactic| walk_at "call ref") => `(tactic| (k_here; k_dflt (refine Wait.out ?_)))

def qd (k : Nat) : Nat := if k = 0 then 0 else k + 1
structure RS where
  ks : List Nat
  bf : Nat
  gift : Bool
  mv : Bool
  gv : List Nat
def nxt (k1 : Nat) (ks : List Nat) (bf : Nat) (mv : Bool) (gv : List Nat) (j : Nat) : RS :=
  if 2 < k1 then ⟨if qd bf = 0 then ks else ks ++ [qd bf], k1 - 2, true, true, gv.set j (gv.getD j 0 + 1)⟩ else ⟨if bf = 0 then ks else ks ++ [bf], k1, false, mv, gv⟩
def stepP (j : Nat) (st : RS) : Option RS :=
  match st.ks with
  | [] => none
  | k :: ks => if k ≤ 500 ∧ st.bf ≤ 500 ∧ ks.length ≤ 100 ∧ st.gv.getD j 0 ≤ 1000 ∧ j < st.gv.length then
      some (nxt (if st.gift then qd k else k) ks st.bf st.mv st.gv j)
    else none
def innerP : Nat → Nat → RS → Option RS
  | 0, _, st => some st
  | r + 1, j, st => match stepP j st with
    | none => none
    | some st' => innerP r (j + 1) st'
def roundsP (n : Nat) : Nat → List Nat → List Nat → Option (List Nat × List Nat)
  | 0, ks, gv => some (ks, gv)
  | r + 1, ks, gv => match innerP n 0 ⟨ks, 0, false, false, gv⟩ with
    | none => none
    | some st => if st.ks.length ≤ 100 then (if st.mv then roundsP n r (st.ks ++ [st.bf]) st.gv else some (st.ks ++ [st.bf], st.gv)) else none

theorem rounds_step {n r : Nat} {ks gv : List Nat} {x : List Nat × List Nat} (h : roundsP n (r + 1) ks gv = some x) : ∃ st, innerP n 0 ⟨ks, 0, false, false, gv⟩ = some st ∧ st.ks.length ≤ 100 ∧ (if st.mv then roundsP n r (st.ks ++ [st.bf]) st.gv = some x else (st.ks ++ [st.bf], st.gv) = x) := by
  unfold roundsP at h
  cases hq : innerP n 0 ⟨ks, 0, false, false, gv⟩ with
  | none => rw [hq] at h; cases h
  | some st =>
    rw [hq] at h
    dsimp only at h
    by_cases h1 : st.ks.length ≤ 100
    · rw [if_pos h1] at h
      refine ⟨st, rfl, h1, ?_⟩
      cases hm : st.mv with
      | true => rw [hm] at h; exact h
      | false => rw [hm] at h; exact Option.some.inj h
    · rw [if_neg h1] at h; cases h
theorem inner_step {r j : Nat} {st x : RS} (h : innerP (r + 1) j st = some x) : ∃ k ks, st.ks = k :: ks ∧ k ≤ 500 ∧ st.bf ≤ 500 ∧ ks.length ≤ 100 ∧ st.gv.getD j 0 ≤ 1000 ∧ j < st.gv.length ∧
    innerP r (j + 1) (nxt (if st.gift then qd k else k) ks st.bf st.mv st.gv j) = some x := by
  unfold innerP at h
  cases hq : stepP j st with
  | none => rw [hq] at h; cases h
  | some st' =>
    rw [hq] at h
    dsimp only at h
    unfold stepP at hq
    cases hk : st.ks with
    | nil => rw [hk] at hq; cases hq
    | cons k ks =>
      rw [hk] at hq
      dsimp only at hq
      by_cases hc : k ≤ 500 ∧ st.bf ≤ 500 ∧ ks.length ≤ 100 ∧ st.gv.getD j 0 ≤ 1000 ∧ j < st.gv.length
      · rw [if_pos hc] at hq
        obtain ⟨c1, c2, c3, c4, c5⟩ := hc
        refine ⟨k, ks, rfl, c1, c2, c3, c4, c5, ?_⟩
        rw [Option.some.inj hq]
        exact h
      · rw [if_neg hc] at hq; cases hq
def frm : List (Str × Value) → (Str → Option Value) → Str → Option Value
  | [], M => M
  | (x, v) :: r, M => fun y => if y = x then some v else frm r M y
def agr (M : Str → Option Value) : List (Str × Value) → Prop
  | [] => True
  | (x, v) :: r => M x = some v ∧ agr M r
theorem frm_eq {M : Str → Option Value} : ∀ {xs : List (Str × Value)}, agr M xs → frm xs M = M
  | [], _ => rfl
  | (x, v) :: r, h => by
    funext y
    show (if y = x then some v else frm r M y) = M y
    rw [frm_eq h.2]
    by_cases e : y = x
    · rw [if_pos e, e, h.1]
    · rw [if_neg e]
theorem fr_puts {g h : Heap} {L : Addr} {M : Str → Option Value} (xs : List (Str × Value)) (F : Fr g L h M) (hx : agr M xs) : ∃ m₀ : Str → Option Value, Fr g L h (frm xs m₀) := ⟨M, by rw [frm_eq hx]; exact F⟩
theorem zeros_are {n : Nat} {t : Tok} : (List.replicate ((n : Int)).toNat [Value.int 0 t]).flatten = List.replicate n (.int 0 t) ∧ (List.replicate ((n : Int)).toNat [(0 : Int)]).flatten = (List.replicate n 0).map Int.ofNat := by
  rw [Int.toNat_natCast]
  constructor
  · induction n with
    | zero => rfl
    | succ k ih => rw [List.replicate_succ, List.flatten_cons, ih]; rfl
  · induction n with
    | zero => rfl
    | succ k ih => rw [List.replicate_succ, List.flatten_cons, ih]; rfl
theorem gp_use {prog : Program} {w : World} {p : Program} {loose : List Str} {mean : ExcName → Option Value} {mg mb : Str → Option Value}
  {dp un : Nat} {gd : Option (List Code)} {cn : Str} {cs : Scope} {a : Addr} {ccd : Value} {cl : List (Str × Addr)} {outer : List Env} {A₀ : Around} {base h₀ : Heap} {L : Addr} {m : Str → Option Value} {s : Shared}
  (B : Below A₀ base outer h₀) (F : Fr h₀ L s.heap m) (X : (SW.hd.heap_39 w.params).In h₀) (T : Top p loose mean mg mb h₀) (hk : cs.kind = .function)
  {Q E : Value → Shared → Prop} (hd : dp + 6 < recursionLimit) (hu : un + 60 < cLine)
  (l : LexS) (ok : l.Ok) {n : Int} {k K : Nat} {tn tp : Tok} {vs : List Value} {ks : List Nat} {c2 c3 : Nat} {rest : List (Addr × Obj)}
  (hv : DotsAre vs (K :: ks)) (hl : ks.length ≤ 1000)
  (hoff : ∀ p ∈ rest, p.1 ∉ l.adr)
  (N : News h₀ L s.heap (l.led n tn vs c2 k tp c3 ++ rest))
  (ret : ∀ vs' c2' t' h' tk', DotsAre vs' ks → Keep l.adr s.heap h' → Fr h₀ L h' m → News h₀ L h' (l.led n tn vs' c2' k tp c3 ++ rest) →
    Q (.str (dotStr K) t') { s with heap := h', toks := tk' }) :
  wpAny (model prog w) (ktrTop dp un gd cn cs L a ccd cl outer) (call (.ref 59) [.ref l.x]) Q E s := by
  refine wpAny_call ?_
  cases hv with
  | cons hv =>
    rename_i t0 vs0
    refine gp_code B F X T hk (by first | with_reducible assumption | decide | (first | lia | omega)) (by first | with_reducible assumption | decide | (first | lia | omega)) l ok (by rw [hv.length]; exact hl) (news_left N) ?_
    intro c' h' tk' hK F' N'
    exact ret vs0 c' t0 h' tk' hv hK F' (rest_of N hK hoff N')
theorem crlf_dots : ∀ n, crlf (List.replicate n 46) = List.replicate n 46
  | 0 => rfl
  | n + 1 => by
    rw [List.replicate_succ, crlf_cons, if_neg (by decide), if_neg (by decide), crlf_dots n]
theorem dots_dots : ∀ n, dots false (List.replicate n 46) = List.replicate n 46
  | 0 => rfl
  | n + 1 => by
    rw [List.replicate_succ]
    show (if false = true ∧ 46 = 46 then _ else 46 :: dots ((46 : Nat) == 10) (List.replicate n 46)) = _
    rw [if_neg (by decide), show ((46 : Nat) == 10) = false from rfl, dots_dots n]
theorem qd_dots (n : Nat) : dots true (crlf (List.replicate n 46)) = List.replicate (qd n) 46 := by
  rw [crlf_dots]
  cases n with
  | zero => rfl
  | succ k =>
    show dots true (List.replicate (k + 1) 46) = List.replicate (k + 1 + 1) 46
    rw [List.replicate_succ]
    show (if true = true ∧ 46 = 46 then 46 :: 46 :: dots false (List.replicate k 46) else _) = _
    rw [if_pos ⟨rfl, rfl⟩, dots_dots]; rfl
theorem quote_dots {prog : Program} {w : World} {p : Program} {loose : List Str} {mean : ExcName → Option Value} {mg mb : Str → Option Value}
  {dp un : Nat} {gd : Option (List Code)} {cn : Str} {cs : Scope} {a : Addr} {ccd : Value} {cl : List (Str × Addr)} {outer : List Env} {A₀ : Around} {base h₀ : Heap} {L : Addr} {m : Str → Option Value} {s : Shared}
  (B : Below A₀ base outer h₀) (F : Fr h₀ L s.heap m) (X : (SW.hd.heap_39 w.params).In h₀) (T : Top p loose mean mg mb h₀) (hk : cs.kind = .function)
  {Q E : Value → Shared → Prop} (hd : dp + 1 < recursionLimit) (hu : un + 8 < cLine) {K : Nat} {t : Tok} (hK : K ≤ 1000) {news : List (Addr × Obj)}
  (N : News h₀ L s.heap news)
  (ret : ∀ t' h' tk', Fr h₀ L h' m → News h₀ L h' news → Q (.str (dotStr (qd K)) t') { s with heap := h', toks := tk' }) :
  wpAny (model prog w) (ktrTop dp un gd cn cs L a ccd cl outer) (call (.ref 125) [.str (dotStr K) t]) Q E s := by
  refine quote_spec B F X T hk hd hu (by show (List.replicate K 46).toArray.size ≤ 1000; simp; exact hK) N fun y t' h' tk' hy F' N' => ?_
  have : y = dotStr (qd K) := by
    apply Str.ext'
    apply Array.toList_inj.mp
    rw [hy]
    exact qd_dots K
  rw [this]
  exact ret t' h' tk' F' N'
theorem len_dotK {prog : Program} {w : World} {A : Around} {E : Value → Shared → Prop} {s : Shared} {K : Nat} {t : Tok} {Q : Value → Shared → Prop} (hK : K ≤ 1000) (h : Q (.int K (s.toks + 1)) { s with toks := s.toks + 1 + 1 }) : wpAny (model prog w) A (call (.builtin "len") [.str (dotStr K) t]) Q E s :=
  PySem.P.len_str (by rw [dot_len]; (first | lia | omega)) (by rw [dot_len]; exact h)
theorem slice_dots {K : Nat} (hK : 2 ≤ K) : Txt.slice (dotStr K) (some 2) none = dotStr (K - 2) := by
  rw [slice_from_eq (b := K) (by decide) (by rw [dot_len]; (first | lia | omega)) (by rw [dot_len])]
  show Str.mk (((List.replicate K 46).toArray.toList.drop 2).take ((K : Int) - 2).toNat).toArray = Str.mk (List.replicate (K - 2) 46).toArray
  rw [show ((K : Int) - 2).toNat = K - 2 from by (first | lia | omega), List.drop_replicate, List.take_replicate, Nat.min_self]
theorem sl_dots {prog : Program} {w : World} {A : Around} {E : Value → Shared → Prop} {s : Shared} {h₀ : Heap} {L : Addr} {m : Str → Option Value} {news : List (Addr × Obj)} {value slice : Expr} {K : Nat} {t ui : Tok} {Q : Value → Shared → Prop} (hF : Fr h₀ L s.heap m) (hN : News h₀ L s.heap news) (hK : 2 < (K : Int)) (hK2 : K ≤ 1000) (h : ∀ h' t' k, Fr h₀ L h' m → News h₀ L h' news → Q (.str (dotStr (K - 2)) t') { s with heap := h', toks := k })
    (hs : subscripted slice false (.str (dotStr K) t) (.ref s.heap.objs.size) = operate [.ref s.heap.objs.size, .str (dotStr K) t] (getItem (.str (dotStr K) t) (.ref s.heap.objs.size)) := by with_unfolding_all rfl)
    (ht : ∀ r, letTemporaryGo value (.str (dotStr K) t) r = pure () := by intro _; with_unfolding_all rfl) :
    wpAny (model prog w) A (subscriptTail value slice (.str (dotStr K) t) (.ref s.heap.objs.size)) Q E { s with heap := s.heap.push { cls := .type "slice", data := .fields #[.int 2 ui, .none, .none] } } :=
  slice_strN_sn hF hN (fun h' t' k a b => slice_dots (K := K) (by first | with_reducible assumption | decide | (first | lia | omega)) ▸ h h' t' k a b) hs ht (by rw [dot_len, sizeLine_eq]; (first | lia | omega))
theorem dot_ne {b : Nat} (h : (dotStr b != Str.ofString "") = true) : b ≠ 0 := by
  rintro rfl
  exact absurd h (by decide +kernel)
theorem dot_eq {b : Nat} (h : (dotStr b != Str.ofString "") = false) : b = 0 := by
  cases b with
  | zero => rfl
  | succ k =>
    have : dotStr (k + 1) = Str.ofString "" := by simpa using h
    have h2 := congrArg Str.length this
    rw [dot_len] at h2
    exact absurd h2 (by simp [show (Str.ofString "").length = 0 from by decide +kernel])
theorem set_map {g : List Nat} {j : Nat} : (List.map Int.ofNat g).set (j : Int).toNat ((List.map Int.ofNat g).getD (j : Int).toNat 0 + 1) = (g.set j (g.getD j 0 + 1)).map Int.ofNat := by
  rw [Int.toNat_natCast, List.map_set]
  congr 1
  simp only [List.getD, List.getElem?_map]
  cases g[j]? <;> rfl
theorem qd_ne {k : Nat} (h : k ≠ 0) : qd k ≠ 0 := by unfold qd; rw [if_neg h]; (first | lia | omega)
theorem nxt_hi {k1 bf j : Nat} {ks gv : List Nat} {mv : Bool} (h : 2 < (k1 : Int)) (hb : bf ≠ 0) : nxt k1 ks bf mv gv j = ⟨ks ++ [qd bf], k1 - 2, true, true, gv.set j (gv.getD j 0 + 1)⟩ := by
  unfold nxt; rw [if_pos (by first | with_reducible assumption | decide | (first | lia | omega)), if_neg (qd_ne hb)]
theorem nxt_hi0 {k1 bf j : Nat} {ks gv : List Nat} {mv : Bool} (h : 2 < (k1 : Int)) (hb : bf = 0) : nxt k1 ks bf mv gv j = ⟨ks, k1 - 2, true, true, gv.set j (gv.getD j 0 + 1)⟩ := by
  unfold nxt; rw [if_pos (by first | with_reducible assumption | decide | (first | lia | omega)), hb, if_pos (by rfl)]
theorem nxt_lo {k1 bf j : Nat} {ks gv : List Nat} {mv : Bool} (h : ¬ 2 < (k1 : Int)) (hb : bf ≠ 0) : nxt k1 ks bf mv gv j = ⟨ks ++ [bf], k1, false, mv, gv⟩ := by
  unfold nxt; rw [if_neg (by first | with_reducible assumption | decide | (first | lia | omega)), if_neg hb]
theorem nxt_lo0 {k1 bf j : Nat} {ks gv : List Nat} {mv : Bool} (h : ¬ 2 < (k1 : Int)) (hb : bf = 0) : nxt k1 ks bf mv gv j = ⟨ks, k1, false, mv, gv⟩ := by
  unfold nxt; rw [if_neg (by first | with_reducible assumption | decide | (first | lia | omega)), if_pos hb]
theorem qd_le (k : Nat) : qd k ≤ k + 1 := by unfold qd; split <;> (first | lia | omega)
local macro_rules | `(tactic| walk_at "subscriptTail") => `(tactic| (k_here; (with_reducible show wpAny _ _ (subscriptTail _ (Expr.Slice (some _) none none _) (Value.str (dotStr _) _) (Value.ref _)) _ _ _); (with_reducible rename Fr _ _ _ _ => F'); (with_reducible rename News _ _ _ _ => N'); k_dflt (refine sl_dots (s := ⟨_, _, _, _, _⟩) F' N' (by omega) (by omega) ?_); intro _ _ _ _ _))
local macro_rules | `(tactic| walk_at "call builtin:len") => `(tactic| (k_here; (with_reducible show wpAny _ _ (call (Value.builtin _) [Value.str (dotStr _) _]) _ _ _); k_dflt (refine len_dotK (by omega) ?_)))
local macro_rules | `(tactic| walk_at "call ref") => `(tactic| (k_here; (with_reducible show wpAny _ _ (call (Value.ref 125) [Value.str (dotStr _) _]) _ _ _); k_dflt (refine' quote_dots ?k1 ?k2 ?k3 ?k4 ?k5 ?k6 ?k7 ?k8 ?k9 ?_; (case k1 | k2 | k3 | k4 => k_asm); (case k5 => first | exact rfl | assumption); (case k6 => ktr_room); (case k7 => ktr_units); (case k8 => omega); (case k9 => k_asm); k_whole; intro t' h' tk' F' N'; (try k_sweep))))

inductive GiftMark : Prop where | mk
local macro_rules | `(tactic| walk_at "exec If") => `(tactic| (k_here; (rename GiftMark => hGM'); k_dflt (refine Wait.out ?_)))
local macro_rules | `(tactic| walk_at "execs cons") => `(tactic| (k_here; k_fold; walk_at "execs cons"))
theorem rounds_code {prog : Program} {w : World} {p : Program} {loose : List Str} {mean : ExcName → Option Value} {mg mb : Str → Option Value}
  {dp un : Nat} {gd : Option (List Code)} {cn : Str} {cs : Scope} {a : Addr} {ccd : Value} {cl : List (Str × Addr)} {outer : List Env} {A₀ : Around} {base h₀ : Heap} {L : Addr} {m : Str → Option Value} {s : Shared}
  (B : Below A₀ base outer h₀) (F : Fr h₀ L s.heap m) (X : (SW.hd.heap_39 w.params).In h₀) (T : Top p loose mean mg mb h₀) (hk : cs.kind = .function) {R : Result → Shared → Prop} (hd : dp + 20 < recursionLimit) (hu : un + 100 < cLine)
  (l : LexS) (ok : l.Ok) {n : Int} {sz mo k : Nat} {tn tp t t2 : Tok} {vs : List Value} {ks ks' gv' : List Nat} {c2 c3 : Nat}
  (hv : DotsAre vs ks) (hl : ks.length ≤ 90) (hsz : sz ≤ 4) (hmo : mo ≤ 900) (hg : roundsP sz mo ks (List.replicate sz 0) = some (ks', gv'))
  (N : News h₀ L s.heap (l.led n tn vs c2 k tp c3))
  (ret : ∀ gl arr c vs' c2' h' tk', IntsAre arr (gv'.map Int.ofNat) → (∀ b o, s.heap.get? b = some o → b ≠ gl) → DotsAre vs' ks' → Keep l.adr s.heap h' → Fr h₀ L h' m → News h₀ L h' (l.led n tn vs' c2' k tp c3 ++ [(gl, W.listOf arr.toArray c)]) →
    R (.ok (.ret (.ref gl))) { s with heap := h', toks := tk' }) :
  codeAny (model prog w) (ktrTop dp un gd cn cs L a ccd cl outer) (.call (.ref 153) ⟨[.ref l.x, .int sz t, .int mo t2], []⟩) R s := by
  obtain ⟨⟨a1, a2, a3⟩, ⟨b1, b2, b3, b4⟩, ⟨d1, d2, d3, d4⟩, ⟨e1, e2, e3, e4⟩, ⟨f1, f2, f3⟩, hx, hs⟩ := id ok
  have hx1 : ∀ p ∈ l.aux, p.1 ≠ l.pb := fun p hp => (hx p hp).1.2.1
  have hx2 : ∀ p ∈ l.aux, p.1 ≠ l.dx := fun p hp => (hx p hp).1.2.2
  k_dflt (walk_at "SW enterK")
  rename_i g0 L0 h00 FG0 F0 N0 B0 X0 T0 KG0
  rw [show (l.led n tn vs c2 k tp c3).map (·.1) = l.adr from rfl] at KG0
  dsimp only [LexS.led] at N0
  k_steps
  rename_i tkz lz hz lz1 gl x1 iz n1 s1 e1 e2 e3 l3 x3 x4 x5 t1 u1 v1 lR aa i1 hh F1 N1 K1 l1
  have hgl : gl ∉ l.adr := off_adr l3.2
  have hig : i1 ≠ gl := Nat.ne_of_gt l1.1
  have hil : i1 ∉ l.adr := off_adr l1.2.2
  rw [zeros_are.1, (zeros_are (t := tkz)).2] at iz
  rw [show ((mo : Int) - 0).toNat = mo from by (first | lia | omega), zeros_are.1] at N1
  obtain ⟨m0, F2⟩ := fr_puts [(Str.ofString "gave", .ref gl), (Str.ofString "size", .int sz t), (Str.ofString "lexer", .ref l.x)] F1 ⟨rfl, rfl, rfl, trivial⟩
  have N2 : News g0 L0 hh ((i1, itR ((0 : Nat) : Int) ((mo : Int) - ((0 : Nat) : Int))) :: (gl, W.listOf (List.replicate sz (Value.int 0 tkz)).toArray 0) :: l.led n tn vs c2 k tp c3) := by
    intro p hp
    rw [show (mo : Int) - ((0 : Nat) : Int) = mo from by (first | lia | omega)] at hp
    refine N1 p ?_
    rcases List.mem_cons.mp hp with h | hp
    · rw [h]; exact .head _
    · rcases List.mem_cons.mp hp with h | hp
      · rw [h]; exact .tail _ (.head _)
      · exact .tail _ (.tail _ (.tail _ hp))
  have hig' : gl ≠ i1 := hig.symm
  clear N1 F1 aa K1 lR N e1 e2 e3 s1
  obtain ⟨J1, mkJ1, elJ1⟩ : ∃ J1 : Nat → Shared → Prop, (∀ (rem : Nat) (j : Nat) (ks1 gv1 : List Nat) (arr vs1 : List Value) (c c2' : Nat) (h : Heap) (tk : Nat) (m₀ : Str → Option Value), (j + rem = mo) → (IntsAre arr (gv1.map Int.ofNat)) → (gv1.length = sz) → (roundsP sz rem ks1 gv1 = some (ks', gv')) → (DotsAre vs1 ks1) → (ks1.length ≤ 101) → (Fr _ _ h (frm [(Str.ofString "gave", .ref gl), (Str.ofString "size", .int sz t), (Str.ofString "lexer", .ref l.x)] m₀)) → (News g0 L0 h ((i1, itR (j : Int) ((mo : Int) - (j : Int))) :: (gl, W.listOf arr.toArray c) :: l.led n tn vs1 c2' k tp c3)) → J1 rem { s with heap := h, toks := tk }) ∧ (∀ (rem : Nat) (s' : Shared), J1 rem s' → ∃ (j : Nat) (ks1 gv1 : List Nat) (arr vs1 : List Value) (c c2' : Nat) (h : Heap) (tk : Nat) (m₀ : Str → Option Value), s' = { s with heap := h, toks := tk } ∧ j + rem = mo ∧ IntsAre arr (gv1.map Int.ofNat) ∧ gv1.length = sz ∧ roundsP sz rem ks1 gv1 = some (ks', gv') ∧ DotsAre vs1 ks1 ∧ ks1.length ≤ 101 ∧
     Fr _ _ h (frm [(Str.ofString "gave", .ref gl), (Str.ofString "size", .int sz t), (Str.ofString "lexer", .ref l.x)] m₀) ∧ News g0 L0 h ((i1, itR (j : Int) ((mo : Int) - (j : Int))) :: (gl, W.listOf arr.toArray c) :: l.led n tn vs1 c2' k tp c3)) := ⟨fun rem s' => ∃ (j : Nat) (ks1 gv1 : List Nat) (arr vs1 : List Value) (c c2' : Nat) (h : Heap) (tk : Nat) (m₀ : Str → Option Value), s' = { s with heap := h, toks := tk } ∧ j + rem = mo ∧ IntsAre arr (gv1.map Int.ofNat) ∧ gv1.length = sz ∧ roundsP sz rem ks1 gv1 = some (ks', gv') ∧ DotsAre vs1 ks1 ∧ ks1.length ≤ 101 ∧
     Fr _ _ h (frm [(Str.ofString "gave", .ref gl), (Str.ofString "size", .int sz t), (Str.ofString "lexer", .ref l.x)] m₀) ∧ News g0 L0 h ((i1, itR (j : Int) ((mo : Int) - (j : Int))) :: (gl, W.listOf arr.toArray c) :: l.led n tn vs1 c2' k tp c3), fun _ j ks1 gv1 arr vs1 c c2' h tk m₀ hC2 hC3 hC4 hC5 hC6 hC7 hC8 hC9 => ⟨j, ks1, gv1, arr, vs1, c, c2', h, tk, m₀, rfl, hC2, hC3, hC4, hC5, hC6, hC7, hC8, hC9⟩, fun _ _ h => h⟩
  refine codeAny_forLoop J1 ?turn mo (mkJ1 _ 0 ks (List.replicate sz 0) _ vs 0 c2 _ _ _ (Nat.zero_add _) iz List.length_replicate hg hv (by first | with_reducible assumption | decide | (first | lia | omega)) F2 N2)
  clear F2 N2 iz
  intro rem s' hInv0
  k_fold
  obtain ⟨j, ks1, gv1, arr, vs1, c, c2', h, tk9, m₀, rfl, hjk, ha, hgl1, hgj, hv1, hl1, F3, N3⟩ := elJ1 _ _ hInv0
  clear hInv0
  refine next_rangeO rfl F3 N3 ?offi ?some ?none
  case offi =>
    intro p hp
    rcases List.mem_cons.mp hp with rfl | hp
    · exact hig.symm
    · exact fun e => hil (e ▸ List.mem_map_of_mem (f := (·.1)) hp)
  case none =>
    intro hle h' hkp F4 N4
    clear F3 N3
    k_unfold
    try dsimp only
    have hj : rem = 0 := by (first | lia | omega)
    subst hj
    cases hgj
    dsimp only [frm] at F4
    k_steps
    rename_i F9 N9 T9 X9
    have hfr : ∀ b o, s.heap.get? b = some o → b ≠ gl := fun b o e => by
      by_cases hb : b ∈ l.adr
      · exact fun q => hgl (q ▸ hb)
      · have e0 := KG0 b o hb e
        exact fun q => absurd ((N4 _ (.head _)).2.2.symm.trans (q ▸ e0)) (by simp)
    exact ret gl arr c vs1 c2' h' _ ha hfr hv1 (Keep.then KG0 (Fr.keep F4)) F9 (news_comm (Y := [(gl, W.listOf arr.toArray c)]) N9)
  case some =>
    intro hlt t0 h' tk' hkp F4 N4
    clear F3 N3
    k_unfold
    try dsimp only
    refine held_turn ?_
    dsimp only [frm] at F4
    dsimp only [LexS.led] at N4
    k_steps
    rename_i h5 h4 h3 h2 h1 tkq tA uA vA lR2 aa2 i2 hi F5 N5 K5 l5
    obtain ⟨r, rfl⟩ : ∃ r, rem = r + 1 := ⟨rem - 1, by (first | lia | omega)⟩
    obtain ⟨stF, hin, hF1, hF2⟩ := rounds_step hgj
    have hi2l : i2 ∉ l.adr := off_adr l5.2.2
    have hi21 : i2 ≠ i1 := Nat.ne_of_gt l5.1
    have hi2g : i2 ≠ gl := Nat.ne_of_gt l5.2.1
    rw [show ((sz : Int) - 0).toNat = sz from by (first | lia | omega)] at N5
    obtain ⟨m1, F6⟩ := fr_puts [(Str.ofString "before", .str (Str.ofString "") _), (Str.ofString "gift", .bool false), (Str.ofString "moved", .bool false), (Str.ofString "gave", .ref gl), (Str.ofString "size", .int sz t), (Str.ofString "lexer", .ref l.x)] F5 ⟨rfl, rfl, rfl, rfl, rfl, rfl, trivial⟩
    have N6 : News g0 L0 hi ((i2, itR ((0 : Nat) : Int) ((sz : Int) - ((0 : Nat) : Int))) :: (i1, itR ((j : Int) + 1) ((mo : Int) - (j : Int) - 1)) :: (gl, W.listOf arr.toArray c) :: l.led n tn vs1 c2' k tp c3) := by
      rw [show (sz : Int) - ((0 : Nat) : Int) = sz from by (first | lia | omega)]
      exact N5
    clear N5 F5 aa2 lR2 K5
    rw [show (Str.ofString "") = dotStr 0 from by decide +kernel] at F6
    obtain ⟨J2, mkJ2, elJ2⟩ : ∃ J2 : Nat → Shared → Prop, (∀ (rem2 : Nat) (j2 : Nat) (st : RS) (arr2 vs2 : List Value) (c4 c5 : Nat) (tb : Tok) (h : Heap) (tk : Nat) (m₀ : Str → Option Value), (j2 + rem2 = sz) → (IntsAre arr2 (st.gv.map Int.ofNat)) → (st.gv.length = sz) → (innerP rem2 j2 st = some stF) → (DotsAre vs2 st.ks) → (Fr _ _ h (frm [(Str.ofString "before", .str (dotStr st.bf) tb), (Str.ofString "gift", .bool st.gift), (Str.ofString "moved", .bool st.mv), (Str.ofString "gave", .ref gl), (Str.ofString "size", .int sz t), (Str.ofString "lexer", .ref l.x)] m₀)) → (News g0 L0 h ((i2, itR (j2 : Int) ((sz : Int) - (j2 : Int))) :: (i1, itR ((j : Int) + 1) ((mo : Int) - (j : Int) - 1)) :: (gl, W.listOf arr2.toArray c4) :: l.led n tn vs2 c5 k tp c3)) → J2 rem2 { s with heap := h, toks := tk }) ∧ (∀ (rem2 : Nat) (s' : Shared), J2 rem2 s' → ∃ (j2 : Nat) (st : RS) (arr2 vs2 : List Value) (c4 c5 : Nat) (tb : Tok) (h : Heap) (tk : Nat) (m₀ : Str → Option Value), s' = { s with heap := h, toks := tk } ∧ j2 + rem2 = sz ∧ IntsAre arr2 (st.gv.map Int.ofNat) ∧ st.gv.length = sz ∧ innerP rem2 j2 st = some stF ∧ DotsAre vs2 st.ks ∧
     Fr _ _ h (frm [(Str.ofString "before", .str (dotStr st.bf) tb), (Str.ofString "gift", .bool st.gift), (Str.ofString "moved", .bool st.mv), (Str.ofString "gave", .ref gl), (Str.ofString "size", .int sz t), (Str.ofString "lexer", .ref l.x)] m₀) ∧ News g0 L0 h ((i2, itR (j2 : Int) ((sz : Int) - (j2 : Int))) :: (i1, itR ((j : Int) + 1) ((mo : Int) - (j : Int) - 1)) :: (gl, W.listOf arr2.toArray c4) :: l.led n tn vs2 c5 k tp c3)) := ⟨fun rem2 s' => ∃ (j2 : Nat) (st : RS) (arr2 vs2 : List Value) (c4 c5 : Nat) (tb : Tok) (h : Heap) (tk : Nat) (m₀ : Str → Option Value), s' = { s with heap := h, toks := tk } ∧ j2 + rem2 = sz ∧ IntsAre arr2 (st.gv.map Int.ofNat) ∧ st.gv.length = sz ∧ innerP rem2 j2 st = some stF ∧ DotsAre vs2 st.ks ∧
     Fr _ _ h (frm [(Str.ofString "before", .str (dotStr st.bf) tb), (Str.ofString "gift", .bool st.gift), (Str.ofString "moved", .bool st.mv), (Str.ofString "gave", .ref gl), (Str.ofString "size", .int sz t), (Str.ofString "lexer", .ref l.x)] m₀) ∧ News g0 L0 h ((i2, itR (j2 : Int) ((sz : Int) - (j2 : Int))) :: (i1, itR ((j : Int) + 1) ((mo : Int) - (j : Int) - 1)) :: (gl, W.listOf arr2.toArray c4) :: l.led n tn vs2 c5 k tp c3), fun _ j2 st arr2 vs2 c4 c5 tb h tk m₀ hC2 hC3 hC4 hC5 hC6 hC7 hC8 => ⟨j2, st, arr2, vs2, c4, c5, tb, h, tk, m₀, rfl, hC2, hC3, hC4, hC5, hC6, hC7, hC8⟩, fun _ _ h => h⟩
    refine codeAny_forLoop J2 ?turn2 sz (mkJ2 _ 0 ⟨ks1, 0, false, false, gv1⟩ arr vs1 c c2' _ _ _ _ (Nat.zero_add _) ha hgl1 hin hv1 F6 N6)
    clear F6 N6 ha hv1
    have hoff2 : ∀ x1 x2, ∀ p ∈ [((i1 : Addr), (x1 : Obj)), (gl, x2)], p.1 ∉ l.adr := fun x1 x2 p hp => by
      rcases List.mem_cons.mp hp with rfl | hp
      · exact hil
      · cases List.mem_singleton.mp hp; exact hgl
    have hoff3 : ∀ x0 x1 x2, ∀ p ∈ [((i2 : Addr), (x0 : Obj)), (i1, x1), (gl, x2)], p.1 ∉ l.adr := fun x0 x1 x2 p hp => by
      rcases List.mem_cons.mp hp with rfl | hp
      · exact hi2l
      · exact hoff2 x1 x2 p hp
    intro rem2 s' hInv0
    k_fold
    obtain ⟨j2, ⟨ks2, bf, gift, mv, gv2⟩, arr2, vs2, c4, c5, tb, h9, tk8, m9, rfl, hjk2, ha2, hgl2, hin2, hv2, F6, N6⟩ := elJ2 _ _ hInv0
    clear hInv0
    dsimp only at ha2 hgl2 hv2 F6
    refine next_rangeO rfl F6 N6 ?offi2 ?some2 ?none2
    case offi2 =>
      intro p hp
      rcases List.mem_cons.mp hp with rfl | hp
      · exact hi21.symm
      · rcases List.mem_cons.mp hp with rfl | hp
        · exact hi2g.symm
        · exact fun e => hi2l (e ▸ List.mem_map_of_mem (f := (·.1)) hp)
    case none2 =>
      intro hle2 h'' hkp2 F7 N7
      clear F6 N6
      k_unfold
      try dsimp only
      have hj2 : rem2 = 0 := by (first | lia | omega)
      subst hj2
      cases hin2
      dsimp only [frm] at F7
      dsimp only [LexS.led] at N7
      k_steps
      refine Wait.mk ?_
      rename News _ _ _ _ => N8
      rename Fr _ _ _ _ => F8
      dsimp only at hF1 hF2
      refine push_use (dp := dp + 1) (un := un + 3) B0 F8 X0 T0 rfl (by first | with_reducible assumption | decide | (first | lia | omega)) (by first | with_reducible assumption | decide | (first | lia | omega)) l ok hv2 (by first | with_reducible assumption | decide | (first | lia | omega)) (hoff2 _ _) (rest := [((i1 : Addr), itR ((j : Int) + 1) ((mo : Int) - (j : Int) - 1)), (gl, W.listOf arr2.toArray c4)]) (news_comm (X := l.led n tn vs2 c5 k tp c3) N8) ?_
      intro vs3 c6 h10 tk10 hv3 hK3 F9 N9
      clear N8 F8
      replace N9 := news_comm (X := [((i1 : Addr), itR ((j : Int) + 1) ((mo : Int) - (j : Int) - 1)), (gl, W.listOf arr2.toArray c4)]) N9
      dsimp only [LexS.led, List.cons_append, List.nil_append] at N9
      cases mv with
      | false =>
        obtain ⟨rfl, rfl⟩ : ks2 ++ [bf] = ks' ∧ gv2 = gv' := by cases hF2; exact ⟨rfl, rfl⟩
        k_steps
        (try refine Held.mk ?_)
        try dsimp only
        k_steps
        rename_i FA NA TA XA
        have hfr : ∀ b o, s.heap.get? b = some o → b ≠ gl := fun b o e => by
          by_cases hb : b ∈ l.adr
          · exact fun q => hgl (q ▸ hb)
          · have e0 := KG0 b o hb e
            exact fun q => absurd ((N9 _ (.tail _ (.head _))).2.2.symm.trans (q ▸ e0)) (by simp)
        exact ret gl arr2 c4 vs3 c6 h10 _ ha2 hfr hv3 (Keep.then KG0 (Fr.keep F9)) FA (news_comm (Y := [(gl, W.listOf arr2.toArray c4)]) fun p hp => NA p (.tail _ hp))
      | true =>
        replace hF2 : roundsP sz r (ks2 ++ [bf]) gv2 = some (ks', gv') := hF2
        k_steps
        try dsimp only
        obtain ⟨mA, FA⟩ := fr_puts [(Str.ofString "gave", .ref gl), (Str.ofString "size", .int sz t), (Str.ofString "lexer", .ref l.x)] F9 ⟨rfl, rfl, rfl, trivial⟩
        refine Held.mk ⟨r, by (first | lia | omega), mkJ1 _ (j + 1) (ks2 ++ [bf]) gv2 arr2 vs3 c4 c6 _ _ mA (by first | with_reducible assumption | decide | (first | lia | omega)) ha2 hgl2 hF2 hv3 (by rw [List.length_append]; exact Nat.succ_le_succ hF1) FA ?_⟩
        rw [show (mo : Int) - ((j + 1 : Nat) : Int) = (mo : Int) - j - 1 from by (first | lia | omega)]
        exact N9
    case some2 =>
      intro hlt2 tc h'' tk7 hkp2 F7 N7
      clear F6 N6
      k_unfold
      try dsimp only
      refine held_turn ?_
      dsimp only [frm] at F7
      dsimp only [LexS.led] at N7
      obtain ⟨r2, rfl⟩ : ∃ r2, rem2 = r2 + 1 := ⟨rem2 - 1, by (first | lia | omega)⟩
      obtain ⟨K, ks3, hks, hb1, hb2, hb3, hb4, hb5, hnx⟩ := inner_step hin2
      dsimp only at hks hb1 hb2 hb3 hb4 hb5 hnx
      subst hks
      clear hin2
      k_steps
      refine Wait.mk ?_
      rename News _ _ _ _ => N8
      rename Fr _ _ _ _ => F8
      refine gp_use (dp := dp + 1) (un := un + 3) B0 F8 X0 T0 rfl (by first | with_reducible assumption | decide | (first | lia | omega)) (by first | with_reducible assumption | decide | (first | lia | omega)) l ok hv2 (by first | with_reducible assumption | decide | (first | lia | omega)) (hoff3 _ _ _) (rest := [((i2 : Addr), itR ((j2 : Int) + 1) ((sz : Int) - (j2 : Int) - 1)), (i1, itR ((j : Int) + 1) ((mo : Int) - (j : Int) - 1)), (gl, W.listOf arr2.toArray c4)]) (news_comm (X := l.led n tn vs2 c5 k tp c3) N8) ?_
      intro vs3 c6 tw h10 tk10 hv3 hK3 F9 N9
      clear N8 F8
      replace N9 := news_comm (X := [((i2 : Addr), itR ((j2 : Int) + 1) ((sz : Int) - (j2 : Int) - 1)), (i1, itR ((j : Int) + 1) ((mo : Int) - (j : Int) - 1)), (gl, W.listOf arr2.toArray c4)]) N9
      dsimp only [LexS.led, List.cons_append, List.nil_append] at N9
      have hqK := qd_le K
      have hqb := qd_le bf
      replace hnx : innerP r2 (j2 + 1) (nxt (if gift then qd K else K) ks3 bf mv gv2 j2) = some stF := hnx
      have hGM := GiftMark.mk
      k_steps
      refine Wait.mk ?_
      rename GiftMark => hGM
      clear hGM
      rename News _ _ _ _ => N8
      rename Fr _ _ _ _ => F8
      refine wpAny_mono (Q := fun f s' => Held (∃ (K3 : Nat) (t3 : Tok) (h : Heap) (tk : Nat) (m₀ : Str → Option Value), f = .next ∧ s' = { s with heap := h, toks := tk } ∧ K3 = (if gift then qd K else K) ∧ Fr g0 L0 h (frm [(Str.ofString "word", .str (dotStr K3) t3), (Str.ofString "place", .int (j2 : Int) tc), (Str.ofString "before", .str (dotStr bf) tb), (Str.ofString "gift", .bool gift), (Str.ofString "moved", .bool mv), (Str.ofString "gave", .ref gl), (Str.ofString "size", .int sz t), (Str.ofString "lexer", .ref l.x)] m₀) ∧ News g0 L0 h ([(i2, itR ((j2 : Int) + 1) ((sz : Int) - (j2 : Int) - 1)), (i1, itR ((j : Int) + 1) ((mo : Int) - (j : Int) - 1)), (gl, W.listOf arr2.toArray c4)] ++ l.led n tn vs3 c6 k tp c3))) ?one ?two (fun _ _ e => e)
      case one =>
        cases gift with
        | false =>
          k_steps
          rename News _ _ _ _ => NA
          rename Fr _ _ _ _ => FA
          try dsimp only
          obtain ⟨mA, FB⟩ := fr_puts [(Str.ofString "word", .str (dotStr K) _), (Str.ofString "place", .int (j2 : Int) tc), (Str.ofString "before", .str (dotStr bf) tb), (Str.ofString "gift", .bool false), (Str.ofString "moved", .bool mv), (Str.ofString "gave", .ref gl), (Str.ofString "size", .int sz t), (Str.ofString "lexer", .ref l.x)] FA ⟨rfl, rfl, rfl, rfl, rfl, rfl, rfl, rfl, trivial⟩
          exact Held.mk ⟨K, _, _, _, mA, rfl, rfl, rfl, FB, NA⟩
        | true =>
          k_steps
          rename News _ _ _ _ => NA
          rename Fr _ _ _ _ => FA
          try dsimp only
          obtain ⟨mA, FB⟩ := fr_puts [(Str.ofString "word", .str (dotStr (qd K)) _), (Str.ofString "place", .int (j2 : Int) tc), (Str.ofString "before", .str (dotStr bf) tb), (Str.ofString "gift", .bool true), (Str.ofString "moved", .bool mv), (Str.ofString "gave", .ref gl), (Str.ofString "size", .int sz t), (Str.ofString "lexer", .ref l.x)] FA ⟨rfl, rfl, rfl, rfl, rfl, rfl, rfl, rfl, trivial⟩
          exact Held.mk ⟨qd K, _, _, _, mA, rfl, rfl, rfl, FB, NA⟩
      case two =>
        intro f s' hM
        obtain ⟨K3, t3, h11, tk11, m11, rfl, rfl, hK3, F9, N9⟩ := hM.out
        clear hM F8 N8
        have hq3 : K3 ≤ 501 := by rw [hK3]; split <;> (first | lia | omega)
        rw [← hK3] at hnx
        clear hK3
        try dsimp only
        dsimp only [frm] at F9
        dsimp only [LexS.led, List.cons_append, List.nil_append] at N9
        k_steps
        · rename 2 < ((K3 : Nat) : Int) => h2K
          rename (dotStr bf != Str.ofString "") = true => hb9
          refine Wait.mk ?_
          rename News _ _ _ _ => N8
          rename Fr _ _ _ _ => F8
          refine push_use (dp := dp + 1) (un := un + 3) B0 F8 X0 T0 rfl (by first | with_reducible assumption | decide | (first | lia | omega)) (by first | with_reducible assumption | decide | (first | lia | omega)) l ok hv3 (by first | with_reducible assumption | decide | (first | lia | omega)) (hoff3 _ _ _) (rest := [((i2 : Addr), itR ((j2 : Int) + 1) ((sz : Int) - (j2 : Int) - 1)), (i1, itR ((j : Int) + 1) ((mo : Int) - (j : Int) - 1)), (gl, W.listOf _ c4)]) (news_comm (X := l.led n tn vs3 c6 k tp c3) N8) ?_
          intro vs4 c8 h11 tk11 hv4 hK4 F9 N9
          clear N8 F8
          replace N9 := news_comm (X := [((i2 : Addr), itR ((j2 : Int) + 1) ((sz : Int) - (j2 : Int) - 1)), (i1, itR ((j : Int) + 1) ((mo : Int) - (j : Int) - 1)), (gl, W.listOf _ c4)]) N9
          dsimp only [LexS.led, List.cons_append, List.nil_append] at N9
          k_steps
          rename News _ _ _ _ => NA
          rename Fr _ _ _ _ => FA
          rw [nxt_hi h2K (dot_ne hb9)] at hnx
          rw [show decide (2 < ((K3 : Nat) : Int)) = true from decide_eq_true h2K] at FA
          rename IntsAre _ _ => hia
          rw [set_map] at hia
          try dsimp only
          obtain ⟨mA, FB⟩ := fr_puts [(Str.ofString "before", .str (dotStr (K3 - 2)) _), (Str.ofString "gift", .bool true), (Str.ofString "moved", .bool true), (Str.ofString "gave", .ref gl), (Str.ofString "size", .int sz t), (Str.ofString "lexer", .ref l.x)] FA ⟨rfl, rfl, rfl, rfl, rfl, rfl, trivial⟩
          refine Held.mk ⟨r2, by (first | lia | omega), mkJ2 _ (j2 + 1) _ _ vs4 c4 c8 _ _ _ mA (by first | with_reducible assumption | decide | (first | lia | omega)) hia (by rw [List.length_set]; exact hgl2) hnx hv4 FB ?_⟩
          rw [show (sz : Int) - ((j2 + 1 : Nat) : Int) = (sz : Int) - j2 - 1 from by (first | lia | omega)]
          exact NA
        · rename 2 < ((K3 : Nat) : Int) => h2K
          rename (dotStr bf != Str.ofString "") = true => hb9
          rename (dotStr (qd bf) != Str.ofString "") = false => hb8
          exact absurd (dot_eq hb8) (qd_ne (dot_ne hb9))
        · rename 2 < ((K3 : Nat) : Int) => h2K
          rename (dotStr bf != Str.ofString "") = false => hb9
          rename News _ _ _ _ => NA
          rename Fr _ _ _ _ => FA
          rw [nxt_hi0 h2K (dot_eq hb9)] at hnx
          rw [show decide (2 < ((K3 : Nat) : Int)) = true from decide_eq_true h2K] at FA
          rename IntsAre _ _ => hia
          rw [set_map] at hia
          try dsimp only
          obtain ⟨mA, FB⟩ := fr_puts [(Str.ofString "before", .str (dotStr (K3 - 2)) _), (Str.ofString "gift", .bool true), (Str.ofString "moved", .bool true), (Str.ofString "gave", .ref gl), (Str.ofString "size", .int sz t), (Str.ofString "lexer", .ref l.x)] FA ⟨rfl, rfl, rfl, rfl, rfl, rfl, trivial⟩
          refine Held.mk ⟨r2, by (first | lia | omega), mkJ2 _ (j2 + 1) _ _ vs3 c4 c6 _ _ _ mA (by first | with_reducible assumption | decide | (first | lia | omega)) hia (by rw [List.length_set]; exact hgl2) hnx hv3 FB ?_⟩
          rw [show (sz : Int) - ((j2 + 1 : Nat) : Int) = (sz : Int) - j2 - 1 from by (first | lia | omega)]
          exact NA
        · rename ¬ 2 < ((K3 : Nat) : Int) => h2K
          rename (dotStr bf != Str.ofString "") = true => hb9
          refine Wait.mk ?_
          rename News _ _ _ _ => N8
          rename Fr _ _ _ _ => F8
          refine push_use (dp := dp + 1) (un := un + 3) B0 F8 X0 T0 rfl (by first | with_reducible assumption | decide | (first | lia | omega)) (by first | with_reducible assumption | decide | (first | lia | omega)) l ok hv3 (by first | with_reducible assumption | decide | (first | lia | omega)) (hoff3 _ _ _) (rest := [((i2 : Addr), itR ((j2 : Int) + 1) ((sz : Int) - (j2 : Int) - 1)), (i1, itR ((j : Int) + 1) ((mo : Int) - (j : Int) - 1)), (gl, W.listOf _ c4)]) (news_comm (X := l.led n tn vs3 c6 k tp c3) N8) ?_
          intro vs4 c8 h11 tk11 hv4 hK4 F9 N9
          clear N8 F8
          replace N9 := news_comm (X := [((i2 : Addr), itR ((j2 : Int) + 1) ((sz : Int) - (j2 : Int) - 1)), (i1, itR ((j : Int) + 1) ((mo : Int) - (j : Int) - 1)), (gl, W.listOf _ c4)]) N9
          dsimp only [LexS.led, List.cons_append, List.nil_append] at N9
          k_steps
          rename News _ _ _ _ => NA
          rename Fr _ _ _ _ => FA
          rw [nxt_lo h2K (dot_ne hb9)] at hnx
          rw [show decide (2 < ((K3 : Nat) : Int)) = false from decide_eq_false h2K] at FA
          try dsimp only
          obtain ⟨mA, FB⟩ := fr_puts [(Str.ofString "before", .str (dotStr K3) _), (Str.ofString "gift", .bool false), (Str.ofString "moved", .bool mv), (Str.ofString "gave", .ref gl), (Str.ofString "size", .int sz t), (Str.ofString "lexer", .ref l.x)] FA ⟨rfl, rfl, rfl, rfl, rfl, rfl, trivial⟩
          refine Held.mk ⟨r2, by (first | lia | omega), mkJ2 _ (j2 + 1) _ _ vs4 c4 c8 _ _ _ mA (by first | with_reducible assumption | decide | (first | lia | omega)) ha2 hgl2 hnx hv4 FB ?_⟩
          rw [show (sz : Int) - ((j2 + 1 : Nat) : Int) = (sz : Int) - j2 - 1 from by (first | lia | omega)]
          exact NA
        · rename ¬ 2 < ((K3 : Nat) : Int) => h2K
          rename (dotStr bf != Str.ofString "") = false => hb9
          rename News _ _ _ _ => NA
          rename Fr _ _ _ _ => FA
          rw [nxt_lo0 h2K (dot_eq hb9)] at hnx
          rw [show decide (2 < ((K3 : Nat) : Int)) = false from decide_eq_false h2K] at FA
          try dsimp only
          obtain ⟨mA, FB⟩ := fr_puts [(Str.ofString "before", .str (dotStr K3) _), (Str.ofString "gift", .bool false), (Str.ofString "moved", .bool mv), (Str.ofString "gave", .ref gl), (Str.ofString "size", .int sz t), (Str.ofString "lexer", .ref l.x)] FA ⟨rfl, rfl, rfl, rfl, rfl, rfl, trivial⟩
          refine Held.mk ⟨r2, by (first | lia | omega), mkJ2 _ (j2 + 1) _ _ vs3 c4 c6 _ _ _ mA (by first | with_reducible assumption | decide | (first | lia | omega)) ha2 hgl2 hnx hv3 FB ?_⟩
          rw [show (sz : Int) - ((j2 + 1 : Nat) : Int) = (sz : Int) - j2 - 1 from by (first | lia | omega)]
          exact NA
end
section
open PySem PySem.W PyProof.Rows PySem.Calls PySem.Spec
set_option maxRecDepth 100000
set_option maxHeartbeats 8000000
local macro_rules | `(tactic| walk_at "exec For Name Call cons nil") => `(tactic| (k_here; k_dflt (refine wpAny_For ?_)))
local macro_rules | `(tactic| walk_at "pyIter ref") => `(tactic| (k_here; (rename IsRange _ _ _ _ _ _ _ _ => lR'); (rename Fr _ _ _ _ => lF'); (rename News _ _ _ _ => lN'); (k_dflt (refine iter_rangeF lR' rfl (by first | decide | omega) (by first | decide | omega) (by first | decide | omega) (by first | decide | omega) lF' lN' ?_)); clear lF' lN'; intro i' h' l1 F' N' K'; (try k_lt l1); (try k_sweep)))
local macro_rules | `(tactic| walk_at "CompSrcT") => `(tactic| (k_here; k_dflt (refine Wait.out ?_)))
local macro_rules | `(tactic| walk_at "exec Assign cons ListComp") => `(tactic| (k_here; k_dflt (refine Wait.out ?_)))

def readyG (line : List Int) (l : List Int) (k : Int) : List Int := if 2 ≤ line.getD k.toNat 0 then l ++ [k] else l
def readyP (n : Nat) (line : List Int) : List Int := (rangeKs 1 n).foldl (readyG line) []
def updP (line : List Int) (p : Int) : List Int :=
  ((line.set p.toNat (line.getD p.toNat 0 - 2)).set (p - 1).toNat ((line.set p.toNat (line.getD p.toNat 0 - 2)).getD (p - 1).toNat 0 + 1)).set (p + 1).toNat
    (((line.set p.toNat (line.getD p.toNat 0 - 2)).set (p - 1).toNat ((line.set p.toNat (line.getD p.toNat 0 - 2)).getD (p - 1).toNat 0 + 1)).getD (p + 1).toNat 0 + 1)
theorem updP_length (line : List Int) (p : Int) : (updP line p).length = line.length := by simp only [updP, List.length_set]
def byP (n : Nat) (st : Int) : Nat → Nat → List Int → List Int
  | 0, _, line => line
  | r + 1, j, line => if readyP n line = [] then line else byP n st r (j + 1) (updP line ((readyP n line).getD (((j : Int) * st).fmod ((readyP n line).length : Int)).toNat 0))
theorem readyP_mem {n : Nat} {line : List Int} : ∀ {ks acc : List Int} {k : Int}, k ∈ ks.foldl (readyG line) acc → k ∈ acc ∨ k ∈ ks
  | [], _, _, h => .inl h
  | k₀ :: r, acc, k, h => by
    rcases readyP_mem (n := n) (ks := r) h with h | h
    · unfold readyG at h
      split at h
      · rcases List.mem_append.mp h with h | h
        · exact .inl h
        · exact .inr (List.mem_cons.mpr (.inl (List.mem_singleton.mp h)))
      · exact .inl h
    · exact .inr (List.mem_cons_of_mem _ h)
theorem readyP_in {n : Nat} {line rd : List Int} (h : rd = readyP n line) {i : Nat} (hi : i < rd.length) : 1 ≤ rd.getD i 0 ∧ rd.getD i 0 ≤ n := by
  have hm : rd.getD i 0 ∈ rd := by
    rw [List.getD_eq_getElem?_getD, List.getElem?_eq_getElem hi]
    exact List.getElem_mem hi
  rw [h] at hm
  rcases readyP_mem (n := n) hm with q | q
  · cases q
  · rw [← h] at q
    have q2 := mem_rangeKs q
    (first | lia | omega)

local macro_rules | `(tactic| walk_at "execs cons") => `(tactic| (k_here; k_fold; walk_at "execs cons"))
theorem byn_code {prog : Program} {w : World} {p : Program} {loose : List Str} {mean : ExcName → Option Value} {mg mb : Str → Option Value}
  {dp un : Nat} {gd : Option (List Code)} {cn : Str} {cs : Scope} {a : Addr} {ccd : Value} {cl : List (Str × Addr)} {outer : List Env} {A₀ : Around} {base h₀ : Heap} {L : Addr} {m : Str → Option Value} {s : Shared}
  (B : Below A₀ base outer h₀) (F : Fr h₀ L s.heap m) (X : (SW.hd.heap_39 w.params).In h₀) (T : Top p loose mean mg mb h₀) (hk : cs.kind = .function) {R : Result → Shared → Prop} (hd : dp + 20 < recursionLimit) (hu : un + 100 < cLine) (CH : CodeHd base 138 134)
  {gl : Addr} {vs : List Value} {g : List Int} {st : Int} {t3 : Tok} (hI : IntsAre vs g) (hn1 : 2 ≤ vs.length) (hn2 : vs.length ≤ 4) (hl9 : vs.length = g.length) (h5 : 0 ≤ st) (h6 : st ≤ 6)
  (N : News h₀ L s.heap [(gl, LCg.lst vs)])
  (ret : ∀ ln arr c h' tk', IntsAre arr (byP g.length st 99 0 ([0] ++ g ++ [0])) → (∀ b o, s.heap.get? b = some o → b ≠ ln) → Keep [gl] s.heap h' → Fr h₀ L h' m → News h₀ L h' [(ln, W.listOf arr.toArray c), (gl, LCg.lst vs)] → R (.ok (.ret (.ref ln))) { s with heap := h', toks := tk' }) :
  codeAny (model prog w) (ktrTop dp un gd cn cs L a ccd cl outer) (.call (.ref 158) ⟨[.ref gl, .int st t3], []⟩) R s := by
  k_dflt (walk_at "SW enterKC")
  rename_i g0 L0 h00 tk00 FG0 F0 B0 X0 T0 KG0 ll0 oL dL N0
  k_steps
  rename_i la ha l1 da wsa hb hIa l2 lb hc l3 ln ws hd hI2 l4 he oC dC hf tk1 t1 u1 v1 lR aa i1 hh F1 N1 K1 l5
  obtain ⟨m0, F2⟩ := fr_puts [(Str.ofString "grains", .ref gl), (Str.ofString "stride", .int st t3)] F1 ⟨rfl, rfl, trivial⟩
  have N2 : News g0 L0 hh [(i1, itR ((0 : Nat) : Int) ((99 : Int) - ((0 : Nat) : Int))), (ln, W.listOf ws.toArray 0), (L0 + 1, oC), (gl, LCg.lst vs)] := fun p hp => N1 p (SubL.mem (by k_subL) p hp)
  have hn21 : ln ≠ L0 + 1 := Nat.ne_of_gt l4.2.2.2.1
  have hn22 : ln ≠ gl := Nat.ne_of_gt l4.2.2.2.2
  have hn23 : i1 ≠ ln := Nat.ne_of_gt l5.1
  have hn24 : i1 ≠ gl := Nat.ne_of_gt l5.2.2.2.2.2
  have hn25 : i1 ≠ L0 + 1 := Nat.ne_of_gt l5.2.2.2.2.1
  have hn26 : gl ≠ L0 + 1 := Nat.ne_of_lt (Nat.lt_succ_of_lt ll0)
  clear N1 F1 aa K1 lR N hIa
  obtain ⟨J1, mkJ1, elJ1⟩ : ∃ J1 : Nat → Shared → Prop, (∀ (rem : Nat) (j : Nat) (line : List Int) (arr : List Value) (c : Nat) (h : Heap) (tk : Nat) (m₀ : Str → Option Value), (j + rem = 99) → (IntsAre arr line) → (line.length = g.length + 2) → (byP g.length st rem j line = byP g.length st 99 0 ([0] ++ g ++ [0])) → (Fr g0 L0 h (frm [(Str.ofString "grains", .ref gl), (Str.ofString "stride", .int st t3)] m₀)) → (News g0 L0 h [(i1, itR (j : Int) ((99 : Int) - (j : Int))), (ln, W.listOf arr.toArray c), (L0 + 1, oC), (gl, LCg.lst vs)]) → J1 rem { s with heap := h, toks := tk }) ∧ (∀ (rem : Nat) (s' : Shared), J1 rem s' → ∃ (j : Nat) (line : List Int) (arr : List Value) (c : Nat) (h : Heap) (tk : Nat) (m₀ : Str → Option Value), s' = { s with heap := h, toks := tk } ∧ j + rem = 99 ∧ IntsAre arr line ∧ line.length = g.length + 2 ∧ byP g.length st rem j line = byP g.length st 99 0 ([0] ++ g ++ [0]) ∧
     Fr g0 L0 h (frm [(Str.ofString "grains", .ref gl), (Str.ofString "stride", .int st t3)] m₀) ∧ News g0 L0 h [(i1, itR (j : Int) ((99 : Int) - (j : Int))), (ln, W.listOf arr.toArray c), (L0 + 1, oC), (gl, LCg.lst vs)]) := by
    refine ⟨fun rem s' => ∃ (j : Nat) (line : List Int) (arr : List Value) (c : Nat) (h : Heap) (tk : Nat) (m₀ : Str → Option Value), s' = { s with heap := h, toks := tk } ∧ j + rem = 99 ∧ IntsAre arr line ∧ line.length = g.length + 2 ∧ byP g.length st rem j line = byP g.length st 99 0 ([0] ++ g ++ [0]) ∧
     Fr g0 L0 h (frm [(Str.ofString "grains", .ref gl), (Str.ofString "stride", .int st t3)] m₀) ∧ News g0 L0 h [(i1, itR (j : Int) ((99 : Int) - (j : Int))), (ln, W.listOf arr.toArray c), (L0 + 1, oC), (gl, LCg.lst vs)], ?_, ?_⟩
    · intro _ j line arr c h tk m₀ hC2 hC3 hC4 hC5 hC6 hC7
      exact ⟨j, line, arr, c, h, tk, m₀, rfl, hC2, hC3, hC4, hC5, hC6, hC7⟩
    · intro _ _ h; exact h
  refine codeAny_forLoop J1 ?turn 99 (mkJ1 _ 0 _ _ 0 _ _ m0 rfl hI2 (by simp) rfl F2 N2)
  clear F2 N2 hI2
  intro rem s' hInv0
  k_fold
  obtain ⟨j, line, arr, c, h, tk9, m₀, rfl, hjk, ha3, hlen, hby, F3, N3⟩ := elJ1 _ _ hInv0
  clear hInv0
  have hfr : ∀ b o, s.heap.get? b = some o → b ≠ ln := fun b o e q => by
    subst q
    have e0 : g0.get? b = some o := KG0 b o (fun hm => hn22 (List.mem_singleton.mp hm)) e
    exact absurd ((N3 _ (.tail _ (.head _))).2.2.symm.trans e0) (by simp)
  refine next_rangeO rfl F3 N3 ?offi ?some ?none
  case offi =>
    intro p hp
    simp only [List.mem_cons, List.not_mem_nil, or_false] at hp
    rcases hp with rfl | rfl | rfl
    · exact hn23.symm
    · exact hn25.symm
    · exact hn24.symm
  case none =>
    intro hle h' hkp F4 N4
    clear F3 N3
    k_unfold
    try dsimp only
    have hrem : rem = 0 := by (first | lia | omega)
    subst hrem
    dsimp only [frm] at F4
    k_steps
    rename_i FA NA TA XA
    rw [← hby] at ret
    exact ret ln arr c h' _ ha3 hfr (Keep.then KG0 (Fr.keep F4)) FA (fun p hp => NA p (SubL.mem (by k_subL) p hp))
  case some =>
    intro hlt t0 h' tk' hkp F4 N4
    clear F3 N3
    k_unfold
    try dsimp only
    refine held_turn ?_
    dsimp only [frm] at F4
    k_steps
    refine Wait.mk ?_
    k_dflt (refine LCt.Assign_ListComp_T (F₀ := by k_asm) (by rfl) (by with_unfolding_all rfl) (by with_unfolding_all rfl) (by decide) (by rfl) (by decide) (by rfl) (by rfl) (by rfl) ?_)
    k_dflt lct_toSrc
    refine Wait.mk ?_
    rename IsRange _ _ _ _ _ _ _ _ => lR9
    rename News _ _ _ _ => N5
    rename Fr _ _ _ _ => F5
    have hrs : Builtin.Range.rangeSize 1 ((g.length : Int) + 1) 1 = ((g.length : Nat) : Int) := by rw [rangeSize_nat]; (first | lia | omega)
    refine LCt.CompSrcT.range rfl F5 N5 lR9 (small_one (by first | with_reducible assumption | decide | (first | lia | omega)) (by first | with_reducible assumption | decide | (first | lia | omega)) (by first | with_reducible assumption | decide | (first | lia | omega)) (by first | with_reducible assumption | decide | (first | lia | omega))) hrs (by rw [sizeLine_eq]; (first | lia | omega)) (fun g9 => ?_)
    refine kci_range (readyG line) (fun k' t' I' oI' C' oC' D' m' ys' l' h' tk' E' hlo' hhi' hI' hC' hx' F' N' off' ne' mk' => ?_) (fun ys hys hysl => ?_) ?_
    · clear N5 F5
      (simp only [LCg.Off3, and_true] at off')
      have offq := off'
      obtain ⟨⟨o1, o2, o3⟩, ⟨o4, o5, o6⟩, ⟨o7, o8, o9⟩, o10, o11, o12⟩ := off'
      k_steps
    · intro D h8 tk8 F8 N8 off8
      clear N5 F5
      simp only [LCg.Off1, and_true] at off8
      have offq := off8
      obtain ⟨p1, p2, p3, p4⟩ := off8
      obtain ⟨rd, hrd⟩ : ∃ rd, rd = readyP g.length line := ⟨_, rfl⟩
      replace hys : IntsAre ys rd := hrd ▸ hys
      have hrl : rd.length ≤ g.length := by rw [← hys.length]; exact hysl
      by_cases hr0 : rd = []
      · subst hr0
        k_steps
        (try dsimp only)
        (try refine Held.mk ?_)
        (try dsimp only)
        k_steps
        rename_i FA NA TA XA
        have hby2 : line = byP g.length st 99 0 ([0] ++ g ++ [0]) := by
          obtain ⟨r, rfl⟩ : ∃ r, rem = r + 1 := ⟨rem - 1, by (first | lia | omega)⟩
          refine Eq.trans ?_ hby
          unfold byP
          rw [← hrd, if_pos rfl]
        rw [← hby2] at ret
        rename Fr g0 _ _ _ => FG9
        exact ret ln arr c _ _ ha3 hfr (Keep.then KG0 (Fr.keep FG9)) FA (fun p hp => NA p (SubL.mem (by k_subL) p hp))
      · have hpos : 0 < rd.length := List.length_pos_iff.mpr hr0
        have hi1 : 0 ≤ ((j : Int) * st).fmod (rd.length : Int) := fmod_lo _ (by first | with_reducible assumption | decide | (first | lia | omega))
        have hi2 : ((j : Int) * st).fmod (rd.length : Int) < rd.length := fmod_hi _ (by first | with_reducible assumption | decide | (first | lia | omega))
        have hpl := readyP_in hrd (i := (((j : Int) * st).fmod (rd.length : Int)).toNat) (by first | with_reducible assumption | decide | (first | lia | omega))
        obtain ⟨hp1, hp2⟩ := hpl
        k_steps
        rename News g0 _ _ _ => NA
        rename Fr g0 _ _ _ => FA
        rename IntsAre _ _ => hia
        try dsimp only
        obtain ⟨mA, FB⟩ := fr_puts [(Str.ofString "grains", .ref gl), (Str.ofString "stride", .int st t3)] FA ⟨rfl, rfl, trivial⟩
        replace hia : IntsAre _ (updP line (rd.getD (((j : Int) * st).fmod (rd.length : Int)).toNat 0)) := hia
        obtain ⟨r, rfl⟩ : ∃ r, rem = r + 1 := ⟨rem - 1, by (first | lia | omega)⟩
        refine Held.mk ⟨r, by (first | lia | omega), mkJ1 _ (j + 1) _ _ c _ _ mA (by first | with_reducible assumption | decide | (first | lia | omega)) hia (by rw [updP_length]; exact hlen) ?_ FB (fun p hp => ?_)⟩
        · refine Eq.trans ?_ hby
          conv => rhs; unfold byP
          rw [← hrd, if_neg hr0]
        · rw [show (99 : Int) - ((j + 1 : Nat) : Int) = 99 - j - 1 from by (first | lia | omega)] at hp
          exact NA p (SubL.mem (by k_subL) p hp)
    · intro l k
      unfold readyG
      split <;> simp
end
section
open PySem PySem.W PyProof.Rows PySem.Calls PySem.Spec
set_option maxRecDepth 100000
set_option maxHeartbeats 8000000
local macro_rules | `(tactic| walk_at "exec For Name Call cons nil") => `(tactic| (k_here; k_dflt (refine wpAny_For ?_)))
local macro_rules | `(tactic| walk_at "pyIter ref") => `(tactic| (k_here; (rename IsRange _ _ _ _ _ _ _ _ => lR'); (rename Fr _ _ _ _ => lF'); (rename News _ _ _ _ => lN'); (k_dflt (refine iter_rangeF lR' rfl (by first | decide | omega) (by first | decide | omega) (by first | decide | omega) (by first | decide | omega) lF' lN' ?_)); clear lF' lN'; intro i' h' l1 F' N' K'; (try k_lt l1); (try k_sweep)))

local macro_rules | `(tactic| size_fits) => `(tactic| assumption)
local macro_rules | `(tactic| walk_at "call builtin:sum") => `(tactic| (k_here; k_dflt (refine Wait.out ?_)))

structure RowOk (r : Int × Int × Int) : Prop where
  d1 : 2 ≤ r.1
  d2 : r.1 ≤ 4
  m1 : 0 ≤ r.2.1
  m2 : r.2.1 ≤ 3
  e1 : 0 ≤ r.2.2
  e2 : r.2.2 ≤ 2
def rowOb (r : Int × Int × Int) (t u v : Tok) : Obj := { cls := .type "tuple", data := .seq #[.int r.1 t, .int r.2.1 u, .int r.2.2 v] 0 }
/-- the rows' list, the tuples it names, and what these hold -/
inductive RowsAre : List Value → List (Addr × Obj) → List (Int × Int × Int) → Prop
  | nil : RowsAre [] [] []
  | snoc {arr ts res a r t u v} : RowsAre arr ts res → RowsAre (arr ++ [.ref a]) (ts ++ [(a, rowOb r t u v)]) (res ++ [r])
theorem RowsAre.length {arr : List Value} {ts : List (Addr × Obj)} {res : List (Int × Int × Int)} (h : RowsAre arr ts res) : arr.length = res.length := by
  induction h with
  | nil => rfl
  | snoc _ ih => simp [ih]

local macro_rules | `(tactic| walk_at "execs cons") => `(tactic| (k_here; k_fold; walk_at "execs cons"))
theorem rows_code {prog : Program} {w : World} {p : Program} {loose : List Str} {mean : ExcName → Option Value} {mg mb : Str → Option Value}
  {dp un : Nat} {gd : Option (List Code)} {cn : Str} {cs : Scope} {a : Addr} {ccd : Value} {cl : List (Str × Addr)} {outer : List Env} {A₀ : Around} {base h₀ : Heap} {L : Addr} {m : Str → Option Value} {s : Shared}
  (B : Below A₀ base outer h₀) (F : Fr h₀ L s.heap m) (X : (SW.hd.heap_39 w.params).In h₀) (T : Top p loose mean mg mb h₀) (hk : cs.kind = .function) {R : Result → Shared → Prop} (hd : dp + 20 < recursionLimit) (hu : un + 100 < cLine)
  {sl : Addr} {vs : List Value} {xs : List Int} (hI : IntsAre vs xs) (hlen : xs.length ≤ 63) (hlay : (PyData.list (List.map PyData.int xs)).layable0 = true) (hsl : base.IsList sl vs.toArray)
  (N : News h₀ L s.heap [])
  (ret : ∀ rl ts arr c h' tk' res, RowsAre arr ts res → (∀ r ∈ res, RowOk r) → 2 ≤ res.length → res.length ≤ 4 → (∀ p ∈ ts, p.1 ≠ rl) → Keep [] s.heap h' → (∀ b o, s.heap.get? b = some o → b ≠ rl ∧ ∀ p ∈ ts, p.1 ≠ b) → Fr h₀ L h' m → News h₀ L h' ((rl, W.listOf arr.toArray c) :: ts) → R (.ok (.ret (.ref rl))) { s with heap := h', toks := tk' }) :
  codeAny (model prog w) (ktrTop dp un gd cn cs L a ccd cl outer) (.call (.ref 132) ⟨[.ref sl], []⟩) R s := by
  have hf0 : 0 ≤ (xs.length : Int).fmod 3 := fmod_lo _ (by decide)
  have hf1 : (xs.length : Int).fmod 3 < 3 := fmod_hi _ (by decide)
  obtain ⟨sz, hsz⟩ : ∃ sz : Nat, (4 - (xs.length : Int).fmod 3) = (sz : Int) := ⟨(4 - (xs.length : Int).fmod 3).toNat, by (first | lia | omega)⟩
  have hs2 : 2 ≤ sz := by (first | lia | omega)
  have hs4 : sz ≤ 4 := by (first | lia | omega)
  k_dflt (walk_at "SW enterK")
  rename_i g0 L0 h00 FG0 F0 N0 B0 X0 T0 KG0
  k_steps
  rename_i tz0 hz0 tz1 lf hz1 ltt hz2 tz2 lrw hz3 l3 hz4 hz5 tz3 t1 u1 v1 lR aa i1 hh F1 N1 K1 l5
  rw [hsz, show ((sz : Int) - 0).toNat = sz from by (first | lia | omega)] at N1
  obtain ⟨m0, F2⟩ := fr_puts [(Str.ofString "rows", .ref lrw), (Str.ofString "firsts", .ref lf), (Str.ofString "size", .int (4 - (xs.length : Int).fmod 3) _), (Str.ofString "script", .ref sl)] F1 ⟨rfl, rfl, rfl, rfl, trivial⟩
  rw [hsz] at F2
  obtain ⟨fs, hfs, N2⟩ : ∃ fs, IntsAre fs [13, 3, 24, 6] ∧ News g0 L0 hh ((i1, itR ((0 : Nat) : Int) ((sz : Int) - ((0 : Nat) : Int))) :: (lrw, W.listOf ([] : List Value).toArray 0) :: (lf, W.listOf fs.toArray 0) :: []) := by
    rw [show (sz : Int) - ((0 : Nat) : Int) = sz from by (first | lia | omega)]
    exact ⟨[.int 13 _, .int 3 _, .int 24 _, .int 6 _], by repeat constructor, N1⟩
  have hn1 : i1 ≠ lrw := Nat.ne_of_gt l5.1
  have hn2 : i1 ≠ lf := Nat.ne_of_gt l5.2
  have hn3 : lrw ≠ lf := Nat.ne_of_gt l3
  clear N1 F1 aa K1 lR N
  obtain ⟨J1, mkJ1, elJ1⟩ : ∃ J1 : Nat → Shared → Prop, (∀ (rem : Nat) (j : Nat) (res : List (Int × Int × Int)) (arr : List Value) (ts : List (Addr × Obj)) (c : Nat) (tq : Tok) (h : Heap) (tk : Nat) (m₀ : Str → Option Value), (j + rem = sz) → (RowsAre arr ts res) → ((∀ r ∈ res, RowOk r)) → (res.length = j) → ((∀ p ∈ ts, p.1 ≠ i1 ∧ p.1 ≠ lrw ∧ p.1 ≠ lf)) → (Fr g0 L0 h (frm [(Str.ofString "rows", .ref lrw), (Str.ofString "firsts", .ref lf), (Str.ofString "size", .int (sz : Int) tq), (Str.ofString "script", .ref sl)] m₀)) → (News g0 L0 h ((i1, itR (j : Int) ((sz : Int) - (j : Int))) :: (lrw, W.listOf arr.toArray c) :: (lf, W.listOf fs.toArray 0) :: ts)) → J1 rem { s with heap := h, toks := tk }) ∧ (∀ (rem : Nat) (s' : Shared), J1 rem s' → ∃ (j : Nat) (res : List (Int × Int × Int)) (arr : List Value) (ts : List (Addr × Obj)) (c : Nat) (tq : Tok) (h : Heap) (tk : Nat) (m₀ : Str → Option Value), s' = { s with heap := h, toks := tk } ∧ j + rem = sz ∧ RowsAre arr ts res ∧ (∀ r ∈ res, RowOk r) ∧ res.length = j ∧ (∀ p ∈ ts, p.1 ≠ i1 ∧ p.1 ≠ lrw ∧ p.1 ≠ lf) ∧
     Fr g0 L0 h (frm [(Str.ofString "rows", .ref lrw), (Str.ofString "firsts", .ref lf), (Str.ofString "size", .int (sz : Int) tq), (Str.ofString "script", .ref sl)] m₀) ∧ News g0 L0 h ((i1, itR (j : Int) ((sz : Int) - (j : Int))) :: (lrw, W.listOf arr.toArray c) :: (lf, W.listOf fs.toArray 0) :: ts)) := by
    refine ⟨fun rem s' => ∃ (j : Nat) (res : List (Int × Int × Int)) (arr : List Value) (ts : List (Addr × Obj)) (c : Nat) (tq : Tok) (h : Heap) (tk : Nat) (m₀ : Str → Option Value), s' = { s with heap := h, toks := tk } ∧ j + rem = sz ∧ RowsAre arr ts res ∧ (∀ r ∈ res, RowOk r) ∧ res.length = j ∧ (∀ p ∈ ts, p.1 ≠ i1 ∧ p.1 ≠ lrw ∧ p.1 ≠ lf) ∧
     Fr g0 L0 h (frm [(Str.ofString "rows", .ref lrw), (Str.ofString "firsts", .ref lf), (Str.ofString "size", .int (sz : Int) tq), (Str.ofString "script", .ref sl)] m₀) ∧ News g0 L0 h ((i1, itR (j : Int) ((sz : Int) - (j : Int))) :: (lrw, W.listOf arr.toArray c) :: (lf, W.listOf fs.toArray 0) :: ts), ?_, ?_⟩
    · intro _ j res arr ts c tq h tk m₀ hC2 hC3 hC4 hC5 hC6 hC7 hC8
      exact ⟨j, res, arr, ts, c, tq, h, tk, m₀, rfl, hC2, hC3, hC4, hC5, hC6, hC7, hC8⟩
    · intro _ _ h; exact h
  refine codeAny_forLoop J1 ?turn sz (mkJ1 _ 0 ([]) ([]) ([]) 0 _ _ _ m0 (Nat.zero_add _) .nil (fun _ h => nomatch h) rfl (fun _ h => nomatch h) F2 N2)
  clear F2 N2
  intro rem s' hInv0
  k_fold
  obtain ⟨j, res, arr, ts, c, tq, h, tk9, m₀, rfl, hjk, hrows, hok, hrl, hoff, F3, N3⟩ := elJ1 _ _ hInv0
  clear hInv0
  refine next_rangeO rfl F3 N3 ?offi ?some ?none
  case offi =>
    intro p hp
    rcases List.mem_cons.mp hp with rfl | hp
    · exact hn1.symm
    · rcases List.mem_cons.mp hp with rfl | hp
      · exact hn2.symm
      · exact (hoff p hp).1
  case none =>
    intro hle h' hkp F4 N4
    clear F3 N3
    k_unfold
    try dsimp only
    dsimp only [frm] at F4
    have hfr : ∀ b o, s.heap.get? b = some o → b ≠ lrw ∧ ∀ p ∈ ts, p.1 ≠ b := fun b o e => by
      have e0 : g0.get? b = some o := KG0 b o (fun hm => nomatch hm) e
      refine ⟨fun q => ?_, fun p hp q => ?_⟩ <;> (subst q)
      · exact absurd ((N4 _ (.head _)).2.2.symm.trans e0) (by simp)
      · exact absurd ((N4 _ (.tail _ (.tail _ hp))).2.2.symm.trans e0) (by simp)
    k_steps
    rename_i FA NA TA XA
    exact ret lrw ts arr c h' _ res hrows hok (by first | with_reducible assumption | decide | (first | lia | omega)) (by first | with_reducible assumption | decide | (first | lia | omega)) (fun p hp => (hoff p hp).2.1) (Keep.then KG0 (Fr.keep F4)) hfr FA (fun p hp => NA p (by
      rcases List.mem_cons.mp hp with h | h
      · rw [h]; exact .head _
      · exact .tail _ (.tail _ h)))
  case some =>
    intro hlt t0 h' tk' hkp F4 N4
    clear F3 N3
    k_unfold
    try dsimp only
    refine held_turn ?_
    dsimp only [frm] at F4
    k_steps
    refine Wait.mk ?_
    rename News _ _ _ _ => N5
    rename Fr _ _ _ _ => F5
    refine sumK (vs := (slicePick vs.toArray (some (j : Int)) (some 24) (some (sz : Int))).toList) rfl F5 N5 (News.isList N5 (.head _)) (IntsAre.pick hI (some (j : Int)) (some 24) (some (sz : Int))) ?_
    generalize (pickNums xs (some (j : Int)) (some 24) (some (sz : Int))).sum = S
    intro h5 tk5 t5 F6 N6
    have N7 : News g0 L0 h5 ((i1, itR ((j : Int) + 1) ((sz : Int) - j - 1)) :: (lrw, W.listOf arr.toArray c) :: (lf, W.listOf fs.toArray 0) :: ts) := fun p hp => N6 p (.tail _ hp)
    clear N5 F5 N6
    have harr : arr.toArray.size ≤ sizeLine := by rw [sizeLine_eq, List.size_toArray, hrows.length]; (first | lia | omega)
    have hts : ∀ p ∈ ts, p.1 ≠ lrw := fun p hp => (hoff p hp).2.1
    k_steps
    rename News _ _ _ _ => N8
    rename Fr _ _ _ _ => F8
    rename_i D9 hx2 lD hC
    obtain ⟨q1, q2, q3, q4⟩ := lD
    try dsimp only
    rw [List.push_toArray] at N8
    obtain ⟨v, hv⟩ : ∃ v : Int, v = ([13, 3, 24, 6].getD (j : Int).toNat 0 + S).fmod 1000000 := ⟨_, rfl⟩
    rw [← hv] at N8
    obtain ⟨ta, tb, tc, N9⟩ : ∃ ta tb tc, News g0 L0 hC ((D9, rowOb (2 + v.fmod 3, (v.fdiv 3).fmod 4, (v.fdiv 12).fmod 3) ta tb tc) :: (i1, itR ((j : Int) + 1) ((sz : Int) - j - 1)) :: (lrw, W.listOf (arr ++ [Value.ref D9]).toArray (c + 1)) :: (lf, W.listOf fs.toArray 0) :: ts) := ⟨_, _, _, N8⟩
    have hro : RowOk (2 + v.fmod 3, (v.fdiv 3).fmod 4, (v.fdiv 12).fmod 3) := by
      have a1 : 0 ≤ v.fmod 3 := fmod_lo _ (by decide)
      have a2 : v.fmod 3 < 3 := fmod_hi _ (by decide)
      have a3 : 0 ≤ (v.fdiv 3).fmod 4 := fmod_lo _ (by decide)
      have a4 : (v.fdiv 3).fmod 4 < 4 := fmod_hi _ (by decide)
      have a5 : 0 ≤ (v.fdiv 12).fmod 3 := fmod_lo _ (by decide)
      have a6 : (v.fdiv 12).fmod 3 < 3 := fmod_hi _ (by decide)
      constructor <;> dsimp only <;> (first | lia | omega)
    obtain ⟨mA, FB⟩ := fr_puts [(Str.ofString "rows", .ref lrw), (Str.ofString "firsts", .ref lf), (Str.ofString "size", .int (sz : Int) tq), (Str.ofString "script", .ref sl)] F8 ⟨rfl, rfl, rfl, rfl, trivial⟩
    obtain ⟨r, rfl⟩ : ∃ r, rem = r + 1 := ⟨rem - 1, by (first | lia | omega)⟩
    refine Held.mk ⟨r, by (first | lia | omega), mkJ1 _ (j + 1) (res ++ [(2 + v.fmod 3, (v.fdiv 3).fmod 4, (v.fdiv 12).fmod 3)]) (arr ++ [Value.ref D9]) (ts ++ [(D9, rowOb (2 + v.fmod 3, (v.fdiv 3).fmod 4, (v.fdiv 12).fmod 3) ta tb tc)]) (c + 1) tq _ _ mA (by first | with_reducible assumption | decide | (first | lia | omega)) hrows.snoc ?_ (by rw [List.length_append, hrl]; rfl) ?_ FB (fun p hp => ?_)⟩
    · intro r hr
      rcases List.mem_append.mp hr with h | h
      · exact hok r h
      · rw [List.mem_singleton.mp h]; exact hro
    · intro p hp
      rcases List.mem_append.mp hp with h | h
      · exact hoff p h
      · rw [List.mem_singleton.mp h]
        exact ⟨Nat.ne_of_gt q1, Nat.ne_of_gt q2, Nat.ne_of_gt q3⟩
    · rw [show (sz : Int) - ((j + 1 : Nat) : Int) = (sz : Int) - j - 1 from by (first | lia | omega)] at hp
      refine N9 p ?_
      simp only [List.mem_cons, List.mem_append, List.not_mem_nil, or_false] at hp ⊢
      rcases hp with h | h | h | h | h <;> simp [h]
end
section
open PySem PySem.W PyProof.Rows PySem.Calls PySem.Spec
set_option maxRecDepth 100000
set_option maxHeartbeats 4000000
structure ItL (o : Obj) (l : Addr) (i : Nat) : Prop where
  c : o.cls = .type "list_iterator"
  d : o.data = .fields #[.ref l, .int i 0]
section
variable {prog : Program} {w : World} {A : Around} {E : Value → Shared → Prop} {s : Shared} {h₀ : Heap} {L : Addr} {m : Str → Option Value} {news : List (Addr × Obj)}
theorem iter_listF {l : Addr} {arr : List Value} {c : Nat} {Q : Value → Shared → Prop} (F : Fr h₀ L s.heap m) (N : News h₀ L s.heap news) (hm : (l, W.listOf arr.toArray c) ∈ news)
    (h : ∀ I oi h', ItL oi l 0 → (∀ p ∈ news, p.1 < I) → Fr h₀ L h' m → News h₀ L h' ((I, oi) :: news) → (∀ b o, s.heap.get? b = some o → h'.get? b = some o) → Q (.ref I) { s with heap := h' }) : wpAny (model prog w) A (pyIter (.ref l)) Q E s := by
  refine wpAny_pyIter_list (News.isList N hm) ?_
  exact h _ { cls := .type "list_iterator", data := .fields #[.ref l, .int 0 0] } _ ⟨rfl, rfl⟩ (fun p hp => Heap.lt_size (N p hp).1) (F.push _) (N.push F _) (fun b o e => Heap.get?_push_of_some _ e)
theorem next_listO {I l : Addr} {oi : Obj} {i : Nat} {arr : List Value} {c : Nat} {Q : Option Value → Shared → Prop} (hh : A.handled = none) (F : Fr h₀ L s.heap m) (N : News h₀ L s.heap ((I, oi) :: news)) (hoi : ItL oi l i) (hm : (l, W.listOf arr.toArray c) ∈ news) (hoff : ∀ p ∈ news, p.1 ≠ I)
    (some_ : ∀ v, arr[i]? = some v → ∀ oi' h', ItL oi' l (i + 1) → (∀ b o, b ≠ I → s.heap.get? b = some o → h'.get? b = some o) → Fr h₀ L h' m → News h₀ L h' ((I, oi') :: news) → Q (some v) { s with heap := h' })
    (none_ : arr[i]? = none → ∀ h', (∀ b o, b ≠ I → s.heap.get? b = some o → h'.get? b = some o) → Fr h₀ L h' m → News h₀ L h' news → Q none { s with heap := h' }) : wpAny (model prog w) A (pyNext (.ref I)) Q E s := by
  have hI := N _ (.head _)
  have hI' : h₀.get? I = none ∧ I ≠ L := ⟨hI.2.2, hI.2.1⟩
  have N1 : News h₀ L s.heap news := fun p hp => N p (.tail _ hp)
  have hit : s.heap.IsListIter I l i := ⟨oi, hI.1, hoi.c, hoi.d⟩
  have hl : s.heap.IsList l arr.toArray := News.isList N1 hm
  cases hx : arr[i]? with
  | some v =>
    refine wpAny_pyNext_list_item hit hl (x := v) (by simpa using hx) fun h' hit' hs => ?_
    obtain ⟨oi', e1, e2, e3⟩ := hit'
    have hkp : ∀ b o, b ≠ I → s.heap.get? b = some o → h'.get? b = some o := fun b o hb e => (hs.2 b hb).trans e
    obtain ⟨F', N'⟩ := kept_but F N1 hI' hoff hkp
    refine some_ v hx oi' h' ⟨e2, e3⟩ hkp F' fun p hp => ?_
    rcases List.mem_cons.mp hp with rfl | hp
    · exact ⟨e1, hI.2⟩
    · exact N' p hp
  | none =>
    refine wpAny_pyNext_list_end hh hit hl (by simpa using hx) fun h' hk => ?_
    have hkp : ∀ b o, b ≠ I → s.heap.get? b = some o → h'.get? b = some o := fun b o hb e => hk b o hb e
    obtain ⟨F', N'⟩ := kept_but F N1 hI' hoff hkp
    exact none_ hx h' hkp F' N'
end
end
section
open PySem PySem.W PyProof.Rows PySem.Calls PySem.Spec
set_option maxRecDepth 100000
set_option maxHeartbeats 8000000
local macro_rules | `(tactic| walk_at "exec For Tuple Name cons nil") => `(tactic| (k_here; k_dflt (refine wpAny_For ?_)))
local macro_rules | `(tactic| walk_at "pyIter ref") => `(tactic| (k_here; k_dflt (refine Wait.out ?_)))
local macro_rules | `(tactic| size_fits) => `(tactic| assumption)
local macro_rules | `(tactic| walk_at "subscriptTail Name Name ref int") => `(tactic| (k_here; k_dflt (refine Wait.out ?_)))

section
variable {prog : Program} {w : World} {A A₀ : Around} {s : Shared} {K : Frag} {L : Addr} {h₀ base : Heap} {m mg mb : Str → Option Value} {news : List (Addr × Obj)} {p : Program} {loose : List Str} {mean : ExcName → Option Value}
/-- a def made in the call is entered, with Keep -/
theorem code_nestK {env : Env} {outer : List Env} {R : Result → Shared → Prop} {name qual : Str} {params : Arguments} {body : List Stmt} {scope : Scope} {cl : List (Str × Addr)} {doc pm ctv : Value} {c' : Addr} {f : Addr} {args : Args} {binds : List (Str × Value)}
    (B : Below A₀ base outer h₀) (F : Fr h₀ L s.heap m) (X₀ : K.In h₀) (N : News h₀ L s.heap news) (T : Top p loose mean mg mb h₀) (hA : A.frames = some (env :: outer)) (hf : env.frame = some L) (hke : env.scope.kind = .function)
    (ho : (f, fnMade name qual params body scope cl doc pm c' ctv) ∈ news) (hcd : s.heap.CodeRec (.ref c') qual) (hroom : A.depth < recursionLimit)
    (hbind : BindsTo s (fnX name qual params body scope cl .none .none doc pm none (.ref c') ctv) args binds) (hloc : ∀ y ∈ binds, scope.names.lookup y.1 = some .local)
    (h : ∀ g L' h₁, Fr h₀ L g m → Fr g L' h₁ (fun y => binds.reverse.lookup y) → News g L' h₁ news → Below A base (env :: outer) g → K.In g → Top p loose mean mg mb g → Keep (news.map (·.1)) s.heap g →
      wpAny (model prog w) (A.deeper (envX qual scope L' f (.ref c') cl)) (execs body (envX qual scope L' f (.ref c') cl))
        (fun fl s' => LeaveK h₀ L m g R (match fl with | .ret v => v | _ => .none) s')
        (fun e s' => wpAny (model prog w) (A.deeper (envX qual scope L' f (.ref c') cl)) (leaving (envX qual scope L' f (.ref c') cl) e) (fun _ s'' => R (.error e) s'') (fun e' s'' => R (.error e') s'') s')
        { s with heap := h₁, toks := s.toks + binds.length })
    (hco : scope.isCoroutine = false) (hgen : scope.isGenerator = false) (hk : scope.kind = .function)
    (hcell : ∀ x ∈ scope.names, x.2 ≠ .cell) : codeAny (model prog w) A (.call (.ref f) args) R s := by
  obtain ⟨FG, BG, st, lv⟩ := groundX (R := R) B F N hA hf hke
  refine codeAny_call_def (fd := fnX name qual params body scope cl .none .none doc pm none (.ref c') ctv) (body := body) (binds := binds) hroom (N _ ho).1 rfl (T.nolimit.keeps F.keep) hcd rfl hbind hcell hloc (fun h₁ hns hk₁ => ?_) hco hgen hk
  exact wpAny_mono (h _ s.heap.objs.size h₁ FG ⟨hns, fun b o e => hk₁ b o (of_hideAll _ e), Nat.le_of_eq (hideAll_size _ _)⟩
    (fun p hp => ⟨hk₁ _ _ (N p hp).1, Nat.ne_of_lt (Heap.lt_size (N p hp).1), hideAll_none _ (List.mem_map_of_mem hp)⟩) BG (X₀.keeps st) (T.keeps st) (fun b o hn e => hideAll_get _ e hn)) (fun fl s' hl => lv _ _ hl) fun _ _ y => y
end
local macro_rules | `(tactic| walk_at "SW enterN") => `(tactic| (refine' code_nestK ?k1 ?k2 ?k3 ?k4 ?k5 ?kA ?kF ?kK ?k6 ?k7 ?k8 ?k9 ?kB ?_ ?c2 ?c3 ?c4 ?c5; (case kA | kF => exact rfl); (case kK => first | exact rfl | assumption); (case k1 | k2 | k3 | k4 | k5 => k_asm); (case k6 => k_mem); (case k7 => exact codeRec_news (by k_asm) (by k_mem) (by assumption) (by assumption)); (case k8 => ktr_room); (case k9 => exact BindsTo.of_eq rfl); (case c5 => decide); (case kB => exact locs rfl); (case c2 | c3 | c4 => exact rfl); k_whole; intro g' L' h' FG' F' N' B' X' T' KG'; (try dsimp only); (try k_lift B'); (try k_fold)))
theorem nc {h₀ h : Heap} {L a : Addr} {o : Obj} {r : List (Addr × Obj)} (hp : h.get? a = some o ∧ a ≠ L ∧ h₀.get? a = none) (N : News h₀ L h r) : News h₀ L h ((a, o) :: r) := fun p hm => by
  rcases List.mem_cons.mp hm with rfl | hm
  · exact hp
  · exact N p hm
theorem dots_len : ∀ (b : Bool) (l : List Nat), (dots b l).length ≤ 2 * l.length
  | _, [] => Nat.le_refl _
  | b, c :: r => by
    show (if b = true ∧ c = 46 then 46 :: 46 :: dots false r else c :: dots (c == 10) r).length ≤ _
    have h1 := dots_len false r
    have h2 := dots_len (c == 10) r
    split <;> simp only [List.length_cons] <;> (first | lia | omega)
theorem held_any {M : Model} {A : Around} {E E' : Value → Shared → Prop} {s : Shared} {env : Env} {tg : Expr} {v : Value} {body : List Stmt} {Q : Flow → Shared → Prop}
    (h : wpAny M A (assign tg env v) (fun _ s₂ => wpAny M A (execs body env) (fun f s₃ => Held (Q f s₃)) E s₂) E' s) :
    wpAny M A (assign tg env v) (fun _ s₂ => wpAny M A (execs body env) (fun f s₃ => Q f s₃) E s₂) E' s :=
  wpAny_mono h (fun _ _ h' => wpAny_mono h' (fun _ _ h'' => h''.out) fun _ _ e => e) fun _ _ e => e
theorem RowsAre.at {arr : List Value} {ts : List (Addr × Obj)} {res : List (Int × Int × Int)} (h : RowsAre arr ts res) : ∀ {i : Nat} {v : Value}, arr[i]? = some v → ∃ a r t u w, v = .ref a ∧ (a, rowOb r t u w) ∈ ts ∧ res[i]? = some r := by
  induction h with
  | nil => intro i v h; simp at h
  | @snoc arr ts res a r t u w hr ih =>
    intro i v h
    by_cases hi : i < arr.length
    · rw [List.getElem?_append_left hi] at h
      obtain ⟨a', r', t', u', w', e1, e2, e3⟩ := ih h
      exact ⟨a', r', t', u', w', e1, List.mem_append_left _ e2, by rw [List.getElem?_append_left (by rw [← hr.length]; exact hi)]; exact e3⟩
    · rw [List.getElem?_append_right (by first | with_reducible assumption | decide | (first | lia | omega))] at h
      have h0 : i - arr.length = 0 := by
        cases hq : i - arr.length with
        | zero => rfl
        | succ k => rw [hq] at h; simp at h
      rw [h0] at h
      cases h
      refine ⟨a, r, t, u, w, rfl, List.mem_append_right _ (.head _), ?_⟩
      rw [List.getElem?_append_right (by rw [← hr.length]; (first | lia | omega)), ← hr.length, h0]
      rfl
def headT (m : Int) : List Nat := if m = 0 then [] else if m = 1 then [34] else if m = 2 then [92] else [32]
def endT (e : Int) : List Nat := if e = 0 then [10] else if e = 1 then [13] else [13, 10]
def rowTxt (r : Int × Int × Int) : List Nat := headT r.2.1 ++ List.replicate r.1.toNat 46 ++ (if r.2.1 = 1 then [34] else []) ++ endT r.2.2
def headS : List Str := [Str.ofString "", Str.ofString "\"", Str.ofString "\\", Str.ofString " "]
def endS : List Str := [Str.ofString "\n", Str.ofString "\r", Str.ofString "\r\n"]
theorem head_ok {m : Int} (h0 : 0 ≤ m) (h1 : m ≤ 3) : (headS.getD m.toNat Str.empty).cps.toList = headT m ∧ (headS.getD m.toNat Str.empty).length ≤ 1 := by
  have : m = 0 ∨ m = 1 ∨ m = 2 ∨ m = 3 := by (first | lia | omega)
  rcases this with rfl | rfl | rfl | rfl <;> decide +kernel
theorem end_ok {m : Int} (h0 : 0 ≤ m) (h1 : m ≤ 2) : (endS.getD m.toNat Str.empty).cps.toList = endT m ∧ (endS.getD m.toNat Str.empty).length ≤ 2 := by
  have : m = 0 ∨ m = 1 ∨ m = 2 := by (first | lia | omega)
  rcases this with rfl | rfl | rfl <;> decide +kernel
theorem mul_ok {d : Int} (h0 : 2 ≤ d) (h1 : d ≤ 4) : (Txt.mul (Str.ofString ".") d).cps.toList = List.replicate d.toNat 46 := by
  have : d = 2 ∨ d = 3 ∨ d = 4 := by (first | lia | omega)
  rcases this with rfl | rfl | rfl <;> decide +kernel
def mailT (res : List (Int × Int × Int)) : List Nat := (res.map rowTxt).flatten
theorem mail_succ {res : List (Int × Int × Int)} {j : Nat} {r : Int × Int × Int} (h : res[j]? = some r) : mailT (res.take (j + 1)) = mailT (res.take j) ++ rowTxt r := by
  unfold mailT
  rw [List.take_succ, h, List.map_append, List.flatten_append]
  simp
theorem str_len_append (x y : Str) : (x ++ y).length = x.length + y.length := by
  show (x ++ y).cps.size = x.cps.size + y.cps.size
  rw [Str.cps_append, Array.size_append]

local macro_rules | `(tactic| walk_at "execs cons") => `(tactic| (k_here; k_fold; walk_at "execs cons"))
theorem lexer_code {prog : Program} {w : World} {p : Program} {loose : List Str} {mean : ExcName → Option Value} {mg mb : Str → Option Value}
  {dp un : Nat} {gd : Option (List Code)} {cn : Str} {cs : Scope} {a : Addr} {ccd : Value} {cl : List (Str × Addr)} {outer : List Env} {A₀ : Around} {base h₀ : Heap} {L : Addr} {m : Str → Option Value} {s : Shared}
  (B : Below A₀ base outer h₀) (F : Fr h₀ L s.heap m) (X : (SW.hd.heap_39 w.params).In h₀) (T : Top p loose mean mg mb h₀) (hk : cs.kind = .function) {R : Result → Shared → Prop} (hd : dp + 20 < recursionLimit) (hu : un + 100 < cLine) (CH : CodeHd base 138 134)
  {rl : Addr} {c : Nat} {arr : List Value} {ts : List (Addr × Obj)} {res : List (Int × Int × Int)} (hrows : RowsAre arr ts res) (hok : ∀ r ∈ res, RowOk r) (hr4 : res.length ≤ 4) (hts : ∀ p ∈ ts, p.1 ≠ rl)
  (h134 : (134 : Nat) ≠ rl) (hts4 : ∀ p ∈ ts, p.1 ≠ 134)
  (N : News h₀ L s.heap ((134, tabObj #[]) :: (rl, W.listOf arr.toArray c) :: ts))
  (ret : ∀ (l : LexS) (tn tp : Tok) (h' : Heap) (tk' : Nat), l.Ok → l.Reads prog w p loose mean mg mb → l.sent.cps.toList = dots true (crlf (mailT res)) → (∀ b o, s.heap.get? b = some o → b ≠ 134 → b ∉ l.adr) → (∃ ps, ((134 : Addr), tabObj ps) ∈ l.aux) → Keep (134 :: rl :: ts.map (·.1)) s.heap h' → Fr h₀ L h' m →
    News h₀ L h' (l.led 1 tn [] 0 0 tp 0 ++ ((rl, W.listOf arr.toArray c) :: ts)) → R (.ok (.ret (.ref l.x))) { s with heap := h', toks := tk' }) :
  codeAny (model prog w) (ktrTop dp un gd cn cs L a ccd cl outer) (.call (.ref 139) ⟨[.ref rl], []⟩) R s := by
  k_dflt (walk_at "SW enterKC")
  rename_i g0 L0 h00 tk00 FG0 F0 B0 X0 T0 KG0 ll0 oS oP dS dP N0
  k_steps
  refine Wait.mk ?_
  rename News _ _ _ _ => N1
  rename Fr _ _ _ _ => F1
  rename_i lh hh1 l1 hh2 tke le hh3 l2 hh4 hh5
  refine iter_listF F1 N1 (.tail _ (.tail _ (.tail _ (.tail _ (.tail _ (.head _)))))) fun I oi h' hoi hlt F2 N2 hkp2 => ?_
  obtain ⟨tm, m0, F3⟩ : ∃ tm m₀, Fr g0 L0 h' (frm [(Str.ofString "mail", .str (Str.ofString "") tm), (Str.ofString "ends", .ref le), (Str.ofString "heads", .ref lh), (Str.ofString "rows", .ref rl)] m₀) := by
    obtain ⟨m0, F3⟩ := fr_puts [(Str.ofString "mail", .str (Str.ofString "") _), (Str.ofString "ends", .ref le), (Str.ofString "heads", .ref lh), (Str.ofString "rows", .ref rl)] F2 ⟨rfl, rfl, rfl, rfl, trivial⟩
    exact ⟨_, m0, F3⟩
  obtain ⟨es, hs, hes, hhs, N3⟩ : ∃ es hs, StrsAre es endS ∧ StrsAre hs headS ∧ News g0 L0 h' ((I, oi) :: (le, W.listOf es.toArray 0) :: (lh, W.listOf hs.toArray 0) :: (L0 + 1 + 1, oS) :: (L0 + 1, oP) :: (134, tabObj #[]) :: (rl, W.listOf arr.toArray c) :: ts) := ⟨[.str _ _, .str _ _, .str _ _], [.str _ _, .str _ _, .str _ _, .str _ _], by repeat constructor, by repeat constructor, N2⟩
  have hI1 : le ≠ I := Nat.ne_of_lt (hlt _ (.head _))
  have hI2 : lh ≠ I := Nat.ne_of_lt (hlt _ (.tail _ (.head _)))
  have hI3 : L0 + 1 + 1 ≠ I := Nat.ne_of_lt (hlt _ (.tail _ (.tail _ (.head _))))
  have hI4 : L0 + 1 ≠ I := Nat.ne_of_lt (hlt _ (.tail _ (.tail _ (.tail _ (.head _)))))
  have hI7 : 134 ≠ I := Nat.ne_of_lt (hlt _ (.tail _ (.tail _ (.tail _ (.tail _ (.head _))))))
  have hI5 : rl ≠ I := Nat.ne_of_lt (hlt _ (.tail _ (.tail _ (.tail _ (.tail _ (.tail _ (.head _)))))))
  have hI6 : ∀ p ∈ ts, p.1 ≠ I := fun p hp => Nat.ne_of_lt (hlt _ (.tail _ (.tail _ (.tail _ (.tail _ (.tail _ (.tail _ hp)))))))
  clear N1 F1 F2 N2 hkp2 hlt N
  obtain ⟨J1, mkJ1, elJ1⟩ : ∃ J1 : Nat → Shared → Prop, (∀ (rem : Nat) (j : Nat) (mail : Str) (tm : Tok) (oi : Obj) (h : Heap) (tk : Nat) (m₀ : Str → Option Value), (j + rem = res.length) → (mail.cps.toList = mailT (res.take j)) → (mail.length ≤ 10 * j) → (ItL oi rl j) → (Fr g0 L0 h (frm [(Str.ofString "mail", .str mail tm), (Str.ofString "ends", .ref le), (Str.ofString "heads", .ref lh), (Str.ofString "rows", .ref rl)] m₀)) → (News g0 L0 h ((I, oi) :: (le, W.listOf es.toArray 0) :: (lh, W.listOf hs.toArray 0) :: (L0 + 1 + 1, oS) :: (L0 + 1, oP) :: (134, tabObj #[]) :: (rl, W.listOf arr.toArray c) :: ts)) → J1 rem { s with heap := h, toks := tk }) ∧ (∀ (rem : Nat) (s' : Shared), J1 rem s' → ∃ (j : Nat) (mail : Str) (tm : Tok) (oi : Obj) (h : Heap) (tk : Nat) (m₀ : Str → Option Value), s' = { s with heap := h, toks := tk } ∧ j + rem = res.length ∧ mail.cps.toList = mailT (res.take j) ∧ mail.length ≤ 10 * j ∧ ItL oi rl j ∧
     Fr g0 L0 h (frm [(Str.ofString "mail", .str mail tm), (Str.ofString "ends", .ref le), (Str.ofString "heads", .ref lh), (Str.ofString "rows", .ref rl)] m₀) ∧ News g0 L0 h ((I, oi) :: (le, W.listOf es.toArray 0) :: (lh, W.listOf hs.toArray 0) :: (L0 + 1 + 1, oS) :: (L0 + 1, oP) :: (134, tabObj #[]) :: (rl, W.listOf arr.toArray c) :: ts)) := by
    refine ⟨fun rem s' => ∃ (j : Nat) (mail : Str) (tm : Tok) (oi : Obj) (h : Heap) (tk : Nat) (m₀ : Str → Option Value), s' = { s with heap := h, toks := tk } ∧ j + rem = res.length ∧ mail.cps.toList = mailT (res.take j) ∧ mail.length ≤ 10 * j ∧ ItL oi rl j ∧
     Fr g0 L0 h (frm [(Str.ofString "mail", .str mail tm), (Str.ofString "ends", .ref le), (Str.ofString "heads", .ref lh), (Str.ofString "rows", .ref rl)] m₀) ∧ News g0 L0 h ((I, oi) :: (le, W.listOf es.toArray 0) :: (lh, W.listOf hs.toArray 0) :: (L0 + 1 + 1, oS) :: (L0 + 1, oP) :: (134, tabObj #[]) :: (rl, W.listOf arr.toArray c) :: ts), ?_, ?_⟩
    · intro _ j mail tm oi h tk m₀ hC2 hC3 hC4 hC5 hC6 hC7
      exact ⟨j, mail, tm, oi, h, tk, m₀, rfl, hC2, hC3, hC4, hC5, hC6, hC7⟩
    · intro _ _ h; exact h
  refine codeAny_forLoop_any J1 ?turn res.length (mkJ1 _ 0 (Str.ofString "") tm oi _ _ m0 (Nat.zero_add _) (by rw [List.take_zero]; decide +kernel) (by decide +kernel) hoi F3 N3)
  clear F3 N3 hoi
  intro rem s' hInv0
  k_fold
  obtain ⟨j, mail, tm, oi, h, tk9, m₀, rfl, hjk, hml, hmn, hoi, F3, N3⟩ := elJ1 _ _ hInv0
  clear hInv0
  refine next_listO (l := rl) (i := j) (arr := arr) (c := c) rfl F3 N3 hoi (.tail _ (.tail _ (.tail _ (.tail _ (.tail _ (.head _)))))) ?offi ?some ?none
  case offi =>
    intro p hp
    simp only [List.mem_cons] at hp
    rcases hp with rfl | rfl | rfl | rfl | rfl | rfl | hp
    · exact hI1
    · exact hI2
    · exact hI3
    · exact hI4
    · exact hI7
    · exact hI5
    · exact hI6 p hp
  case none =>
    intro hle h' hkp F4 N4
    clear F3 N3
    k_unfold
    try dsimp only
    dsimp only [frm] at F4
    have hjr : j = res.length := by
      have := List.getElem?_eq_none_iff.mp hle
      rw [hrows.length] at this
      (first | lia | omega)
    subst hjr
    rw [List.take_length] at hml
    have hsz : mail.cps.size ≤ 1000 := by have : mail.length ≤ 1000 := (by first | with_reducible assumption | decide | (first | lia | omega)); exact this
    have dS2 : oS.data = .cell none := dS
    have dP2 : oP.data = .cell none := dP
    clear dS dP
    have z1 : ∀ p ∈ ts, p.1 ≠ L0 + 1 + 1 := fun p hp => by have := kst_ltOf ll0.2.2 p hp; exact Nat.ne_of_lt (Nat.lt_succ_of_lt (Nat.lt_succ_of_lt this))
    have z2 : ∀ p ∈ ts, p.1 ≠ L0 + 1 := fun p hp => by have := kst_ltOf ll0.2.2 p hp; exact Nat.ne_of_lt (Nat.lt_succ_of_lt this)
    k_steps
    rename_i y tyy h21 tk1 hy h20 oS1 dS3 tk5 pl h19 lpl h18 oP1 dP3 tk4 rd rc oc vsc ttc ct dc h17 tk0 d1 d2 lrc lrd h16 y1 dy h15 ldy ly g1 L1 h14 B1 X1 T1 qk1 ek1 tk3 h13 h12 h11 ypb h10 lypb hq9 F2 N2 tk2 Tc1 kX1 h8 tk1b h7 xx dx h6 F1 N1 ldx lx g2 L2 h5 FG2 B2 X2 T2 tk0b h4 h3 h2 pb h1 lpb hh F0 N0 kF kN Tc kX FZ NZ TZ XZ
    have hslen : y.length ≤ 1000 := by
      have e1 := dots_len true (crlf mail.cps.toList)
      have e2 := crlf_len mail.cps.toList
      rw [← hy] at e1
      have e3 : mail.cps.toList.length = mail.length := Array.length_toList
      have e4 : y.cps.toList.length = y.length := Array.length_toList
      (first | lia | omega)
    have hAll : ∀ b, b ∈ [pb, dx, xx, y1, dy, pl, rd, rc, L0 + 1 + 1, L0 + 1] → g0.get? b = none ∧ @LT.lt Nat _ L0 b := fun b hb => by
      simp only [List.mem_cons, List.not_mem_nil, or_false] at hb
      rcases hb with rfl | rfl | rfl | rfl | rfl | rfl | rfl | rfl | rfl | rfl
      · exact ⟨(kN _ (.head _)).2.2, by first | (refine Nat.lt_of_succ_lt ?_; (first | with_reducible exact ll0.1 | with_reducible exact ll0.2.1 | with_reducible exact l1.1 | with_reducible exact l1.2.1 | with_reducible exact l1.2.2.1 | with_reducible exact l1.2.2.2.1 | with_reducible exact l2.1 | with_reducible exact l2.2.1 | with_reducible exact l2.2.2.1 | with_reducible exact l2.2.2.2.1 | with_reducible exact l2.2.2.2.2.1 | with_reducible exact lpl.1 | with_reducible exact lpl.2.1 | with_reducible exact lpl.2.2.1 | with_reducible exact lpl.2.2.2.1 | with_reducible exact lpl.2.2.2.2.1 | with_reducible exact lpl.2.2.2.2.2.1 | with_reducible exact lrc.1 | with_reducible exact lrc.2.1 | with_reducible exact lrc.2.2.1 | with_reducible exact lrc.2.2.2.1 | with_reducible exact lrc.2.2.2.2.1 | with_reducible exact lrc.2.2.2.2.2.1 | with_reducible exact lrc.2.2.2.2.2.2.1 | with_reducible exact lrd | with_reducible exact ldy.1 | with_reducible exact ldy.2.1 | with_reducible exact ldy.2.2.1 | with_reducible exact ldy.2.2.2.1 | with_reducible exact ldy.2.2.2.2.1 | with_reducible exact ldy.2.2.2.2.2.1 | with_reducible exact ldy.2.2.2.2.2.2.1 | with_reducible exact ldy.2.2.2.2.2.2.2.1 | with_reducible exact ldy.2.2.2.2.2.2.2.2.1 | with_reducible exact ly | with_reducible exact lypb.1 | with_reducible exact lypb.2.1 | with_reducible exact lypb.2.2.1 | with_reducible exact lypb.2.2.2.1 | with_reducible exact lypb.2.2.2.2.1 | with_reducible exact lypb.2.2.2.2.2.1 | with_reducible exact lypb.2.2.2.2.2.2.1 | with_reducible exact lypb.2.2.2.2.2.2.2.1 | with_reducible exact lypb.2.2.2.2.2.2.2.2.1 | with_reducible exact lypb.2.2.2.2.2.2.2.2.2.1 | with_reducible exact lypb.2.2.2.2.2.2.2.2.2.2.1 | with_reducible exact ldx.1 | with_reducible exact ldx.2.1 | with_reducible exact ldx.2.2.1 | with_reducible exact ldx.2.2.2.1 | with_reducible exact ldx.2.2.2.2.1 | with_reducible exact ldx.2.2.2.2.2.1 | with_reducible exact ldx.2.2.2.2.2.2.1 | with_reducible exact ldx.2.2.2.2.2.2.2.1 | with_reducible exact ldx.2.2.2.2.2.2.2.2.1 | with_reducible exact ldx.2.2.2.2.2.2.2.2.2.1 | with_reducible exact ldx.2.2.2.2.2.2.2.2.2.2.1 | with_reducible exact ldx.2.2.2.2.2.2.2.2.2.2.2.1 | with_reducible exact lx | with_reducible exact lpb.1 | with_reducible exact lpb.2.1 | with_reducible exact lpb.2.2.1 | with_reducible exact lpb.2.2.2.1 | with_reducible exact lpb.2.2.2.2.1 | with_reducible exact lpb.2.2.2.2.2.1 | with_reducible exact lpb.2.2.2.2.2.2.1 | with_reducible exact lpb.2.2.2.2.2.2.2.1 | with_reducible exact lpb.2.2.2.2.2.2.2.2.1 | with_reducible exact lpb.2.2.2.2.2.2.2.2.2.1 | with_reducible exact lpb.2.2.2.2.2.2.2.2.2.2.1 | with_reducible exact lpb.2.2.2.2.2.2.2.2.2.2.2.1 | with_reducible exact lpb.2.2.2.2.2.2.2.2.2.2.2.2.1 | with_reducible exact lpb.2.2.2.2.2.2.2.2.2.2.2.2.2.1 | with_reducible exact Nat.lt_trans lrc.1 lrd | with_reducible exact Nat.lt_trans lrc.2.1 lrd | with_reducible exact Nat.lt_trans lrc.2.2.1 lrd | with_reducible exact Nat.lt_trans lrc.2.2.2.1 lrd | with_reducible exact Nat.lt_trans lrc.2.2.2.2.1 lrd | with_reducible exact Nat.lt_trans lrc.2.2.2.2.2.1 lrd | with_reducible exact Nat.lt_trans lrc.2.2.2.2.2.2.1 lrd | with_reducible exact Nat.lt_trans ldy.1 ly | with_reducible exact Nat.lt_trans ldy.2.1 ly | with_reducible exact Nat.lt_trans ldy.2.2.1 ly | with_reducible exact Nat.lt_trans ldy.2.2.2.1 ly | with_reducible exact Nat.lt_trans ldy.2.2.2.2.1 ly | with_reducible exact Nat.lt_trans ldy.2.2.2.2.2.1 ly | with_reducible exact Nat.lt_trans ldy.2.2.2.2.2.2.1 ly | with_reducible exact Nat.lt_trans ldy.2.2.2.2.2.2.2.1 ly | with_reducible exact Nat.lt_trans ldy.2.2.2.2.2.2.2.2.1 ly | with_reducible exact Nat.lt_trans ldx.1 lx | with_reducible exact Nat.lt_trans ldx.2.1 lx | with_reducible exact Nat.lt_trans ldx.2.2.1 lx | with_reducible exact Nat.lt_trans ldx.2.2.2.1 lx | with_reducible exact Nat.lt_trans ldx.2.2.2.2.1 lx | with_reducible exact Nat.lt_trans ldx.2.2.2.2.2.1 lx | with_reducible exact Nat.lt_trans ldx.2.2.2.2.2.2.1 lx | with_reducible exact Nat.lt_trans ldx.2.2.2.2.2.2.2.1 lx | with_reducible exact Nat.lt_trans ldx.2.2.2.2.2.2.2.2.1 lx | with_reducible exact Nat.lt_trans ldx.2.2.2.2.2.2.2.2.2.1 lx | with_reducible exact Nat.lt_trans ldx.2.2.2.2.2.2.2.2.2.2.1 lx | with_reducible exact Nat.lt_trans ldx.2.2.2.2.2.2.2.2.2.2.2.1 lx)) | (first | lia | omega)⟩
      · exact ⟨(kN _ (.tail _ (.tail _ (.head _)))).2.2, by first | (refine Nat.lt_of_succ_lt ?_; (first | with_reducible exact ll0.1 | with_reducible exact ll0.2.1 | with_reducible exact l1.1 | with_reducible exact l1.2.1 | with_reducible exact l1.2.2.1 | with_reducible exact l1.2.2.2.1 | with_reducible exact l2.1 | with_reducible exact l2.2.1 | with_reducible exact l2.2.2.1 | with_reducible exact l2.2.2.2.1 | with_reducible exact l2.2.2.2.2.1 | with_reducible exact lpl.1 | with_reducible exact lpl.2.1 | with_reducible exact lpl.2.2.1 | with_reducible exact lpl.2.2.2.1 | with_reducible exact lpl.2.2.2.2.1 | with_reducible exact lpl.2.2.2.2.2.1 | with_reducible exact lrc.1 | with_reducible exact lrc.2.1 | with_reducible exact lrc.2.2.1 | with_reducible exact lrc.2.2.2.1 | with_reducible exact lrc.2.2.2.2.1 | with_reducible exact lrc.2.2.2.2.2.1 | with_reducible exact lrc.2.2.2.2.2.2.1 | with_reducible exact lrd | with_reducible exact ldy.1 | with_reducible exact ldy.2.1 | with_reducible exact ldy.2.2.1 | with_reducible exact ldy.2.2.2.1 | with_reducible exact ldy.2.2.2.2.1 | with_reducible exact ldy.2.2.2.2.2.1 | with_reducible exact ldy.2.2.2.2.2.2.1 | with_reducible exact ldy.2.2.2.2.2.2.2.1 | with_reducible exact ldy.2.2.2.2.2.2.2.2.1 | with_reducible exact ly | with_reducible exact lypb.1 | with_reducible exact lypb.2.1 | with_reducible exact lypb.2.2.1 | with_reducible exact lypb.2.2.2.1 | with_reducible exact lypb.2.2.2.2.1 | with_reducible exact lypb.2.2.2.2.2.1 | with_reducible exact lypb.2.2.2.2.2.2.1 | with_reducible exact lypb.2.2.2.2.2.2.2.1 | with_reducible exact lypb.2.2.2.2.2.2.2.2.1 | with_reducible exact lypb.2.2.2.2.2.2.2.2.2.1 | with_reducible exact lypb.2.2.2.2.2.2.2.2.2.2.1 | with_reducible exact ldx.1 | with_reducible exact ldx.2.1 | with_reducible exact ldx.2.2.1 | with_reducible exact ldx.2.2.2.1 | with_reducible exact ldx.2.2.2.2.1 | with_reducible exact ldx.2.2.2.2.2.1 | with_reducible exact ldx.2.2.2.2.2.2.1 | with_reducible exact ldx.2.2.2.2.2.2.2.1 | with_reducible exact ldx.2.2.2.2.2.2.2.2.1 | with_reducible exact ldx.2.2.2.2.2.2.2.2.2.1 | with_reducible exact ldx.2.2.2.2.2.2.2.2.2.2.1 | with_reducible exact ldx.2.2.2.2.2.2.2.2.2.2.2.1 | with_reducible exact lx | with_reducible exact lpb.1 | with_reducible exact lpb.2.1 | with_reducible exact lpb.2.2.1 | with_reducible exact lpb.2.2.2.1 | with_reducible exact lpb.2.2.2.2.1 | with_reducible exact lpb.2.2.2.2.2.1 | with_reducible exact lpb.2.2.2.2.2.2.1 | with_reducible exact lpb.2.2.2.2.2.2.2.1 | with_reducible exact lpb.2.2.2.2.2.2.2.2.1 | with_reducible exact lpb.2.2.2.2.2.2.2.2.2.1 | with_reducible exact lpb.2.2.2.2.2.2.2.2.2.2.1 | with_reducible exact lpb.2.2.2.2.2.2.2.2.2.2.2.1 | with_reducible exact lpb.2.2.2.2.2.2.2.2.2.2.2.2.1 | with_reducible exact lpb.2.2.2.2.2.2.2.2.2.2.2.2.2.1 | with_reducible exact Nat.lt_trans lrc.1 lrd | with_reducible exact Nat.lt_trans lrc.2.1 lrd | with_reducible exact Nat.lt_trans lrc.2.2.1 lrd | with_reducible exact Nat.lt_trans lrc.2.2.2.1 lrd | with_reducible exact Nat.lt_trans lrc.2.2.2.2.1 lrd | with_reducible exact Nat.lt_trans lrc.2.2.2.2.2.1 lrd | with_reducible exact Nat.lt_trans lrc.2.2.2.2.2.2.1 lrd | with_reducible exact Nat.lt_trans ldy.1 ly | with_reducible exact Nat.lt_trans ldy.2.1 ly | with_reducible exact Nat.lt_trans ldy.2.2.1 ly | with_reducible exact Nat.lt_trans ldy.2.2.2.1 ly | with_reducible exact Nat.lt_trans ldy.2.2.2.2.1 ly | with_reducible exact Nat.lt_trans ldy.2.2.2.2.2.1 ly | with_reducible exact Nat.lt_trans ldy.2.2.2.2.2.2.1 ly | with_reducible exact Nat.lt_trans ldy.2.2.2.2.2.2.2.1 ly | with_reducible exact Nat.lt_trans ldy.2.2.2.2.2.2.2.2.1 ly | with_reducible exact Nat.lt_trans ldx.1 lx | with_reducible exact Nat.lt_trans ldx.2.1 lx | with_reducible exact Nat.lt_trans ldx.2.2.1 lx | with_reducible exact Nat.lt_trans ldx.2.2.2.1 lx | with_reducible exact Nat.lt_trans ldx.2.2.2.2.1 lx | with_reducible exact Nat.lt_trans ldx.2.2.2.2.2.1 lx | with_reducible exact Nat.lt_trans ldx.2.2.2.2.2.2.1 lx | with_reducible exact Nat.lt_trans ldx.2.2.2.2.2.2.2.1 lx | with_reducible exact Nat.lt_trans ldx.2.2.2.2.2.2.2.2.1 lx | with_reducible exact Nat.lt_trans ldx.2.2.2.2.2.2.2.2.2.1 lx | with_reducible exact Nat.lt_trans ldx.2.2.2.2.2.2.2.2.2.2.1 lx | with_reducible exact Nat.lt_trans ldx.2.2.2.2.2.2.2.2.2.2.2.1 lx)) | (first | lia | omega)⟩
      · exact ⟨(kN _ (.tail _ (.head _))).2.2, by first | (refine Nat.lt_of_succ_lt ?_; (first | with_reducible exact ll0.1 | with_reducible exact ll0.2.1 | with_reducible exact l1.1 | with_reducible exact l1.2.1 | with_reducible exact l1.2.2.1 | with_reducible exact l1.2.2.2.1 | with_reducible exact l2.1 | with_reducible exact l2.2.1 | with_reducible exact l2.2.2.1 | with_reducible exact l2.2.2.2.1 | with_reducible exact l2.2.2.2.2.1 | with_reducible exact lpl.1 | with_reducible exact lpl.2.1 | with_reducible exact lpl.2.2.1 | with_reducible exact lpl.2.2.2.1 | with_reducible exact lpl.2.2.2.2.1 | with_reducible exact lpl.2.2.2.2.2.1 | with_reducible exact lrc.1 | with_reducible exact lrc.2.1 | with_reducible exact lrc.2.2.1 | with_reducible exact lrc.2.2.2.1 | with_reducible exact lrc.2.2.2.2.1 | with_reducible exact lrc.2.2.2.2.2.1 | with_reducible exact lrc.2.2.2.2.2.2.1 | with_reducible exact lrd | with_reducible exact ldy.1 | with_reducible exact ldy.2.1 | with_reducible exact ldy.2.2.1 | with_reducible exact ldy.2.2.2.1 | with_reducible exact ldy.2.2.2.2.1 | with_reducible exact ldy.2.2.2.2.2.1 | with_reducible exact ldy.2.2.2.2.2.2.1 | with_reducible exact ldy.2.2.2.2.2.2.2.1 | with_reducible exact ldy.2.2.2.2.2.2.2.2.1 | with_reducible exact ly | with_reducible exact lypb.1 | with_reducible exact lypb.2.1 | with_reducible exact lypb.2.2.1 | with_reducible exact lypb.2.2.2.1 | with_reducible exact lypb.2.2.2.2.1 | with_reducible exact lypb.2.2.2.2.2.1 | with_reducible exact lypb.2.2.2.2.2.2.1 | with_reducible exact lypb.2.2.2.2.2.2.2.1 | with_reducible exact lypb.2.2.2.2.2.2.2.2.1 | with_reducible exact lypb.2.2.2.2.2.2.2.2.2.1 | with_reducible exact lypb.2.2.2.2.2.2.2.2.2.2.1 | with_reducible exact ldx.1 | with_reducible exact ldx.2.1 | with_reducible exact ldx.2.2.1 | with_reducible exact ldx.2.2.2.1 | with_reducible exact ldx.2.2.2.2.1 | with_reducible exact ldx.2.2.2.2.2.1 | with_reducible exact ldx.2.2.2.2.2.2.1 | with_reducible exact ldx.2.2.2.2.2.2.2.1 | with_reducible exact ldx.2.2.2.2.2.2.2.2.1 | with_reducible exact ldx.2.2.2.2.2.2.2.2.2.1 | with_reducible exact ldx.2.2.2.2.2.2.2.2.2.2.1 | with_reducible exact ldx.2.2.2.2.2.2.2.2.2.2.2.1 | with_reducible exact lx | with_reducible exact lpb.1 | with_reducible exact lpb.2.1 | with_reducible exact lpb.2.2.1 | with_reducible exact lpb.2.2.2.1 | with_reducible exact lpb.2.2.2.2.1 | with_reducible exact lpb.2.2.2.2.2.1 | with_reducible exact lpb.2.2.2.2.2.2.1 | with_reducible exact lpb.2.2.2.2.2.2.2.1 | with_reducible exact lpb.2.2.2.2.2.2.2.2.1 | with_reducible exact lpb.2.2.2.2.2.2.2.2.2.1 | with_reducible exact lpb.2.2.2.2.2.2.2.2.2.2.1 | with_reducible exact lpb.2.2.2.2.2.2.2.2.2.2.2.1 | with_reducible exact lpb.2.2.2.2.2.2.2.2.2.2.2.2.1 | with_reducible exact lpb.2.2.2.2.2.2.2.2.2.2.2.2.2.1 | with_reducible exact Nat.lt_trans lrc.1 lrd | with_reducible exact Nat.lt_trans lrc.2.1 lrd | with_reducible exact Nat.lt_trans lrc.2.2.1 lrd | with_reducible exact Nat.lt_trans lrc.2.2.2.1 lrd | with_reducible exact Nat.lt_trans lrc.2.2.2.2.1 lrd | with_reducible exact Nat.lt_trans lrc.2.2.2.2.2.1 lrd | with_reducible exact Nat.lt_trans lrc.2.2.2.2.2.2.1 lrd | with_reducible exact Nat.lt_trans ldy.1 ly | with_reducible exact Nat.lt_trans ldy.2.1 ly | with_reducible exact Nat.lt_trans ldy.2.2.1 ly | with_reducible exact Nat.lt_trans ldy.2.2.2.1 ly | with_reducible exact Nat.lt_trans ldy.2.2.2.2.1 ly | with_reducible exact Nat.lt_trans ldy.2.2.2.2.2.1 ly | with_reducible exact Nat.lt_trans ldy.2.2.2.2.2.2.1 ly | with_reducible exact Nat.lt_trans ldy.2.2.2.2.2.2.2.1 ly | with_reducible exact Nat.lt_trans ldy.2.2.2.2.2.2.2.2.1 ly | with_reducible exact Nat.lt_trans ldx.1 lx | with_reducible exact Nat.lt_trans ldx.2.1 lx | with_reducible exact Nat.lt_trans ldx.2.2.1 lx | with_reducible exact Nat.lt_trans ldx.2.2.2.1 lx | with_reducible exact Nat.lt_trans ldx.2.2.2.2.1 lx | with_reducible exact Nat.lt_trans ldx.2.2.2.2.2.1 lx | with_reducible exact Nat.lt_trans ldx.2.2.2.2.2.2.1 lx | with_reducible exact Nat.lt_trans ldx.2.2.2.2.2.2.2.1 lx | with_reducible exact Nat.lt_trans ldx.2.2.2.2.2.2.2.2.1 lx | with_reducible exact Nat.lt_trans ldx.2.2.2.2.2.2.2.2.2.1 lx | with_reducible exact Nat.lt_trans ldx.2.2.2.2.2.2.2.2.2.2.1 lx | with_reducible exact Nat.lt_trans ldx.2.2.2.2.2.2.2.2.2.2.2.1 lx)) | (first | lia | omega)⟩
      · exact ⟨(kN _ (.tail _ (.tail _ (.tail _ (.tail _ (.head _)))))).2.2, by first | (refine Nat.lt_of_succ_lt ?_; (first | with_reducible exact ll0.1 | with_reducible exact ll0.2.1 | with_reducible exact l1.1 | with_reducible exact l1.2.1 | with_reducible exact l1.2.2.1 | with_reducible exact l1.2.2.2.1 | with_reducible exact l2.1 | with_reducible exact l2.2.1 | with_reducible exact l2.2.2.1 | with_reducible exact l2.2.2.2.1 | with_reducible exact l2.2.2.2.2.1 | with_reducible exact lpl.1 | with_reducible exact lpl.2.1 | with_reducible exact lpl.2.2.1 | with_reducible exact lpl.2.2.2.1 | with_reducible exact lpl.2.2.2.2.1 | with_reducible exact lpl.2.2.2.2.2.1 | with_reducible exact lrc.1 | with_reducible exact lrc.2.1 | with_reducible exact lrc.2.2.1 | with_reducible exact lrc.2.2.2.1 | with_reducible exact lrc.2.2.2.2.1 | with_reducible exact lrc.2.2.2.2.2.1 | with_reducible exact lrc.2.2.2.2.2.2.1 | with_reducible exact lrd | with_reducible exact ldy.1 | with_reducible exact ldy.2.1 | with_reducible exact ldy.2.2.1 | with_reducible exact ldy.2.2.2.1 | with_reducible exact ldy.2.2.2.2.1 | with_reducible exact ldy.2.2.2.2.2.1 | with_reducible exact ldy.2.2.2.2.2.2.1 | with_reducible exact ldy.2.2.2.2.2.2.2.1 | with_reducible exact ldy.2.2.2.2.2.2.2.2.1 | with_reducible exact ly | with_reducible exact lypb.1 | with_reducible exact lypb.2.1 | with_reducible exact lypb.2.2.1 | with_reducible exact lypb.2.2.2.1 | with_reducible exact lypb.2.2.2.2.1 | with_reducible exact lypb.2.2.2.2.2.1 | with_reducible exact lypb.2.2.2.2.2.2.1 | with_reducible exact lypb.2.2.2.2.2.2.2.1 | with_reducible exact lypb.2.2.2.2.2.2.2.2.1 | with_reducible exact lypb.2.2.2.2.2.2.2.2.2.1 | with_reducible exact lypb.2.2.2.2.2.2.2.2.2.2.1 | with_reducible exact ldx.1 | with_reducible exact ldx.2.1 | with_reducible exact ldx.2.2.1 | with_reducible exact ldx.2.2.2.1 | with_reducible exact ldx.2.2.2.2.1 | with_reducible exact ldx.2.2.2.2.2.1 | with_reducible exact ldx.2.2.2.2.2.2.1 | with_reducible exact ldx.2.2.2.2.2.2.2.1 | with_reducible exact ldx.2.2.2.2.2.2.2.2.1 | with_reducible exact ldx.2.2.2.2.2.2.2.2.2.1 | with_reducible exact ldx.2.2.2.2.2.2.2.2.2.2.1 | with_reducible exact ldx.2.2.2.2.2.2.2.2.2.2.2.1 | with_reducible exact lx | with_reducible exact lpb.1 | with_reducible exact lpb.2.1 | with_reducible exact lpb.2.2.1 | with_reducible exact lpb.2.2.2.1 | with_reducible exact lpb.2.2.2.2.1 | with_reducible exact lpb.2.2.2.2.2.1 | with_reducible exact lpb.2.2.2.2.2.2.1 | with_reducible exact lpb.2.2.2.2.2.2.2.1 | with_reducible exact lpb.2.2.2.2.2.2.2.2.1 | with_reducible exact lpb.2.2.2.2.2.2.2.2.2.1 | with_reducible exact lpb.2.2.2.2.2.2.2.2.2.2.1 | with_reducible exact lpb.2.2.2.2.2.2.2.2.2.2.2.1 | with_reducible exact lpb.2.2.2.2.2.2.2.2.2.2.2.2.1 | with_reducible exact lpb.2.2.2.2.2.2.2.2.2.2.2.2.2.1 | with_reducible exact Nat.lt_trans lrc.1 lrd | with_reducible exact Nat.lt_trans lrc.2.1 lrd | with_reducible exact Nat.lt_trans lrc.2.2.1 lrd | with_reducible exact Nat.lt_trans lrc.2.2.2.1 lrd | with_reducible exact Nat.lt_trans lrc.2.2.2.2.1 lrd | with_reducible exact Nat.lt_trans lrc.2.2.2.2.2.1 lrd | with_reducible exact Nat.lt_trans lrc.2.2.2.2.2.2.1 lrd | with_reducible exact Nat.lt_trans ldy.1 ly | with_reducible exact Nat.lt_trans ldy.2.1 ly | with_reducible exact Nat.lt_trans ldy.2.2.1 ly | with_reducible exact Nat.lt_trans ldy.2.2.2.1 ly | with_reducible exact Nat.lt_trans ldy.2.2.2.2.1 ly | with_reducible exact Nat.lt_trans ldy.2.2.2.2.2.1 ly | with_reducible exact Nat.lt_trans ldy.2.2.2.2.2.2.1 ly | with_reducible exact Nat.lt_trans ldy.2.2.2.2.2.2.2.1 ly | with_reducible exact Nat.lt_trans ldy.2.2.2.2.2.2.2.2.1 ly | with_reducible exact Nat.lt_trans ldx.1 lx | with_reducible exact Nat.lt_trans ldx.2.1 lx | with_reducible exact Nat.lt_trans ldx.2.2.1 lx | with_reducible exact Nat.lt_trans ldx.2.2.2.1 lx | with_reducible exact Nat.lt_trans ldx.2.2.2.2.1 lx | with_reducible exact Nat.lt_trans ldx.2.2.2.2.2.1 lx | with_reducible exact Nat.lt_trans ldx.2.2.2.2.2.2.1 lx | with_reducible exact Nat.lt_trans ldx.2.2.2.2.2.2.2.1 lx | with_reducible exact Nat.lt_trans ldx.2.2.2.2.2.2.2.2.1 lx | with_reducible exact Nat.lt_trans ldx.2.2.2.2.2.2.2.2.2.1 lx | with_reducible exact Nat.lt_trans ldx.2.2.2.2.2.2.2.2.2.2.1 lx | with_reducible exact Nat.lt_trans ldx.2.2.2.2.2.2.2.2.2.2.2.1 lx)) | (first | lia | omega)⟩
      · exact ⟨(kN _ (.tail _ (.tail _ (.tail _ (.tail _ (.tail _ (.head _))))))).2.2, by first | (refine Nat.lt_of_succ_lt ?_; (first | with_reducible exact ll0.1 | with_reducible exact ll0.2.1 | with_reducible exact l1.1 | with_reducible exact l1.2.1 | with_reducible exact l1.2.2.1 | with_reducible exact l1.2.2.2.1 | with_reducible exact l2.1 | with_reducible exact l2.2.1 | with_reducible exact l2.2.2.1 | with_reducible exact l2.2.2.2.1 | with_reducible exact l2.2.2.2.2.1 | with_reducible exact lpl.1 | with_reducible exact lpl.2.1 | with_reducible exact lpl.2.2.1 | with_reducible exact lpl.2.2.2.1 | with_reducible exact lpl.2.2.2.2.1 | with_reducible exact lpl.2.2.2.2.2.1 | with_reducible exact lrc.1 | with_reducible exact lrc.2.1 | with_reducible exact lrc.2.2.1 | with_reducible exact lrc.2.2.2.1 | with_reducible exact lrc.2.2.2.2.1 | with_reducible exact lrc.2.2.2.2.2.1 | with_reducible exact lrc.2.2.2.2.2.2.1 | with_reducible exact lrd | with_reducible exact ldy.1 | with_reducible exact ldy.2.1 | with_reducible exact ldy.2.2.1 | with_reducible exact ldy.2.2.2.1 | with_reducible exact ldy.2.2.2.2.1 | with_reducible exact ldy.2.2.2.2.2.1 | with_reducible exact ldy.2.2.2.2.2.2.1 | with_reducible exact ldy.2.2.2.2.2.2.2.1 | with_reducible exact ldy.2.2.2.2.2.2.2.2.1 | with_reducible exact ly | with_reducible exact lypb.1 | with_reducible exact lypb.2.1 | with_reducible exact lypb.2.2.1 | with_reducible exact lypb.2.2.2.1 | with_reducible exact lypb.2.2.2.2.1 | with_reducible exact lypb.2.2.2.2.2.1 | with_reducible exact lypb.2.2.2.2.2.2.1 | with_reducible exact lypb.2.2.2.2.2.2.2.1 | with_reducible exact lypb.2.2.2.2.2.2.2.2.1 | with_reducible exact lypb.2.2.2.2.2.2.2.2.2.1 | with_reducible exact lypb.2.2.2.2.2.2.2.2.2.2.1 | with_reducible exact ldx.1 | with_reducible exact ldx.2.1 | with_reducible exact ldx.2.2.1 | with_reducible exact ldx.2.2.2.1 | with_reducible exact ldx.2.2.2.2.1 | with_reducible exact ldx.2.2.2.2.2.1 | with_reducible exact ldx.2.2.2.2.2.2.1 | with_reducible exact ldx.2.2.2.2.2.2.2.1 | with_reducible exact ldx.2.2.2.2.2.2.2.2.1 | with_reducible exact ldx.2.2.2.2.2.2.2.2.2.1 | with_reducible exact ldx.2.2.2.2.2.2.2.2.2.2.1 | with_reducible exact ldx.2.2.2.2.2.2.2.2.2.2.2.1 | with_reducible exact lx | with_reducible exact lpb.1 | with_reducible exact lpb.2.1 | with_reducible exact lpb.2.2.1 | with_reducible exact lpb.2.2.2.1 | with_reducible exact lpb.2.2.2.2.1 | with_reducible exact lpb.2.2.2.2.2.1 | with_reducible exact lpb.2.2.2.2.2.2.1 | with_reducible exact lpb.2.2.2.2.2.2.2.1 | with_reducible exact lpb.2.2.2.2.2.2.2.2.1 | with_reducible exact lpb.2.2.2.2.2.2.2.2.2.1 | with_reducible exact lpb.2.2.2.2.2.2.2.2.2.2.1 | with_reducible exact lpb.2.2.2.2.2.2.2.2.2.2.2.1 | with_reducible exact lpb.2.2.2.2.2.2.2.2.2.2.2.2.1 | with_reducible exact lpb.2.2.2.2.2.2.2.2.2.2.2.2.2.1 | with_reducible exact Nat.lt_trans lrc.1 lrd | with_reducible exact Nat.lt_trans lrc.2.1 lrd | with_reducible exact Nat.lt_trans lrc.2.2.1 lrd | with_reducible exact Nat.lt_trans lrc.2.2.2.1 lrd | with_reducible exact Nat.lt_trans lrc.2.2.2.2.1 lrd | with_reducible exact Nat.lt_trans lrc.2.2.2.2.2.1 lrd | with_reducible exact Nat.lt_trans lrc.2.2.2.2.2.2.1 lrd | with_reducible exact Nat.lt_trans ldy.1 ly | with_reducible exact Nat.lt_trans ldy.2.1 ly | with_reducible exact Nat.lt_trans ldy.2.2.1 ly | with_reducible exact Nat.lt_trans ldy.2.2.2.1 ly | with_reducible exact Nat.lt_trans ldy.2.2.2.2.1 ly | with_reducible exact Nat.lt_trans ldy.2.2.2.2.2.1 ly | with_reducible exact Nat.lt_trans ldy.2.2.2.2.2.2.1 ly | with_reducible exact Nat.lt_trans ldy.2.2.2.2.2.2.2.1 ly | with_reducible exact Nat.lt_trans ldy.2.2.2.2.2.2.2.2.1 ly | with_reducible exact Nat.lt_trans ldx.1 lx | with_reducible exact Nat.lt_trans ldx.2.1 lx | with_reducible exact Nat.lt_trans ldx.2.2.1 lx | with_reducible exact Nat.lt_trans ldx.2.2.2.1 lx | with_reducible exact Nat.lt_trans ldx.2.2.2.2.1 lx | with_reducible exact Nat.lt_trans ldx.2.2.2.2.2.1 lx | with_reducible exact Nat.lt_trans ldx.2.2.2.2.2.2.1 lx | with_reducible exact Nat.lt_trans ldx.2.2.2.2.2.2.2.1 lx | with_reducible exact Nat.lt_trans ldx.2.2.2.2.2.2.2.2.1 lx | with_reducible exact Nat.lt_trans ldx.2.2.2.2.2.2.2.2.2.1 lx | with_reducible exact Nat.lt_trans ldx.2.2.2.2.2.2.2.2.2.2.1 lx | with_reducible exact Nat.lt_trans ldx.2.2.2.2.2.2.2.2.2.2.2.1 lx)) | (first | lia | omega)⟩
      · exact ⟨(kN _ (.tail _ (.tail _ (.tail _ (.tail _ (.tail _ (.tail _ (.tail _ (.tail _ (.head _)))))))))).2.2, by first | (refine Nat.lt_of_succ_lt ?_; (first | with_reducible exact ll0.1 | with_reducible exact ll0.2.1 | with_reducible exact l1.1 | with_reducible exact l1.2.1 | with_reducible exact l1.2.2.1 | with_reducible exact l1.2.2.2.1 | with_reducible exact l2.1 | with_reducible exact l2.2.1 | with_reducible exact l2.2.2.1 | with_reducible exact l2.2.2.2.1 | with_reducible exact l2.2.2.2.2.1 | with_reducible exact lpl.1 | with_reducible exact lpl.2.1 | with_reducible exact lpl.2.2.1 | with_reducible exact lpl.2.2.2.1 | with_reducible exact lpl.2.2.2.2.1 | with_reducible exact lpl.2.2.2.2.2.1 | with_reducible exact lrc.1 | with_reducible exact lrc.2.1 | with_reducible exact lrc.2.2.1 | with_reducible exact lrc.2.2.2.1 | with_reducible exact lrc.2.2.2.2.1 | with_reducible exact lrc.2.2.2.2.2.1 | with_reducible exact lrc.2.2.2.2.2.2.1 | with_reducible exact lrd | with_reducible exact ldy.1 | with_reducible exact ldy.2.1 | with_reducible exact ldy.2.2.1 | with_reducible exact ldy.2.2.2.1 | with_reducible exact ldy.2.2.2.2.1 | with_reducible exact ldy.2.2.2.2.2.1 | with_reducible exact ldy.2.2.2.2.2.2.1 | with_reducible exact ldy.2.2.2.2.2.2.2.1 | with_reducible exact ldy.2.2.2.2.2.2.2.2.1 | with_reducible exact ly | with_reducible exact lypb.1 | with_reducible exact lypb.2.1 | with_reducible exact lypb.2.2.1 | with_reducible exact lypb.2.2.2.1 | with_reducible exact lypb.2.2.2.2.1 | with_reducible exact lypb.2.2.2.2.2.1 | with_reducible exact lypb.2.2.2.2.2.2.1 | with_reducible exact lypb.2.2.2.2.2.2.2.1 | with_reducible exact lypb.2.2.2.2.2.2.2.2.1 | with_reducible exact lypb.2.2.2.2.2.2.2.2.2.1 | with_reducible exact lypb.2.2.2.2.2.2.2.2.2.2.1 | with_reducible exact ldx.1 | with_reducible exact ldx.2.1 | with_reducible exact ldx.2.2.1 | with_reducible exact ldx.2.2.2.1 | with_reducible exact ldx.2.2.2.2.1 | with_reducible exact ldx.2.2.2.2.2.1 | with_reducible exact ldx.2.2.2.2.2.2.1 | with_reducible exact ldx.2.2.2.2.2.2.2.1 | with_reducible exact ldx.2.2.2.2.2.2.2.2.1 | with_reducible exact ldx.2.2.2.2.2.2.2.2.2.1 | with_reducible exact ldx.2.2.2.2.2.2.2.2.2.2.1 | with_reducible exact ldx.2.2.2.2.2.2.2.2.2.2.2.1 | with_reducible exact lx | with_reducible exact lpb.1 | with_reducible exact lpb.2.1 | with_reducible exact lpb.2.2.1 | with_reducible exact lpb.2.2.2.1 | with_reducible exact lpb.2.2.2.2.1 | with_reducible exact lpb.2.2.2.2.2.1 | with_reducible exact lpb.2.2.2.2.2.2.1 | with_reducible exact lpb.2.2.2.2.2.2.2.1 | with_reducible exact lpb.2.2.2.2.2.2.2.2.1 | with_reducible exact lpb.2.2.2.2.2.2.2.2.2.1 | with_reducible exact lpb.2.2.2.2.2.2.2.2.2.2.1 | with_reducible exact lpb.2.2.2.2.2.2.2.2.2.2.2.1 | with_reducible exact lpb.2.2.2.2.2.2.2.2.2.2.2.2.1 | with_reducible exact lpb.2.2.2.2.2.2.2.2.2.2.2.2.2.1 | with_reducible exact Nat.lt_trans lrc.1 lrd | with_reducible exact Nat.lt_trans lrc.2.1 lrd | with_reducible exact Nat.lt_trans lrc.2.2.1 lrd | with_reducible exact Nat.lt_trans lrc.2.2.2.1 lrd | with_reducible exact Nat.lt_trans lrc.2.2.2.2.1 lrd | with_reducible exact Nat.lt_trans lrc.2.2.2.2.2.1 lrd | with_reducible exact Nat.lt_trans lrc.2.2.2.2.2.2.1 lrd | with_reducible exact Nat.lt_trans ldy.1 ly | with_reducible exact Nat.lt_trans ldy.2.1 ly | with_reducible exact Nat.lt_trans ldy.2.2.1 ly | with_reducible exact Nat.lt_trans ldy.2.2.2.1 ly | with_reducible exact Nat.lt_trans ldy.2.2.2.2.1 ly | with_reducible exact Nat.lt_trans ldy.2.2.2.2.2.1 ly | with_reducible exact Nat.lt_trans ldy.2.2.2.2.2.2.1 ly | with_reducible exact Nat.lt_trans ldy.2.2.2.2.2.2.2.1 ly | with_reducible exact Nat.lt_trans ldy.2.2.2.2.2.2.2.2.1 ly | with_reducible exact Nat.lt_trans ldx.1 lx | with_reducible exact Nat.lt_trans ldx.2.1 lx | with_reducible exact Nat.lt_trans ldx.2.2.1 lx | with_reducible exact Nat.lt_trans ldx.2.2.2.1 lx | with_reducible exact Nat.lt_trans ldx.2.2.2.2.1 lx | with_reducible exact Nat.lt_trans ldx.2.2.2.2.2.1 lx | with_reducible exact Nat.lt_trans ldx.2.2.2.2.2.2.1 lx | with_reducible exact Nat.lt_trans ldx.2.2.2.2.2.2.2.1 lx | with_reducible exact Nat.lt_trans ldx.2.2.2.2.2.2.2.2.1 lx | with_reducible exact Nat.lt_trans ldx.2.2.2.2.2.2.2.2.2.1 lx | with_reducible exact Nat.lt_trans ldx.2.2.2.2.2.2.2.2.2.2.1 lx | with_reducible exact Nat.lt_trans ldx.2.2.2.2.2.2.2.2.2.2.2.1 lx)) | (first | lia | omega)⟩
      · exact ⟨(kN _ (.tail _ (.tail _ (.tail _ (.tail _ (.tail _ (.tail _ (.head _)))))))).2.2, by first | (refine Nat.lt_of_succ_lt ?_; (first | with_reducible exact ll0.1 | with_reducible exact ll0.2.1 | with_reducible exact l1.1 | with_reducible exact l1.2.1 | with_reducible exact l1.2.2.1 | with_reducible exact l1.2.2.2.1 | with_reducible exact l2.1 | with_reducible exact l2.2.1 | with_reducible exact l2.2.2.1 | with_reducible exact l2.2.2.2.1 | with_reducible exact l2.2.2.2.2.1 | with_reducible exact lpl.1 | with_reducible exact lpl.2.1 | with_reducible exact lpl.2.2.1 | with_reducible exact lpl.2.2.2.1 | with_reducible exact lpl.2.2.2.2.1 | with_reducible exact lpl.2.2.2.2.2.1 | with_reducible exact lrc.1 | with_reducible exact lrc.2.1 | with_reducible exact lrc.2.2.1 | with_reducible exact lrc.2.2.2.1 | with_reducible exact lrc.2.2.2.2.1 | with_reducible exact lrc.2.2.2.2.2.1 | with_reducible exact lrc.2.2.2.2.2.2.1 | with_reducible exact lrd | with_reducible exact ldy.1 | with_reducible exact ldy.2.1 | with_reducible exact ldy.2.2.1 | with_reducible exact ldy.2.2.2.1 | with_reducible exact ldy.2.2.2.2.1 | with_reducible exact ldy.2.2.2.2.2.1 | with_reducible exact ldy.2.2.2.2.2.2.1 | with_reducible exact ldy.2.2.2.2.2.2.2.1 | with_reducible exact ldy.2.2.2.2.2.2.2.2.1 | with_reducible exact ly | with_reducible exact lypb.1 | with_reducible exact lypb.2.1 | with_reducible exact lypb.2.2.1 | with_reducible exact lypb.2.2.2.1 | with_reducible exact lypb.2.2.2.2.1 | with_reducible exact lypb.2.2.2.2.2.1 | with_reducible exact lypb.2.2.2.2.2.2.1 | with_reducible exact lypb.2.2.2.2.2.2.2.1 | with_reducible exact lypb.2.2.2.2.2.2.2.2.1 | with_reducible exact lypb.2.2.2.2.2.2.2.2.2.1 | with_reducible exact lypb.2.2.2.2.2.2.2.2.2.2.1 | with_reducible exact ldx.1 | with_reducible exact ldx.2.1 | with_reducible exact ldx.2.2.1 | with_reducible exact ldx.2.2.2.1 | with_reducible exact ldx.2.2.2.2.1 | with_reducible exact ldx.2.2.2.2.2.1 | with_reducible exact ldx.2.2.2.2.2.2.1 | with_reducible exact ldx.2.2.2.2.2.2.2.1 | with_reducible exact ldx.2.2.2.2.2.2.2.2.1 | with_reducible exact ldx.2.2.2.2.2.2.2.2.2.1 | with_reducible exact ldx.2.2.2.2.2.2.2.2.2.2.1 | with_reducible exact ldx.2.2.2.2.2.2.2.2.2.2.2.1 | with_reducible exact lx | with_reducible exact lpb.1 | with_reducible exact lpb.2.1 | with_reducible exact lpb.2.2.1 | with_reducible exact lpb.2.2.2.1 | with_reducible exact lpb.2.2.2.2.1 | with_reducible exact lpb.2.2.2.2.2.1 | with_reducible exact lpb.2.2.2.2.2.2.1 | with_reducible exact lpb.2.2.2.2.2.2.2.1 | with_reducible exact lpb.2.2.2.2.2.2.2.2.1 | with_reducible exact lpb.2.2.2.2.2.2.2.2.2.1 | with_reducible exact lpb.2.2.2.2.2.2.2.2.2.2.1 | with_reducible exact lpb.2.2.2.2.2.2.2.2.2.2.2.1 | with_reducible exact lpb.2.2.2.2.2.2.2.2.2.2.2.2.1 | with_reducible exact lpb.2.2.2.2.2.2.2.2.2.2.2.2.2.1 | with_reducible exact Nat.lt_trans lrc.1 lrd | with_reducible exact Nat.lt_trans lrc.2.1 lrd | with_reducible exact Nat.lt_trans lrc.2.2.1 lrd | with_reducible exact Nat.lt_trans lrc.2.2.2.1 lrd | with_reducible exact Nat.lt_trans lrc.2.2.2.2.1 lrd | with_reducible exact Nat.lt_trans lrc.2.2.2.2.2.1 lrd | with_reducible exact Nat.lt_trans lrc.2.2.2.2.2.2.1 lrd | with_reducible exact Nat.lt_trans ldy.1 ly | with_reducible exact Nat.lt_trans ldy.2.1 ly | with_reducible exact Nat.lt_trans ldy.2.2.1 ly | with_reducible exact Nat.lt_trans ldy.2.2.2.1 ly | with_reducible exact Nat.lt_trans ldy.2.2.2.2.1 ly | with_reducible exact Nat.lt_trans ldy.2.2.2.2.2.1 ly | with_reducible exact Nat.lt_trans ldy.2.2.2.2.2.2.1 ly | with_reducible exact Nat.lt_trans ldy.2.2.2.2.2.2.2.1 ly | with_reducible exact Nat.lt_trans ldy.2.2.2.2.2.2.2.2.1 ly | with_reducible exact Nat.lt_trans ldx.1 lx | with_reducible exact Nat.lt_trans ldx.2.1 lx | with_reducible exact Nat.lt_trans ldx.2.2.1 lx | with_reducible exact Nat.lt_trans ldx.2.2.2.1 lx | with_reducible exact Nat.lt_trans ldx.2.2.2.2.1 lx | with_reducible exact Nat.lt_trans ldx.2.2.2.2.2.1 lx | with_reducible exact Nat.lt_trans ldx.2.2.2.2.2.2.1 lx | with_reducible exact Nat.lt_trans ldx.2.2.2.2.2.2.2.1 lx | with_reducible exact Nat.lt_trans ldx.2.2.2.2.2.2.2.2.1 lx | with_reducible exact Nat.lt_trans ldx.2.2.2.2.2.2.2.2.2.1 lx | with_reducible exact Nat.lt_trans ldx.2.2.2.2.2.2.2.2.2.2.1 lx | with_reducible exact Nat.lt_trans ldx.2.2.2.2.2.2.2.2.2.2.2.1 lx)) | (first | lia | omega)⟩
      · exact ⟨(kN _ (.tail _ (.tail _ (.tail _ (.tail _ (.tail _ (.tail _ (.tail _ (.head _))))))))).2.2, by first | (refine Nat.lt_of_succ_lt ?_; (first | with_reducible exact ll0.1 | with_reducible exact ll0.2.1 | with_reducible exact l1.1 | with_reducible exact l1.2.1 | with_reducible exact l1.2.2.1 | with_reducible exact l1.2.2.2.1 | with_reducible exact l2.1 | with_reducible exact l2.2.1 | with_reducible exact l2.2.2.1 | with_reducible exact l2.2.2.2.1 | with_reducible exact l2.2.2.2.2.1 | with_reducible exact lpl.1 | with_reducible exact lpl.2.1 | with_reducible exact lpl.2.2.1 | with_reducible exact lpl.2.2.2.1 | with_reducible exact lpl.2.2.2.2.1 | with_reducible exact lpl.2.2.2.2.2.1 | with_reducible exact lrc.1 | with_reducible exact lrc.2.1 | with_reducible exact lrc.2.2.1 | with_reducible exact lrc.2.2.2.1 | with_reducible exact lrc.2.2.2.2.1 | with_reducible exact lrc.2.2.2.2.2.1 | with_reducible exact lrc.2.2.2.2.2.2.1 | with_reducible exact lrd | with_reducible exact ldy.1 | with_reducible exact ldy.2.1 | with_reducible exact ldy.2.2.1 | with_reducible exact ldy.2.2.2.1 | with_reducible exact ldy.2.2.2.2.1 | with_reducible exact ldy.2.2.2.2.2.1 | with_reducible exact ldy.2.2.2.2.2.2.1 | with_reducible exact ldy.2.2.2.2.2.2.2.1 | with_reducible exact ldy.2.2.2.2.2.2.2.2.1 | with_reducible exact ly | with_reducible exact lypb.1 | with_reducible exact lypb.2.1 | with_reducible exact lypb.2.2.1 | with_reducible exact lypb.2.2.2.1 | with_reducible exact lypb.2.2.2.2.1 | with_reducible exact lypb.2.2.2.2.2.1 | with_reducible exact lypb.2.2.2.2.2.2.1 | with_reducible exact lypb.2.2.2.2.2.2.2.1 | with_reducible exact lypb.2.2.2.2.2.2.2.2.1 | with_reducible exact lypb.2.2.2.2.2.2.2.2.2.1 | with_reducible exact lypb.2.2.2.2.2.2.2.2.2.2.1 | with_reducible exact ldx.1 | with_reducible exact ldx.2.1 | with_reducible exact ldx.2.2.1 | with_reducible exact ldx.2.2.2.1 | with_reducible exact ldx.2.2.2.2.1 | with_reducible exact ldx.2.2.2.2.2.1 | with_reducible exact ldx.2.2.2.2.2.2.1 | with_reducible exact ldx.2.2.2.2.2.2.2.1 | with_reducible exact ldx.2.2.2.2.2.2.2.2.1 | with_reducible exact ldx.2.2.2.2.2.2.2.2.2.1 | with_reducible exact ldx.2.2.2.2.2.2.2.2.2.2.1 | with_reducible exact ldx.2.2.2.2.2.2.2.2.2.2.2.1 | with_reducible exact lx | with_reducible exact lpb.1 | with_reducible exact lpb.2.1 | with_reducible exact lpb.2.2.1 | with_reducible exact lpb.2.2.2.1 | with_reducible exact lpb.2.2.2.2.1 | with_reducible exact lpb.2.2.2.2.2.1 | with_reducible exact lpb.2.2.2.2.2.2.1 | with_reducible exact lpb.2.2.2.2.2.2.2.1 | with_reducible exact lpb.2.2.2.2.2.2.2.2.1 | with_reducible exact lpb.2.2.2.2.2.2.2.2.2.1 | with_reducible exact lpb.2.2.2.2.2.2.2.2.2.2.1 | with_reducible exact lpb.2.2.2.2.2.2.2.2.2.2.2.1 | with_reducible exact lpb.2.2.2.2.2.2.2.2.2.2.2.2.1 | with_reducible exact lpb.2.2.2.2.2.2.2.2.2.2.2.2.2.1 | with_reducible exact Nat.lt_trans lrc.1 lrd | with_reducible exact Nat.lt_trans lrc.2.1 lrd | with_reducible exact Nat.lt_trans lrc.2.2.1 lrd | with_reducible exact Nat.lt_trans lrc.2.2.2.1 lrd | with_reducible exact Nat.lt_trans lrc.2.2.2.2.1 lrd | with_reducible exact Nat.lt_trans lrc.2.2.2.2.2.1 lrd | with_reducible exact Nat.lt_trans lrc.2.2.2.2.2.2.1 lrd | with_reducible exact Nat.lt_trans ldy.1 ly | with_reducible exact Nat.lt_trans ldy.2.1 ly | with_reducible exact Nat.lt_trans ldy.2.2.1 ly | with_reducible exact Nat.lt_trans ldy.2.2.2.1 ly | with_reducible exact Nat.lt_trans ldy.2.2.2.2.1 ly | with_reducible exact Nat.lt_trans ldy.2.2.2.2.2.1 ly | with_reducible exact Nat.lt_trans ldy.2.2.2.2.2.2.1 ly | with_reducible exact Nat.lt_trans ldy.2.2.2.2.2.2.2.1 ly | with_reducible exact Nat.lt_trans ldy.2.2.2.2.2.2.2.2.1 ly | with_reducible exact Nat.lt_trans ldx.1 lx | with_reducible exact Nat.lt_trans ldx.2.1 lx | with_reducible exact Nat.lt_trans ldx.2.2.1 lx | with_reducible exact Nat.lt_trans ldx.2.2.2.1 lx | with_reducible exact Nat.lt_trans ldx.2.2.2.2.1 lx | with_reducible exact Nat.lt_trans ldx.2.2.2.2.2.1 lx | with_reducible exact Nat.lt_trans ldx.2.2.2.2.2.2.1 lx | with_reducible exact Nat.lt_trans ldx.2.2.2.2.2.2.2.1 lx | with_reducible exact Nat.lt_trans ldx.2.2.2.2.2.2.2.2.1 lx | with_reducible exact Nat.lt_trans ldx.2.2.2.2.2.2.2.2.2.1 lx | with_reducible exact Nat.lt_trans ldx.2.2.2.2.2.2.2.2.2.2.1 lx | with_reducible exact Nat.lt_trans ldx.2.2.2.2.2.2.2.2.2.2.2.1 lx)) | (first | lia | omega)⟩
      · exact ⟨(kN _ (.tail _ (.tail _ (.tail _ (.tail _ (.tail _ (.tail _ (.tail _ (.tail _ (.tail _ (.tail _ (.tail _ (.head _))))))))))))).2.2, by first | (refine Nat.lt_of_succ_lt ?_; (first | with_reducible exact ll0.1 | with_reducible exact ll0.2.1 | with_reducible exact l1.1 | with_reducible exact l1.2.1 | with_reducible exact l1.2.2.1 | with_reducible exact l1.2.2.2.1 | with_reducible exact l2.1 | with_reducible exact l2.2.1 | with_reducible exact l2.2.2.1 | with_reducible exact l2.2.2.2.1 | with_reducible exact l2.2.2.2.2.1 | with_reducible exact lpl.1 | with_reducible exact lpl.2.1 | with_reducible exact lpl.2.2.1 | with_reducible exact lpl.2.2.2.1 | with_reducible exact lpl.2.2.2.2.1 | with_reducible exact lpl.2.2.2.2.2.1 | with_reducible exact lrc.1 | with_reducible exact lrc.2.1 | with_reducible exact lrc.2.2.1 | with_reducible exact lrc.2.2.2.1 | with_reducible exact lrc.2.2.2.2.1 | with_reducible exact lrc.2.2.2.2.2.1 | with_reducible exact lrc.2.2.2.2.2.2.1 | with_reducible exact lrd | with_reducible exact ldy.1 | with_reducible exact ldy.2.1 | with_reducible exact ldy.2.2.1 | with_reducible exact ldy.2.2.2.1 | with_reducible exact ldy.2.2.2.2.1 | with_reducible exact ldy.2.2.2.2.2.1 | with_reducible exact ldy.2.2.2.2.2.2.1 | with_reducible exact ldy.2.2.2.2.2.2.2.1 | with_reducible exact ldy.2.2.2.2.2.2.2.2.1 | with_reducible exact ly | with_reducible exact lypb.1 | with_reducible exact lypb.2.1 | with_reducible exact lypb.2.2.1 | with_reducible exact lypb.2.2.2.1 | with_reducible exact lypb.2.2.2.2.1 | with_reducible exact lypb.2.2.2.2.2.1 | with_reducible exact lypb.2.2.2.2.2.2.1 | with_reducible exact lypb.2.2.2.2.2.2.2.1 | with_reducible exact lypb.2.2.2.2.2.2.2.2.1 | with_reducible exact lypb.2.2.2.2.2.2.2.2.2.1 | with_reducible exact lypb.2.2.2.2.2.2.2.2.2.2.1 | with_reducible exact ldx.1 | with_reducible exact ldx.2.1 | with_reducible exact ldx.2.2.1 | with_reducible exact ldx.2.2.2.1 | with_reducible exact ldx.2.2.2.2.1 | with_reducible exact ldx.2.2.2.2.2.1 | with_reducible exact ldx.2.2.2.2.2.2.1 | with_reducible exact ldx.2.2.2.2.2.2.2.1 | with_reducible exact ldx.2.2.2.2.2.2.2.2.1 | with_reducible exact ldx.2.2.2.2.2.2.2.2.2.1 | with_reducible exact ldx.2.2.2.2.2.2.2.2.2.2.1 | with_reducible exact ldx.2.2.2.2.2.2.2.2.2.2.2.1 | with_reducible exact lx | with_reducible exact lpb.1 | with_reducible exact lpb.2.1 | with_reducible exact lpb.2.2.1 | with_reducible exact lpb.2.2.2.1 | with_reducible exact lpb.2.2.2.2.1 | with_reducible exact lpb.2.2.2.2.2.1 | with_reducible exact lpb.2.2.2.2.2.2.1 | with_reducible exact lpb.2.2.2.2.2.2.2.1 | with_reducible exact lpb.2.2.2.2.2.2.2.2.1 | with_reducible exact lpb.2.2.2.2.2.2.2.2.2.1 | with_reducible exact lpb.2.2.2.2.2.2.2.2.2.2.1 | with_reducible exact lpb.2.2.2.2.2.2.2.2.2.2.2.1 | with_reducible exact lpb.2.2.2.2.2.2.2.2.2.2.2.2.1 | with_reducible exact lpb.2.2.2.2.2.2.2.2.2.2.2.2.2.1 | with_reducible exact Nat.lt_trans lrc.1 lrd | with_reducible exact Nat.lt_trans lrc.2.1 lrd | with_reducible exact Nat.lt_trans lrc.2.2.1 lrd | with_reducible exact Nat.lt_trans lrc.2.2.2.1 lrd | with_reducible exact Nat.lt_trans lrc.2.2.2.2.1 lrd | with_reducible exact Nat.lt_trans lrc.2.2.2.2.2.1 lrd | with_reducible exact Nat.lt_trans lrc.2.2.2.2.2.2.1 lrd | with_reducible exact Nat.lt_trans ldy.1 ly | with_reducible exact Nat.lt_trans ldy.2.1 ly | with_reducible exact Nat.lt_trans ldy.2.2.1 ly | with_reducible exact Nat.lt_trans ldy.2.2.2.1 ly | with_reducible exact Nat.lt_trans ldy.2.2.2.2.1 ly | with_reducible exact Nat.lt_trans ldy.2.2.2.2.2.1 ly | with_reducible exact Nat.lt_trans ldy.2.2.2.2.2.2.1 ly | with_reducible exact Nat.lt_trans ldy.2.2.2.2.2.2.2.1 ly | with_reducible exact Nat.lt_trans ldy.2.2.2.2.2.2.2.2.1 ly | with_reducible exact Nat.lt_trans ldx.1 lx | with_reducible exact Nat.lt_trans ldx.2.1 lx | with_reducible exact Nat.lt_trans ldx.2.2.1 lx | with_reducible exact Nat.lt_trans ldx.2.2.2.1 lx | with_reducible exact Nat.lt_trans ldx.2.2.2.2.1 lx | with_reducible exact Nat.lt_trans ldx.2.2.2.2.2.1 lx | with_reducible exact Nat.lt_trans ldx.2.2.2.2.2.2.1 lx | with_reducible exact Nat.lt_trans ldx.2.2.2.2.2.2.2.1 lx | with_reducible exact Nat.lt_trans ldx.2.2.2.2.2.2.2.2.1 lx | with_reducible exact Nat.lt_trans ldx.2.2.2.2.2.2.2.2.2.1 lx | with_reducible exact Nat.lt_trans ldx.2.2.2.2.2.2.2.2.2.2.1 lx | with_reducible exact Nat.lt_trans ldx.2.2.2.2.2.2.2.2.2.2.2.1 lx)) | (first | lia | omega)⟩
      · exact ⟨(kN _ (.tail _ (.tail _ (.tail _ (.tail _ (.tail _ (.tail _ (.tail _ (.tail _ (.tail _ (.tail _ (.tail _ (.tail _ (.head _)))))))))))))).2.2, by first | (refine Nat.lt_of_succ_lt ?_; (first | with_reducible exact ll0.1 | with_reducible exact ll0.2.1 | with_reducible exact l1.1 | with_reducible exact l1.2.1 | with_reducible exact l1.2.2.1 | with_reducible exact l1.2.2.2.1 | with_reducible exact l2.1 | with_reducible exact l2.2.1 | with_reducible exact l2.2.2.1 | with_reducible exact l2.2.2.2.1 | with_reducible exact l2.2.2.2.2.1 | with_reducible exact lpl.1 | with_reducible exact lpl.2.1 | with_reducible exact lpl.2.2.1 | with_reducible exact lpl.2.2.2.1 | with_reducible exact lpl.2.2.2.2.1 | with_reducible exact lpl.2.2.2.2.2.1 | with_reducible exact lrc.1 | with_reducible exact lrc.2.1 | with_reducible exact lrc.2.2.1 | with_reducible exact lrc.2.2.2.1 | with_reducible exact lrc.2.2.2.2.1 | with_reducible exact lrc.2.2.2.2.2.1 | with_reducible exact lrc.2.2.2.2.2.2.1 | with_reducible exact lrd | with_reducible exact ldy.1 | with_reducible exact ldy.2.1 | with_reducible exact ldy.2.2.1 | with_reducible exact ldy.2.2.2.1 | with_reducible exact ldy.2.2.2.2.1 | with_reducible exact ldy.2.2.2.2.2.1 | with_reducible exact ldy.2.2.2.2.2.2.1 | with_reducible exact ldy.2.2.2.2.2.2.2.1 | with_reducible exact ldy.2.2.2.2.2.2.2.2.1 | with_reducible exact ly | with_reducible exact lypb.1 | with_reducible exact lypb.2.1 | with_reducible exact lypb.2.2.1 | with_reducible exact lypb.2.2.2.1 | with_reducible exact lypb.2.2.2.2.1 | with_reducible exact lypb.2.2.2.2.2.1 | with_reducible exact lypb.2.2.2.2.2.2.1 | with_reducible exact lypb.2.2.2.2.2.2.2.1 | with_reducible exact lypb.2.2.2.2.2.2.2.2.1 | with_reducible exact lypb.2.2.2.2.2.2.2.2.2.1 | with_reducible exact lypb.2.2.2.2.2.2.2.2.2.2.1 | with_reducible exact ldx.1 | with_reducible exact ldx.2.1 | with_reducible exact ldx.2.2.1 | with_reducible exact ldx.2.2.2.1 | with_reducible exact ldx.2.2.2.2.1 | with_reducible exact ldx.2.2.2.2.2.1 | with_reducible exact ldx.2.2.2.2.2.2.1 | with_reducible exact ldx.2.2.2.2.2.2.2.1 | with_reducible exact ldx.2.2.2.2.2.2.2.2.1 | with_reducible exact ldx.2.2.2.2.2.2.2.2.2.1 | with_reducible exact ldx.2.2.2.2.2.2.2.2.2.2.1 | with_reducible exact ldx.2.2.2.2.2.2.2.2.2.2.2.1 | with_reducible exact lx | with_reducible exact lpb.1 | with_reducible exact lpb.2.1 | with_reducible exact lpb.2.2.1 | with_reducible exact lpb.2.2.2.1 | with_reducible exact lpb.2.2.2.2.1 | with_reducible exact lpb.2.2.2.2.2.1 | with_reducible exact lpb.2.2.2.2.2.2.1 | with_reducible exact lpb.2.2.2.2.2.2.2.1 | with_reducible exact lpb.2.2.2.2.2.2.2.2.1 | with_reducible exact lpb.2.2.2.2.2.2.2.2.2.1 | with_reducible exact lpb.2.2.2.2.2.2.2.2.2.2.1 | with_reducible exact lpb.2.2.2.2.2.2.2.2.2.2.2.1 | with_reducible exact lpb.2.2.2.2.2.2.2.2.2.2.2.2.1 | with_reducible exact lpb.2.2.2.2.2.2.2.2.2.2.2.2.2.1 | with_reducible exact Nat.lt_trans lrc.1 lrd | with_reducible exact Nat.lt_trans lrc.2.1 lrd | with_reducible exact Nat.lt_trans lrc.2.2.1 lrd | with_reducible exact Nat.lt_trans lrc.2.2.2.1 lrd | with_reducible exact Nat.lt_trans lrc.2.2.2.2.1 lrd | with_reducible exact Nat.lt_trans lrc.2.2.2.2.2.1 lrd | with_reducible exact Nat.lt_trans lrc.2.2.2.2.2.2.1 lrd | with_reducible exact Nat.lt_trans ldy.1 ly | with_reducible exact Nat.lt_trans ldy.2.1 ly | with_reducible exact Nat.lt_trans ldy.2.2.1 ly | with_reducible exact Nat.lt_trans ldy.2.2.2.1 ly | with_reducible exact Nat.lt_trans ldy.2.2.2.2.1 ly | with_reducible exact Nat.lt_trans ldy.2.2.2.2.2.1 ly | with_reducible exact Nat.lt_trans ldy.2.2.2.2.2.2.1 ly | with_reducible exact Nat.lt_trans ldy.2.2.2.2.2.2.2.1 ly | with_reducible exact Nat.lt_trans ldy.2.2.2.2.2.2.2.2.1 ly | with_reducible exact Nat.lt_trans ldx.1 lx | with_reducible exact Nat.lt_trans ldx.2.1 lx | with_reducible exact Nat.lt_trans ldx.2.2.1 lx | with_reducible exact Nat.lt_trans ldx.2.2.2.1 lx | with_reducible exact Nat.lt_trans ldx.2.2.2.2.1 lx | with_reducible exact Nat.lt_trans ldx.2.2.2.2.2.1 lx | with_reducible exact Nat.lt_trans ldx.2.2.2.2.2.2.1 lx | with_reducible exact Nat.lt_trans ldx.2.2.2.2.2.2.2.1 lx | with_reducible exact Nat.lt_trans ldx.2.2.2.2.2.2.2.2.1 lx | with_reducible exact Nat.lt_trans ldx.2.2.2.2.2.2.2.2.2.1 lx | with_reducible exact Nat.lt_trans ldx.2.2.2.2.2.2.2.2.2.2.1 lx | with_reducible exact Nat.lt_trans ldx.2.2.2.2.2.2.2.2.2.2.2.1 lx)) | (first | lia | omega)⟩
    rw [hml] at hy
    obtain ⟨tps, htab⟩ : ∃ tps, hh.get? 134 = some (tabObj tps) ∧ (134 : Addr) ≠ L ∧ h₀.get? 134 = none := ⟨_, NZ _ (.tail _ (.tail _ (.tail _ (.tail _ (.tail _ (.tail _ (.tail _ (.tail _ (.tail _ (.tail _ (.tail _ (.tail _ (.tail _ (.head _))))))))))))))⟩
    refine ret (LexS.mk xx dx pb y1 dy rd pl ypb rc _ _ _ _ _ _ _ _ _ _ _ _ _ _ _ _ _ _ _ _ _ _ y _ _ _ _ _ _ _ [(rc, oc), (L0 + 1 + 1, oS1), (L0 + 1, oP1), (134, tabObj tps)]) _ _ _ _ ?ok ?rs hy ?fr ⟨tps, .tail _ (.tail _ (.tail _ (.head _)))⟩ (Keep.then KG0 (Fr.keep kF)) FZ (nc (NZ _ (.head _)) (nc (NZ _ (.tail _ (.tail _ (.head _)))) (nc (NZ _ (.tail _ (.head _))) (nc (NZ _ (.tail _ (.tail _ (.tail _ (.tail _ (.head _)))))) (nc (NZ _ (.tail _ (.tail _ (.tail _ (.tail _ (.tail _ (.head _))))))) (nc (NZ _ (.tail _ (.tail _ (.tail _ (.tail _ (.tail _ (.tail _ (.tail _ (.tail _ (.head _)))))))))) (nc (NZ _ (.tail _ (.tail _ (.tail _ (.tail _ (.tail _ (.tail _ (.head _)))))))) (nc (NZ _ (.tail _ (.tail _ (.tail _ (.tail _ (.tail _ (.tail _ (.tail _ (.head _))))))))) (nc (NZ _ (.tail _ (.tail _ (.tail _ (.tail _ (.tail _ (.tail _ (.tail _ (.tail _ (.tail _ (.tail _ (.tail _ (.head _))))))))))))) (nc (NZ _ (.tail _ (.tail _ (.tail _ (.tail _ (.tail _ (.tail _ (.tail _ (.tail _ (.tail _ (.tail _ (.tail _ (.tail _ (.head _)))))))))))))) (nc htab (fun p hp => NZ p (.tail _ (.tail _ (.tail _ (.tail _ (.tail _ (.tail _ (.tail _ (.tail _ (.tail _ (.tail _ (.tail _ (.tail _ (.tail _ (.tail _ hp))))))))))))))))))))))))))
    case fr =>
      intro b o e hb hm
      have hb3 := hAll b (by
        simp only [LexS.adr, List.mem_cons, List.map_cons, List.map_nil, List.not_mem_nil, or_false] at hm ⊢
        rcases hm with h | h | h | h | h | h | h | h | h | h | h
        all_goals first | exact absurd h hb | (subst h; simp))
      by_cases hb2 : b ∈ (134 :: rl :: ts.map (·.1))
      · rcases List.mem_cons.mp hb2 with h | hb2
        · exact hb h
        · rcases List.mem_cons.mp hb2 with h | hb2
          · rw [h] at hb3
            exact Nat.lt_asymm hb3.2 ll0.2.1
          · obtain ⟨p, hp, rfl⟩ := List.mem_map.mp hb2
            exact Nat.lt_asymm hb3.2 (kst_ltOf ll0.2.2 p hp)
      · have := KG0 b o hb2 e
        rw [hb3.1] at this; cases this
    case ok =>
      constructor
      case hs => exact hslen
      case aux =>
        intro p hp
        simp only [List.mem_cons, List.not_mem_nil, or_false] at hp
        rcases hp with rfl | rfl | rfl | rfl <;> dsimp only
        all_goals (refine ⟨⟨neN ?_, neN ?_, neN ?_⟩, neN ?_, neN ?_, neN ?_⟩ <;> (first | (refine Nat.ne_of_lt ?_; first | with_reducible exact ll0.1 | with_reducible exact ll0.2.1 | with_reducible exact l1.1 | with_reducible exact l1.2.1 | with_reducible exact l1.2.2.1 | with_reducible exact l1.2.2.2.1 | with_reducible exact l2.1 | with_reducible exact l2.2.1 | with_reducible exact l2.2.2.1 | with_reducible exact l2.2.2.2.1 | with_reducible exact l2.2.2.2.2.1 | with_reducible exact lpl.1 | with_reducible exact lpl.2.1 | with_reducible exact lpl.2.2.1 | with_reducible exact lpl.2.2.2.1 | with_reducible exact lpl.2.2.2.2.1 | with_reducible exact lpl.2.2.2.2.2.1 | with_reducible exact lrc.1 | with_reducible exact lrc.2.1 | with_reducible exact lrc.2.2.1 | with_reducible exact lrc.2.2.2.1 | with_reducible exact lrc.2.2.2.2.1 | with_reducible exact lrc.2.2.2.2.2.1 | with_reducible exact lrc.2.2.2.2.2.2.1 | with_reducible exact lrd | with_reducible exact ldy.1 | with_reducible exact ldy.2.1 | with_reducible exact ldy.2.2.1 | with_reducible exact ldy.2.2.2.1 | with_reducible exact ldy.2.2.2.2.1 | with_reducible exact ldy.2.2.2.2.2.1 | with_reducible exact ldy.2.2.2.2.2.2.1 | with_reducible exact ldy.2.2.2.2.2.2.2.1 | with_reducible exact ldy.2.2.2.2.2.2.2.2.1 | with_reducible exact ly | with_reducible exact lypb.1 | with_reducible exact lypb.2.1 | with_reducible exact lypb.2.2.1 | with_reducible exact lypb.2.2.2.1 | with_reducible exact lypb.2.2.2.2.1 | with_reducible exact lypb.2.2.2.2.2.1 | with_reducible exact lypb.2.2.2.2.2.2.1 | with_reducible exact lypb.2.2.2.2.2.2.2.1 | with_reducible exact lypb.2.2.2.2.2.2.2.2.1 | with_reducible exact lypb.2.2.2.2.2.2.2.2.2.1 | with_reducible exact lypb.2.2.2.2.2.2.2.2.2.2.1 | with_reducible exact ldx.1 | with_reducible exact ldx.2.1 | with_reducible exact ldx.2.2.1 | with_reducible exact ldx.2.2.2.1 | with_reducible exact ldx.2.2.2.2.1 | with_reducible exact ldx.2.2.2.2.2.1 | with_reducible exact ldx.2.2.2.2.2.2.1 | with_reducible exact ldx.2.2.2.2.2.2.2.1 | with_reducible exact ldx.2.2.2.2.2.2.2.2.1 | with_reducible exact ldx.2.2.2.2.2.2.2.2.2.1 | with_reducible exact ldx.2.2.2.2.2.2.2.2.2.2.1 | with_reducible exact ldx.2.2.2.2.2.2.2.2.2.2.2.1 | with_reducible exact lx | with_reducible exact lpb.1 | with_reducible exact lpb.2.1 | with_reducible exact lpb.2.2.1 | with_reducible exact lpb.2.2.2.1 | with_reducible exact lpb.2.2.2.2.1 | with_reducible exact lpb.2.2.2.2.2.1 | with_reducible exact lpb.2.2.2.2.2.2.1 | with_reducible exact lpb.2.2.2.2.2.2.2.1 | with_reducible exact lpb.2.2.2.2.2.2.2.2.1 | with_reducible exact lpb.2.2.2.2.2.2.2.2.2.1 | with_reducible exact lpb.2.2.2.2.2.2.2.2.2.2.1 | with_reducible exact lpb.2.2.2.2.2.2.2.2.2.2.2.1 | with_reducible exact lpb.2.2.2.2.2.2.2.2.2.2.2.2.1 | with_reducible exact lpb.2.2.2.2.2.2.2.2.2.2.2.2.2.1 | with_reducible exact Nat.lt_trans lrc.1 lrd | with_reducible exact Nat.lt_trans lrc.2.1 lrd | with_reducible exact Nat.lt_trans lrc.2.2.1 lrd | with_reducible exact Nat.lt_trans lrc.2.2.2.1 lrd | with_reducible exact Nat.lt_trans lrc.2.2.2.2.1 lrd | with_reducible exact Nat.lt_trans lrc.2.2.2.2.2.1 lrd | with_reducible exact Nat.lt_trans lrc.2.2.2.2.2.2.1 lrd | with_reducible exact Nat.lt_trans ldy.1 ly | with_reducible exact Nat.lt_trans ldy.2.1 ly | with_reducible exact Nat.lt_trans ldy.2.2.1 ly | with_reducible exact Nat.lt_trans ldy.2.2.2.1 ly | with_reducible exact Nat.lt_trans ldy.2.2.2.2.1 ly | with_reducible exact Nat.lt_trans ldy.2.2.2.2.2.1 ly | with_reducible exact Nat.lt_trans ldy.2.2.2.2.2.2.1 ly | with_reducible exact Nat.lt_trans ldy.2.2.2.2.2.2.2.1 ly | with_reducible exact Nat.lt_trans ldy.2.2.2.2.2.2.2.2.1 ly | with_reducible exact Nat.lt_trans ldx.1 lx | with_reducible exact Nat.lt_trans ldx.2.1 lx | with_reducible exact Nat.lt_trans ldx.2.2.1 lx | with_reducible exact Nat.lt_trans ldx.2.2.2.1 lx | with_reducible exact Nat.lt_trans ldx.2.2.2.2.1 lx | with_reducible exact Nat.lt_trans ldx.2.2.2.2.2.1 lx | with_reducible exact Nat.lt_trans ldx.2.2.2.2.2.2.1 lx | with_reducible exact Nat.lt_trans ldx.2.2.2.2.2.2.2.1 lx | with_reducible exact Nat.lt_trans ldx.2.2.2.2.2.2.2.2.1 lx | with_reducible exact Nat.lt_trans ldx.2.2.2.2.2.2.2.2.2.1 lx | with_reducible exact Nat.lt_trans ldx.2.2.2.2.2.2.2.2.2.2.1 lx | with_reducible exact Nat.lt_trans ldx.2.2.2.2.2.2.2.2.2.2.2.1 lx) | (refine Nat.ne_of_gt ?_; first | with_reducible exact ll0.1 | with_reducible exact ll0.2.1 | with_reducible exact l1.1 | with_reducible exact l1.2.1 | with_reducible exact l1.2.2.1 | with_reducible exact l1.2.2.2.1 | with_reducible exact l2.1 | with_reducible exact l2.2.1 | with_reducible exact l2.2.2.1 | with_reducible exact l2.2.2.2.1 | with_reducible exact l2.2.2.2.2.1 | with_reducible exact lpl.1 | with_reducible exact lpl.2.1 | with_reducible exact lpl.2.2.1 | with_reducible exact lpl.2.2.2.1 | with_reducible exact lpl.2.2.2.2.1 | with_reducible exact lpl.2.2.2.2.2.1 | with_reducible exact lrc.1 | with_reducible exact lrc.2.1 | with_reducible exact lrc.2.2.1 | with_reducible exact lrc.2.2.2.1 | with_reducible exact lrc.2.2.2.2.1 | with_reducible exact lrc.2.2.2.2.2.1 | with_reducible exact lrc.2.2.2.2.2.2.1 | with_reducible exact lrd | with_reducible exact ldy.1 | with_reducible exact ldy.2.1 | with_reducible exact ldy.2.2.1 | with_reducible exact ldy.2.2.2.1 | with_reducible exact ldy.2.2.2.2.1 | with_reducible exact ldy.2.2.2.2.2.1 | with_reducible exact ldy.2.2.2.2.2.2.1 | with_reducible exact ldy.2.2.2.2.2.2.2.1 | with_reducible exact ldy.2.2.2.2.2.2.2.2.1 | with_reducible exact ly | with_reducible exact lypb.1 | with_reducible exact lypb.2.1 | with_reducible exact lypb.2.2.1 | with_reducible exact lypb.2.2.2.1 | with_reducible exact lypb.2.2.2.2.1 | with_reducible exact lypb.2.2.2.2.2.1 | with_reducible exact lypb.2.2.2.2.2.2.1 | with_reducible exact lypb.2.2.2.2.2.2.2.1 | with_reducible exact lypb.2.2.2.2.2.2.2.2.1 | with_reducible exact lypb.2.2.2.2.2.2.2.2.2.1 | with_reducible exact lypb.2.2.2.2.2.2.2.2.2.2.1 | with_reducible exact ldx.1 | with_reducible exact ldx.2.1 | with_reducible exact ldx.2.2.1 | with_reducible exact ldx.2.2.2.1 | with_reducible exact ldx.2.2.2.2.1 | with_reducible exact ldx.2.2.2.2.2.1 | with_reducible exact ldx.2.2.2.2.2.2.1 | with_reducible exact ldx.2.2.2.2.2.2.2.1 | with_reducible exact ldx.2.2.2.2.2.2.2.2.1 | with_reducible exact ldx.2.2.2.2.2.2.2.2.2.1 | with_reducible exact ldx.2.2.2.2.2.2.2.2.2.2.1 | with_reducible exact ldx.2.2.2.2.2.2.2.2.2.2.2.1 | with_reducible exact lx | with_reducible exact lpb.1 | with_reducible exact lpb.2.1 | with_reducible exact lpb.2.2.1 | with_reducible exact lpb.2.2.2.1 | with_reducible exact lpb.2.2.2.2.1 | with_reducible exact lpb.2.2.2.2.2.1 | with_reducible exact lpb.2.2.2.2.2.2.1 | with_reducible exact lpb.2.2.2.2.2.2.2.1 | with_reducible exact lpb.2.2.2.2.2.2.2.2.1 | with_reducible exact lpb.2.2.2.2.2.2.2.2.2.1 | with_reducible exact lpb.2.2.2.2.2.2.2.2.2.2.1 | with_reducible exact lpb.2.2.2.2.2.2.2.2.2.2.2.1 | with_reducible exact lpb.2.2.2.2.2.2.2.2.2.2.2.2.1 | with_reducible exact lpb.2.2.2.2.2.2.2.2.2.2.2.2.2.1 | with_reducible exact Nat.lt_trans lrc.1 lrd | with_reducible exact Nat.lt_trans lrc.2.1 lrd | with_reducible exact Nat.lt_trans lrc.2.2.1 lrd | with_reducible exact Nat.lt_trans lrc.2.2.2.1 lrd | with_reducible exact Nat.lt_trans lrc.2.2.2.2.1 lrd | with_reducible exact Nat.lt_trans lrc.2.2.2.2.2.1 lrd | with_reducible exact Nat.lt_trans lrc.2.2.2.2.2.2.1 lrd | with_reducible exact Nat.lt_trans ldy.1 ly | with_reducible exact Nat.lt_trans ldy.2.1 ly | with_reducible exact Nat.lt_trans ldy.2.2.1 ly | with_reducible exact Nat.lt_trans ldy.2.2.2.1 ly | with_reducible exact Nat.lt_trans ldy.2.2.2.2.1 ly | with_reducible exact Nat.lt_trans ldy.2.2.2.2.2.1 ly | with_reducible exact Nat.lt_trans ldy.2.2.2.2.2.2.1 ly | with_reducible exact Nat.lt_trans ldy.2.2.2.2.2.2.2.1 ly | with_reducible exact Nat.lt_trans ldy.2.2.2.2.2.2.2.2.1 ly | with_reducible exact Nat.lt_trans ldx.1 lx | with_reducible exact Nat.lt_trans ldx.2.1 lx | with_reducible exact Nat.lt_trans ldx.2.2.1 lx | with_reducible exact Nat.lt_trans ldx.2.2.2.1 lx | with_reducible exact Nat.lt_trans ldx.2.2.2.2.1 lx | with_reducible exact Nat.lt_trans ldx.2.2.2.2.2.1 lx | with_reducible exact Nat.lt_trans ldx.2.2.2.2.2.2.1 lx | with_reducible exact Nat.lt_trans ldx.2.2.2.2.2.2.2.1 lx | with_reducible exact Nat.lt_trans ldx.2.2.2.2.2.2.2.2.1 lx | with_reducible exact Nat.lt_trans ldx.2.2.2.2.2.2.2.2.2.1 lx | with_reducible exact Nat.lt_trans ldx.2.2.2.2.2.2.2.2.2.2.1 lx | with_reducible exact Nat.lt_trans ldx.2.2.2.2.2.2.2.2.2.2.2.1 lx) | (first | lia | omega)))
      all_goals dsimp only
      · refine ⟨neN ?_, neN ?_, neN ?_⟩ <;> (first | (refine Nat.ne_of_lt ?_; first | with_reducible exact ll0.1 | with_reducible exact ll0.2.1 | with_reducible exact l1.1 | with_reducible exact l1.2.1 | with_reducible exact l1.2.2.1 | with_reducible exact l1.2.2.2.1 | with_reducible exact l2.1 | with_reducible exact l2.2.1 | with_reducible exact l2.2.2.1 | with_reducible exact l2.2.2.2.1 | with_reducible exact l2.2.2.2.2.1 | with_reducible exact lpl.1 | with_reducible exact lpl.2.1 | with_reducible exact lpl.2.2.1 | with_reducible exact lpl.2.2.2.1 | with_reducible exact lpl.2.2.2.2.1 | with_reducible exact lpl.2.2.2.2.2.1 | with_reducible exact lrc.1 | with_reducible exact lrc.2.1 | with_reducible exact lrc.2.2.1 | with_reducible exact lrc.2.2.2.1 | with_reducible exact lrc.2.2.2.2.1 | with_reducible exact lrc.2.2.2.2.2.1 | with_reducible exact lrc.2.2.2.2.2.2.1 | with_reducible exact lrd | with_reducible exact ldy.1 | with_reducible exact ldy.2.1 | with_reducible exact ldy.2.2.1 | with_reducible exact ldy.2.2.2.1 | with_reducible exact ldy.2.2.2.2.1 | with_reducible exact ldy.2.2.2.2.2.1 | with_reducible exact ldy.2.2.2.2.2.2.1 | with_reducible exact ldy.2.2.2.2.2.2.2.1 | with_reducible exact ldy.2.2.2.2.2.2.2.2.1 | with_reducible exact ly | with_reducible exact lypb.1 | with_reducible exact lypb.2.1 | with_reducible exact lypb.2.2.1 | with_reducible exact lypb.2.2.2.1 | with_reducible exact lypb.2.2.2.2.1 | with_reducible exact lypb.2.2.2.2.2.1 | with_reducible exact lypb.2.2.2.2.2.2.1 | with_reducible exact lypb.2.2.2.2.2.2.2.1 | with_reducible exact lypb.2.2.2.2.2.2.2.2.1 | with_reducible exact lypb.2.2.2.2.2.2.2.2.2.1 | with_reducible exact lypb.2.2.2.2.2.2.2.2.2.2.1 | with_reducible exact ldx.1 | with_reducible exact ldx.2.1 | with_reducible exact ldx.2.2.1 | with_reducible exact ldx.2.2.2.1 | with_reducible exact ldx.2.2.2.2.1 | with_reducible exact ldx.2.2.2.2.2.1 | with_reducible exact ldx.2.2.2.2.2.2.1 | with_reducible exact ldx.2.2.2.2.2.2.2.1 | with_reducible exact ldx.2.2.2.2.2.2.2.2.1 | with_reducible exact ldx.2.2.2.2.2.2.2.2.2.1 | with_reducible exact ldx.2.2.2.2.2.2.2.2.2.2.1 | with_reducible exact ldx.2.2.2.2.2.2.2.2.2.2.2.1 | with_reducible exact lx | with_reducible exact lpb.1 | with_reducible exact lpb.2.1 | with_reducible exact lpb.2.2.1 | with_reducible exact lpb.2.2.2.1 | with_reducible exact lpb.2.2.2.2.1 | with_reducible exact lpb.2.2.2.2.2.1 | with_reducible exact lpb.2.2.2.2.2.2.1 | with_reducible exact lpb.2.2.2.2.2.2.2.1 | with_reducible exact lpb.2.2.2.2.2.2.2.2.1 | with_reducible exact lpb.2.2.2.2.2.2.2.2.2.1 | with_reducible exact lpb.2.2.2.2.2.2.2.2.2.2.1 | with_reducible exact lpb.2.2.2.2.2.2.2.2.2.2.2.1 | with_reducible exact lpb.2.2.2.2.2.2.2.2.2.2.2.2.1 | with_reducible exact lpb.2.2.2.2.2.2.2.2.2.2.2.2.2.1 | with_reducible exact Nat.lt_trans lrc.1 lrd | with_reducible exact Nat.lt_trans lrc.2.1 lrd | with_reducible exact Nat.lt_trans lrc.2.2.1 lrd | with_reducible exact Nat.lt_trans lrc.2.2.2.1 lrd | with_reducible exact Nat.lt_trans lrc.2.2.2.2.1 lrd | with_reducible exact Nat.lt_trans lrc.2.2.2.2.2.1 lrd | with_reducible exact Nat.lt_trans lrc.2.2.2.2.2.2.1 lrd | with_reducible exact Nat.lt_trans ldy.1 ly | with_reducible exact Nat.lt_trans ldy.2.1 ly | with_reducible exact Nat.lt_trans ldy.2.2.1 ly | with_reducible exact Nat.lt_trans ldy.2.2.2.1 ly | with_reducible exact Nat.lt_trans ldy.2.2.2.2.1 ly | with_reducible exact Nat.lt_trans ldy.2.2.2.2.2.1 ly | with_reducible exact Nat.lt_trans ldy.2.2.2.2.2.2.1 ly | with_reducible exact Nat.lt_trans ldy.2.2.2.2.2.2.2.1 ly | with_reducible exact Nat.lt_trans ldy.2.2.2.2.2.2.2.2.1 ly | with_reducible exact Nat.lt_trans ldx.1 lx | with_reducible exact Nat.lt_trans ldx.2.1 lx | with_reducible exact Nat.lt_trans ldx.2.2.1 lx | with_reducible exact Nat.lt_trans ldx.2.2.2.1 lx | with_reducible exact Nat.lt_trans ldx.2.2.2.2.1 lx | with_reducible exact Nat.lt_trans ldx.2.2.2.2.2.1 lx | with_reducible exact Nat.lt_trans ldx.2.2.2.2.2.2.1 lx | with_reducible exact Nat.lt_trans ldx.2.2.2.2.2.2.2.1 lx | with_reducible exact Nat.lt_trans ldx.2.2.2.2.2.2.2.2.1 lx | with_reducible exact Nat.lt_trans ldx.2.2.2.2.2.2.2.2.2.1 lx | with_reducible exact Nat.lt_trans ldx.2.2.2.2.2.2.2.2.2.2.1 lx | with_reducible exact Nat.lt_trans ldx.2.2.2.2.2.2.2.2.2.2.2.1 lx) | (refine Nat.ne_of_gt ?_; first | with_reducible exact ll0.1 | with_reducible exact ll0.2.1 | with_reducible exact l1.1 | with_reducible exact l1.2.1 | with_reducible exact l1.2.2.1 | with_reducible exact l1.2.2.2.1 | with_reducible exact l2.1 | with_reducible exact l2.2.1 | with_reducible exact l2.2.2.1 | with_reducible exact l2.2.2.2.1 | with_reducible exact l2.2.2.2.2.1 | with_reducible exact lpl.1 | with_reducible exact lpl.2.1 | with_reducible exact lpl.2.2.1 | with_reducible exact lpl.2.2.2.1 | with_reducible exact lpl.2.2.2.2.1 | with_reducible exact lpl.2.2.2.2.2.1 | with_reducible exact lrc.1 | with_reducible exact lrc.2.1 | with_reducible exact lrc.2.2.1 | with_reducible exact lrc.2.2.2.1 | with_reducible exact lrc.2.2.2.2.1 | with_reducible exact lrc.2.2.2.2.2.1 | with_reducible exact lrc.2.2.2.2.2.2.1 | with_reducible exact lrd | with_reducible exact ldy.1 | with_reducible exact ldy.2.1 | with_reducible exact ldy.2.2.1 | with_reducible exact ldy.2.2.2.1 | with_reducible exact ldy.2.2.2.2.1 | with_reducible exact ldy.2.2.2.2.2.1 | with_reducible exact ldy.2.2.2.2.2.2.1 | with_reducible exact ldy.2.2.2.2.2.2.2.1 | with_reducible exact ldy.2.2.2.2.2.2.2.2.1 | with_reducible exact ly | with_reducible exact lypb.1 | with_reducible exact lypb.2.1 | with_reducible exact lypb.2.2.1 | with_reducible exact lypb.2.2.2.1 | with_reducible exact lypb.2.2.2.2.1 | with_reducible exact lypb.2.2.2.2.2.1 | with_reducible exact lypb.2.2.2.2.2.2.1 | with_reducible exact lypb.2.2.2.2.2.2.2.1 | with_reducible exact lypb.2.2.2.2.2.2.2.2.1 | with_reducible exact lypb.2.2.2.2.2.2.2.2.2.1 | with_reducible exact lypb.2.2.2.2.2.2.2.2.2.2.1 | with_reducible exact ldx.1 | with_reducible exact ldx.2.1 | with_reducible exact ldx.2.2.1 | with_reducible exact ldx.2.2.2.1 | with_reducible exact ldx.2.2.2.2.1 | with_reducible exact ldx.2.2.2.2.2.1 | with_reducible exact ldx.2.2.2.2.2.2.1 | with_reducible exact ldx.2.2.2.2.2.2.2.1 | with_reducible exact ldx.2.2.2.2.2.2.2.2.1 | with_reducible exact ldx.2.2.2.2.2.2.2.2.2.1 | with_reducible exact ldx.2.2.2.2.2.2.2.2.2.2.1 | with_reducible exact ldx.2.2.2.2.2.2.2.2.2.2.2.1 | with_reducible exact lx | with_reducible exact lpb.1 | with_reducible exact lpb.2.1 | with_reducible exact lpb.2.2.1 | with_reducible exact lpb.2.2.2.1 | with_reducible exact lpb.2.2.2.2.1 | with_reducible exact lpb.2.2.2.2.2.1 | with_reducible exact lpb.2.2.2.2.2.2.1 | with_reducible exact lpb.2.2.2.2.2.2.2.1 | with_reducible exact lpb.2.2.2.2.2.2.2.2.1 | with_reducible exact lpb.2.2.2.2.2.2.2.2.2.1 | with_reducible exact lpb.2.2.2.2.2.2.2.2.2.2.1 | with_reducible exact lpb.2.2.2.2.2.2.2.2.2.2.2.1 | with_reducible exact lpb.2.2.2.2.2.2.2.2.2.2.2.2.1 | with_reducible exact lpb.2.2.2.2.2.2.2.2.2.2.2.2.2.1 | with_reducible exact Nat.lt_trans lrc.1 lrd | with_reducible exact Nat.lt_trans lrc.2.1 lrd | with_reducible exact Nat.lt_trans lrc.2.2.1 lrd | with_reducible exact Nat.lt_trans lrc.2.2.2.1 lrd | with_reducible exact Nat.lt_trans lrc.2.2.2.2.1 lrd | with_reducible exact Nat.lt_trans lrc.2.2.2.2.2.1 lrd | with_reducible exact Nat.lt_trans lrc.2.2.2.2.2.2.1 lrd | with_reducible exact Nat.lt_trans ldy.1 ly | with_reducible exact Nat.lt_trans ldy.2.1 ly | with_reducible exact Nat.lt_trans ldy.2.2.1 ly | with_reducible exact Nat.lt_trans ldy.2.2.2.1 ly | with_reducible exact Nat.lt_trans ldy.2.2.2.2.1 ly | with_reducible exact Nat.lt_trans ldy.2.2.2.2.2.1 ly | with_reducible exact Nat.lt_trans ldy.2.2.2.2.2.2.1 ly | with_reducible exact Nat.lt_trans ldy.2.2.2.2.2.2.2.1 ly | with_reducible exact Nat.lt_trans ldy.2.2.2.2.2.2.2.2.1 ly | with_reducible exact Nat.lt_trans ldx.1 lx | with_reducible exact Nat.lt_trans ldx.2.1 lx | with_reducible exact Nat.lt_trans ldx.2.2.1 lx | with_reducible exact Nat.lt_trans ldx.2.2.2.1 lx | with_reducible exact Nat.lt_trans ldx.2.2.2.2.1 lx | with_reducible exact Nat.lt_trans ldx.2.2.2.2.2.1 lx | with_reducible exact Nat.lt_trans ldx.2.2.2.2.2.2.1 lx | with_reducible exact Nat.lt_trans ldx.2.2.2.2.2.2.2.1 lx | with_reducible exact Nat.lt_trans ldx.2.2.2.2.2.2.2.2.1 lx | with_reducible exact Nat.lt_trans ldx.2.2.2.2.2.2.2.2.2.1 lx | with_reducible exact Nat.lt_trans ldx.2.2.2.2.2.2.2.2.2.2.1 lx | with_reducible exact Nat.lt_trans ldx.2.2.2.2.2.2.2.2.2.2.2.1 lx) | (first | lia | omega))
      · refine ⟨neN ?_, neN ?_, neN ?_, neN ?_⟩ <;> (first | (refine Nat.ne_of_lt ?_; first | with_reducible exact ll0.1 | with_reducible exact ll0.2.1 | with_reducible exact l1.1 | with_reducible exact l1.2.1 | with_reducible exact l1.2.2.1 | with_reducible exact l1.2.2.2.1 | with_reducible exact l2.1 | with_reducible exact l2.2.1 | with_reducible exact l2.2.2.1 | with_reducible exact l2.2.2.2.1 | with_reducible exact l2.2.2.2.2.1 | with_reducible exact lpl.1 | with_reducible exact lpl.2.1 | with_reducible exact lpl.2.2.1 | with_reducible exact lpl.2.2.2.1 | with_reducible exact lpl.2.2.2.2.1 | with_reducible exact lpl.2.2.2.2.2.1 | with_reducible exact lrc.1 | with_reducible exact lrc.2.1 | with_reducible exact lrc.2.2.1 | with_reducible exact lrc.2.2.2.1 | with_reducible exact lrc.2.2.2.2.1 | with_reducible exact lrc.2.2.2.2.2.1 | with_reducible exact lrc.2.2.2.2.2.2.1 | with_reducible exact lrd | with_reducible exact ldy.1 | with_reducible exact ldy.2.1 | with_reducible exact ldy.2.2.1 | with_reducible exact ldy.2.2.2.1 | with_reducible exact ldy.2.2.2.2.1 | with_reducible exact ldy.2.2.2.2.2.1 | with_reducible exact ldy.2.2.2.2.2.2.1 | with_reducible exact ldy.2.2.2.2.2.2.2.1 | with_reducible exact ldy.2.2.2.2.2.2.2.2.1 | with_reducible exact ly | with_reducible exact lypb.1 | with_reducible exact lypb.2.1 | with_reducible exact lypb.2.2.1 | with_reducible exact lypb.2.2.2.1 | with_reducible exact lypb.2.2.2.2.1 | with_reducible exact lypb.2.2.2.2.2.1 | with_reducible exact lypb.2.2.2.2.2.2.1 | with_reducible exact lypb.2.2.2.2.2.2.2.1 | with_reducible exact lypb.2.2.2.2.2.2.2.2.1 | with_reducible exact lypb.2.2.2.2.2.2.2.2.2.1 | with_reducible exact lypb.2.2.2.2.2.2.2.2.2.2.1 | with_reducible exact ldx.1 | with_reducible exact ldx.2.1 | with_reducible exact ldx.2.2.1 | with_reducible exact ldx.2.2.2.1 | with_reducible exact ldx.2.2.2.2.1 | with_reducible exact ldx.2.2.2.2.2.1 | with_reducible exact ldx.2.2.2.2.2.2.1 | with_reducible exact ldx.2.2.2.2.2.2.2.1 | with_reducible exact ldx.2.2.2.2.2.2.2.2.1 | with_reducible exact ldx.2.2.2.2.2.2.2.2.2.1 | with_reducible exact ldx.2.2.2.2.2.2.2.2.2.2.1 | with_reducible exact ldx.2.2.2.2.2.2.2.2.2.2.2.1 | with_reducible exact lx | with_reducible exact lpb.1 | with_reducible exact lpb.2.1 | with_reducible exact lpb.2.2.1 | with_reducible exact lpb.2.2.2.1 | with_reducible exact lpb.2.2.2.2.1 | with_reducible exact lpb.2.2.2.2.2.1 | with_reducible exact lpb.2.2.2.2.2.2.1 | with_reducible exact lpb.2.2.2.2.2.2.2.1 | with_reducible exact lpb.2.2.2.2.2.2.2.2.1 | with_reducible exact lpb.2.2.2.2.2.2.2.2.2.1 | with_reducible exact lpb.2.2.2.2.2.2.2.2.2.2.1 | with_reducible exact lpb.2.2.2.2.2.2.2.2.2.2.2.1 | with_reducible exact lpb.2.2.2.2.2.2.2.2.2.2.2.2.1 | with_reducible exact lpb.2.2.2.2.2.2.2.2.2.2.2.2.2.1 | with_reducible exact Nat.lt_trans lrc.1 lrd | with_reducible exact Nat.lt_trans lrc.2.1 lrd | with_reducible exact Nat.lt_trans lrc.2.2.1 lrd | with_reducible exact Nat.lt_trans lrc.2.2.2.1 lrd | with_reducible exact Nat.lt_trans lrc.2.2.2.2.1 lrd | with_reducible exact Nat.lt_trans lrc.2.2.2.2.2.1 lrd | with_reducible exact Nat.lt_trans lrc.2.2.2.2.2.2.1 lrd | with_reducible exact Nat.lt_trans ldy.1 ly | with_reducible exact Nat.lt_trans ldy.2.1 ly | with_reducible exact Nat.lt_trans ldy.2.2.1 ly | with_reducible exact Nat.lt_trans ldy.2.2.2.1 ly | with_reducible exact Nat.lt_trans ldy.2.2.2.2.1 ly | with_reducible exact Nat.lt_trans ldy.2.2.2.2.2.1 ly | with_reducible exact Nat.lt_trans ldy.2.2.2.2.2.2.1 ly | with_reducible exact Nat.lt_trans ldy.2.2.2.2.2.2.2.1 ly | with_reducible exact Nat.lt_trans ldy.2.2.2.2.2.2.2.2.1 ly | with_reducible exact Nat.lt_trans ldx.1 lx | with_reducible exact Nat.lt_trans ldx.2.1 lx | with_reducible exact Nat.lt_trans ldx.2.2.1 lx | with_reducible exact Nat.lt_trans ldx.2.2.2.1 lx | with_reducible exact Nat.lt_trans ldx.2.2.2.2.1 lx | with_reducible exact Nat.lt_trans ldx.2.2.2.2.2.1 lx | with_reducible exact Nat.lt_trans ldx.2.2.2.2.2.2.1 lx | with_reducible exact Nat.lt_trans ldx.2.2.2.2.2.2.2.1 lx | with_reducible exact Nat.lt_trans ldx.2.2.2.2.2.2.2.2.1 lx | with_reducible exact Nat.lt_trans ldx.2.2.2.2.2.2.2.2.2.1 lx | with_reducible exact Nat.lt_trans ldx.2.2.2.2.2.2.2.2.2.2.1 lx | with_reducible exact Nat.lt_trans ldx.2.2.2.2.2.2.2.2.2.2.2.1 lx) | (refine Nat.ne_of_gt ?_; first | with_reducible exact ll0.1 | with_reducible exact ll0.2.1 | with_reducible exact l1.1 | with_reducible exact l1.2.1 | with_reducible exact l1.2.2.1 | with_reducible exact l1.2.2.2.1 | with_reducible exact l2.1 | with_reducible exact l2.2.1 | with_reducible exact l2.2.2.1 | with_reducible exact l2.2.2.2.1 | with_reducible exact l2.2.2.2.2.1 | with_reducible exact lpl.1 | with_reducible exact lpl.2.1 | with_reducible exact lpl.2.2.1 | with_reducible exact lpl.2.2.2.1 | with_reducible exact lpl.2.2.2.2.1 | with_reducible exact lpl.2.2.2.2.2.1 | with_reducible exact lrc.1 | with_reducible exact lrc.2.1 | with_reducible exact lrc.2.2.1 | with_reducible exact lrc.2.2.2.1 | with_reducible exact lrc.2.2.2.2.1 | with_reducible exact lrc.2.2.2.2.2.1 | with_reducible exact lrc.2.2.2.2.2.2.1 | with_reducible exact lrd | with_reducible exact ldy.1 | with_reducible exact ldy.2.1 | with_reducible exact ldy.2.2.1 | with_reducible exact ldy.2.2.2.1 | with_reducible exact ldy.2.2.2.2.1 | with_reducible exact ldy.2.2.2.2.2.1 | with_reducible exact ldy.2.2.2.2.2.2.1 | with_reducible exact ldy.2.2.2.2.2.2.2.1 | with_reducible exact ldy.2.2.2.2.2.2.2.2.1 | with_reducible exact ly | with_reducible exact lypb.1 | with_reducible exact lypb.2.1 | with_reducible exact lypb.2.2.1 | with_reducible exact lypb.2.2.2.1 | with_reducible exact lypb.2.2.2.2.1 | with_reducible exact lypb.2.2.2.2.2.1 | with_reducible exact lypb.2.2.2.2.2.2.1 | with_reducible exact lypb.2.2.2.2.2.2.2.1 | with_reducible exact lypb.2.2.2.2.2.2.2.2.1 | with_reducible exact lypb.2.2.2.2.2.2.2.2.2.1 | with_reducible exact lypb.2.2.2.2.2.2.2.2.2.2.1 | with_reducible exact ldx.1 | with_reducible exact ldx.2.1 | with_reducible exact ldx.2.2.1 | with_reducible exact ldx.2.2.2.1 | with_reducible exact ldx.2.2.2.2.1 | with_reducible exact ldx.2.2.2.2.2.1 | with_reducible exact ldx.2.2.2.2.2.2.1 | with_reducible exact ldx.2.2.2.2.2.2.2.1 | with_reducible exact ldx.2.2.2.2.2.2.2.2.1 | with_reducible exact ldx.2.2.2.2.2.2.2.2.2.1 | with_reducible exact ldx.2.2.2.2.2.2.2.2.2.2.1 | with_reducible exact ldx.2.2.2.2.2.2.2.2.2.2.2.1 | with_reducible exact lx | with_reducible exact lpb.1 | with_reducible exact lpb.2.1 | with_reducible exact lpb.2.2.1 | with_reducible exact lpb.2.2.2.1 | with_reducible exact lpb.2.2.2.2.1 | with_reducible exact lpb.2.2.2.2.2.1 | with_reducible exact lpb.2.2.2.2.2.2.1 | with_reducible exact lpb.2.2.2.2.2.2.2.1 | with_reducible exact lpb.2.2.2.2.2.2.2.2.1 | with_reducible exact lpb.2.2.2.2.2.2.2.2.2.1 | with_reducible exact lpb.2.2.2.2.2.2.2.2.2.2.1 | with_reducible exact lpb.2.2.2.2.2.2.2.2.2.2.2.1 | with_reducible exact lpb.2.2.2.2.2.2.2.2.2.2.2.2.1 | with_reducible exact lpb.2.2.2.2.2.2.2.2.2.2.2.2.2.1 | with_reducible exact Nat.lt_trans lrc.1 lrd | with_reducible exact Nat.lt_trans lrc.2.1 lrd | with_reducible exact Nat.lt_trans lrc.2.2.1 lrd | with_reducible exact Nat.lt_trans lrc.2.2.2.1 lrd | with_reducible exact Nat.lt_trans lrc.2.2.2.2.1 lrd | with_reducible exact Nat.lt_trans lrc.2.2.2.2.2.1 lrd | with_reducible exact Nat.lt_trans lrc.2.2.2.2.2.2.1 lrd | with_reducible exact Nat.lt_trans ldy.1 ly | with_reducible exact Nat.lt_trans ldy.2.1 ly | with_reducible exact Nat.lt_trans ldy.2.2.1 ly | with_reducible exact Nat.lt_trans ldy.2.2.2.1 ly | with_reducible exact Nat.lt_trans ldy.2.2.2.2.1 ly | with_reducible exact Nat.lt_trans ldy.2.2.2.2.2.1 ly | with_reducible exact Nat.lt_trans ldy.2.2.2.2.2.2.1 ly | with_reducible exact Nat.lt_trans ldy.2.2.2.2.2.2.2.1 ly | with_reducible exact Nat.lt_trans ldy.2.2.2.2.2.2.2.2.1 ly | with_reducible exact Nat.lt_trans ldx.1 lx | with_reducible exact Nat.lt_trans ldx.2.1 lx | with_reducible exact Nat.lt_trans ldx.2.2.1 lx | with_reducible exact Nat.lt_trans ldx.2.2.2.1 lx | with_reducible exact Nat.lt_trans ldx.2.2.2.2.1 lx | with_reducible exact Nat.lt_trans ldx.2.2.2.2.2.1 lx | with_reducible exact Nat.lt_trans ldx.2.2.2.2.2.2.1 lx | with_reducible exact Nat.lt_trans ldx.2.2.2.2.2.2.2.1 lx | with_reducible exact Nat.lt_trans ldx.2.2.2.2.2.2.2.2.1 lx | with_reducible exact Nat.lt_trans ldx.2.2.2.2.2.2.2.2.2.1 lx | with_reducible exact Nat.lt_trans ldx.2.2.2.2.2.2.2.2.2.2.1 lx | with_reducible exact Nat.lt_trans ldx.2.2.2.2.2.2.2.2.2.2.2.1 lx) | (first | lia | omega))
      · refine ⟨neN ?_, neN ?_, neN ?_, neN ?_⟩ <;> (first | (refine Nat.ne_of_lt ?_; first | with_reducible exact ll0.1 | with_reducible exact ll0.2.1 | with_reducible exact l1.1 | with_reducible exact l1.2.1 | with_reducible exact l1.2.2.1 | with_reducible exact l1.2.2.2.1 | with_reducible exact l2.1 | with_reducible exact l2.2.1 | with_reducible exact l2.2.2.1 | with_reducible exact l2.2.2.2.1 | with_reducible exact l2.2.2.2.2.1 | with_reducible exact lpl.1 | with_reducible exact lpl.2.1 | with_reducible exact lpl.2.2.1 | with_reducible exact lpl.2.2.2.1 | with_reducible exact lpl.2.2.2.2.1 | with_reducible exact lpl.2.2.2.2.2.1 | with_reducible exact lrc.1 | with_reducible exact lrc.2.1 | with_reducible exact lrc.2.2.1 | with_reducible exact lrc.2.2.2.1 | with_reducible exact lrc.2.2.2.2.1 | with_reducible exact lrc.2.2.2.2.2.1 | with_reducible exact lrc.2.2.2.2.2.2.1 | with_reducible exact lrd | with_reducible exact ldy.1 | with_reducible exact ldy.2.1 | with_reducible exact ldy.2.2.1 | with_reducible exact ldy.2.2.2.1 | with_reducible exact ldy.2.2.2.2.1 | with_reducible exact ldy.2.2.2.2.2.1 | with_reducible exact ldy.2.2.2.2.2.2.1 | with_reducible exact ldy.2.2.2.2.2.2.2.1 | with_reducible exact ldy.2.2.2.2.2.2.2.2.1 | with_reducible exact ly | with_reducible exact lypb.1 | with_reducible exact lypb.2.1 | with_reducible exact lypb.2.2.1 | with_reducible exact lypb.2.2.2.1 | with_reducible exact lypb.2.2.2.2.1 | with_reducible exact lypb.2.2.2.2.2.1 | with_reducible exact lypb.2.2.2.2.2.2.1 | with_reducible exact lypb.2.2.2.2.2.2.2.1 | with_reducible exact lypb.2.2.2.2.2.2.2.2.1 | with_reducible exact lypb.2.2.2.2.2.2.2.2.2.1 | with_reducible exact lypb.2.2.2.2.2.2.2.2.2.2.1 | with_reducible exact ldx.1 | with_reducible exact ldx.2.1 | with_reducible exact ldx.2.2.1 | with_reducible exact ldx.2.2.2.1 | with_reducible exact ldx.2.2.2.2.1 | with_reducible exact ldx.2.2.2.2.2.1 | with_reducible exact ldx.2.2.2.2.2.2.1 | with_reducible exact ldx.2.2.2.2.2.2.2.1 | with_reducible exact ldx.2.2.2.2.2.2.2.2.1 | with_reducible exact ldx.2.2.2.2.2.2.2.2.2.1 | with_reducible exact ldx.2.2.2.2.2.2.2.2.2.2.1 | with_reducible exact ldx.2.2.2.2.2.2.2.2.2.2.2.1 | with_reducible exact lx | with_reducible exact lpb.1 | with_reducible exact lpb.2.1 | with_reducible exact lpb.2.2.1 | with_reducible exact lpb.2.2.2.1 | with_reducible exact lpb.2.2.2.2.1 | with_reducible exact lpb.2.2.2.2.2.1 | with_reducible exact lpb.2.2.2.2.2.2.1 | with_reducible exact lpb.2.2.2.2.2.2.2.1 | with_reducible exact lpb.2.2.2.2.2.2.2.2.1 | with_reducible exact lpb.2.2.2.2.2.2.2.2.2.1 | with_reducible exact lpb.2.2.2.2.2.2.2.2.2.2.1 | with_reducible exact lpb.2.2.2.2.2.2.2.2.2.2.2.1 | with_reducible exact lpb.2.2.2.2.2.2.2.2.2.2.2.2.1 | with_reducible exact lpb.2.2.2.2.2.2.2.2.2.2.2.2.2.1 | with_reducible exact Nat.lt_trans lrc.1 lrd | with_reducible exact Nat.lt_trans lrc.2.1 lrd | with_reducible exact Nat.lt_trans lrc.2.2.1 lrd | with_reducible exact Nat.lt_trans lrc.2.2.2.1 lrd | with_reducible exact Nat.lt_trans lrc.2.2.2.2.1 lrd | with_reducible exact Nat.lt_trans lrc.2.2.2.2.2.1 lrd | with_reducible exact Nat.lt_trans lrc.2.2.2.2.2.2.1 lrd | with_reducible exact Nat.lt_trans ldy.1 ly | with_reducible exact Nat.lt_trans ldy.2.1 ly | with_reducible exact Nat.lt_trans ldy.2.2.1 ly | with_reducible exact Nat.lt_trans ldy.2.2.2.1 ly | with_reducible exact Nat.lt_trans ldy.2.2.2.2.1 ly | with_reducible exact Nat.lt_trans ldy.2.2.2.2.2.1 ly | with_reducible exact Nat.lt_trans ldy.2.2.2.2.2.2.1 ly | with_reducible exact Nat.lt_trans ldy.2.2.2.2.2.2.2.1 ly | with_reducible exact Nat.lt_trans ldy.2.2.2.2.2.2.2.2.1 ly | with_reducible exact Nat.lt_trans ldx.1 lx | with_reducible exact Nat.lt_trans ldx.2.1 lx | with_reducible exact Nat.lt_trans ldx.2.2.1 lx | with_reducible exact Nat.lt_trans ldx.2.2.2.1 lx | with_reducible exact Nat.lt_trans ldx.2.2.2.2.1 lx | with_reducible exact Nat.lt_trans ldx.2.2.2.2.2.1 lx | with_reducible exact Nat.lt_trans ldx.2.2.2.2.2.2.1 lx | with_reducible exact Nat.lt_trans ldx.2.2.2.2.2.2.2.1 lx | with_reducible exact Nat.lt_trans ldx.2.2.2.2.2.2.2.2.1 lx | with_reducible exact Nat.lt_trans ldx.2.2.2.2.2.2.2.2.2.1 lx | with_reducible exact Nat.lt_trans ldx.2.2.2.2.2.2.2.2.2.2.1 lx | with_reducible exact Nat.lt_trans ldx.2.2.2.2.2.2.2.2.2.2.2.1 lx) | (refine Nat.ne_of_gt ?_; first | with_reducible exact ll0.1 | with_reducible exact ll0.2.1 | with_reducible exact l1.1 | with_reducible exact l1.2.1 | with_reducible exact l1.2.2.1 | with_reducible exact l1.2.2.2.1 | with_reducible exact l2.1 | with_reducible exact l2.2.1 | with_reducible exact l2.2.2.1 | with_reducible exact l2.2.2.2.1 | with_reducible exact l2.2.2.2.2.1 | with_reducible exact lpl.1 | with_reducible exact lpl.2.1 | with_reducible exact lpl.2.2.1 | with_reducible exact lpl.2.2.2.1 | with_reducible exact lpl.2.2.2.2.1 | with_reducible exact lpl.2.2.2.2.2.1 | with_reducible exact lrc.1 | with_reducible exact lrc.2.1 | with_reducible exact lrc.2.2.1 | with_reducible exact lrc.2.2.2.1 | with_reducible exact lrc.2.2.2.2.1 | with_reducible exact lrc.2.2.2.2.2.1 | with_reducible exact lrc.2.2.2.2.2.2.1 | with_reducible exact lrd | with_reducible exact ldy.1 | with_reducible exact ldy.2.1 | with_reducible exact ldy.2.2.1 | with_reducible exact ldy.2.2.2.1 | with_reducible exact ldy.2.2.2.2.1 | with_reducible exact ldy.2.2.2.2.2.1 | with_reducible exact ldy.2.2.2.2.2.2.1 | with_reducible exact ldy.2.2.2.2.2.2.2.1 | with_reducible exact ldy.2.2.2.2.2.2.2.2.1 | with_reducible exact ly | with_reducible exact lypb.1 | with_reducible exact lypb.2.1 | with_reducible exact lypb.2.2.1 | with_reducible exact lypb.2.2.2.1 | with_reducible exact lypb.2.2.2.2.1 | with_reducible exact lypb.2.2.2.2.2.1 | with_reducible exact lypb.2.2.2.2.2.2.1 | with_reducible exact lypb.2.2.2.2.2.2.2.1 | with_reducible exact lypb.2.2.2.2.2.2.2.2.1 | with_reducible exact lypb.2.2.2.2.2.2.2.2.2.1 | with_reducible exact lypb.2.2.2.2.2.2.2.2.2.2.1 | with_reducible exact ldx.1 | with_reducible exact ldx.2.1 | with_reducible exact ldx.2.2.1 | with_reducible exact ldx.2.2.2.1 | with_reducible exact ldx.2.2.2.2.1 | with_reducible exact ldx.2.2.2.2.2.1 | with_reducible exact ldx.2.2.2.2.2.2.1 | with_reducible exact ldx.2.2.2.2.2.2.2.1 | with_reducible exact ldx.2.2.2.2.2.2.2.2.1 | with_reducible exact ldx.2.2.2.2.2.2.2.2.2.1 | with_reducible exact ldx.2.2.2.2.2.2.2.2.2.2.1 | with_reducible exact ldx.2.2.2.2.2.2.2.2.2.2.2.1 | with_reducible exact lx | with_reducible exact lpb.1 | with_reducible exact lpb.2.1 | with_reducible exact lpb.2.2.1 | with_reducible exact lpb.2.2.2.1 | with_reducible exact lpb.2.2.2.2.1 | with_reducible exact lpb.2.2.2.2.2.1 | with_reducible exact lpb.2.2.2.2.2.2.1 | with_reducible exact lpb.2.2.2.2.2.2.2.1 | with_reducible exact lpb.2.2.2.2.2.2.2.2.1 | with_reducible exact lpb.2.2.2.2.2.2.2.2.2.1 | with_reducible exact lpb.2.2.2.2.2.2.2.2.2.2.1 | with_reducible exact lpb.2.2.2.2.2.2.2.2.2.2.2.1 | with_reducible exact lpb.2.2.2.2.2.2.2.2.2.2.2.2.1 | with_reducible exact lpb.2.2.2.2.2.2.2.2.2.2.2.2.2.1 | with_reducible exact Nat.lt_trans lrc.1 lrd | with_reducible exact Nat.lt_trans lrc.2.1 lrd | with_reducible exact Nat.lt_trans lrc.2.2.1 lrd | with_reducible exact Nat.lt_trans lrc.2.2.2.1 lrd | with_reducible exact Nat.lt_trans lrc.2.2.2.2.1 lrd | with_reducible exact Nat.lt_trans lrc.2.2.2.2.2.1 lrd | with_reducible exact Nat.lt_trans lrc.2.2.2.2.2.2.1 lrd | with_reducible exact Nat.lt_trans ldy.1 ly | with_reducible exact Nat.lt_trans ldy.2.1 ly | with_reducible exact Nat.lt_trans ldy.2.2.1 ly | with_reducible exact Nat.lt_trans ldy.2.2.2.1 ly | with_reducible exact Nat.lt_trans ldy.2.2.2.2.1 ly | with_reducible exact Nat.lt_trans ldy.2.2.2.2.2.1 ly | with_reducible exact Nat.lt_trans ldy.2.2.2.2.2.2.1 ly | with_reducible exact Nat.lt_trans ldy.2.2.2.2.2.2.2.1 ly | with_reducible exact Nat.lt_trans ldy.2.2.2.2.2.2.2.2.1 ly | with_reducible exact Nat.lt_trans ldx.1 lx | with_reducible exact Nat.lt_trans ldx.2.1 lx | with_reducible exact Nat.lt_trans ldx.2.2.1 lx | with_reducible exact Nat.lt_trans ldx.2.2.2.1 lx | with_reducible exact Nat.lt_trans ldx.2.2.2.2.1 lx | with_reducible exact Nat.lt_trans ldx.2.2.2.2.2.1 lx | with_reducible exact Nat.lt_trans ldx.2.2.2.2.2.2.1 lx | with_reducible exact Nat.lt_trans ldx.2.2.2.2.2.2.2.1 lx | with_reducible exact Nat.lt_trans ldx.2.2.2.2.2.2.2.2.1 lx | with_reducible exact Nat.lt_trans ldx.2.2.2.2.2.2.2.2.2.1 lx | with_reducible exact Nat.lt_trans ldx.2.2.2.2.2.2.2.2.2.2.1 lx | with_reducible exact Nat.lt_trans ldx.2.2.2.2.2.2.2.2.2.2.2.1 lx) | (first | lia | omega))
      · refine ⟨neN ?_, neN ?_, neN ?_, neN ?_⟩ <;> (first | (refine Nat.ne_of_lt ?_; first | with_reducible exact ll0.1 | with_reducible exact ll0.2.1 | with_reducible exact l1.1 | with_reducible exact l1.2.1 | with_reducible exact l1.2.2.1 | with_reducible exact l1.2.2.2.1 | with_reducible exact l2.1 | with_reducible exact l2.2.1 | with_reducible exact l2.2.2.1 | with_reducible exact l2.2.2.2.1 | with_reducible exact l2.2.2.2.2.1 | with_reducible exact lpl.1 | with_reducible exact lpl.2.1 | with_reducible exact lpl.2.2.1 | with_reducible exact lpl.2.2.2.1 | with_reducible exact lpl.2.2.2.2.1 | with_reducible exact lpl.2.2.2.2.2.1 | with_reducible exact lrc.1 | with_reducible exact lrc.2.1 | with_reducible exact lrc.2.2.1 | with_reducible exact lrc.2.2.2.1 | with_reducible exact lrc.2.2.2.2.1 | with_reducible exact lrc.2.2.2.2.2.1 | with_reducible exact lrc.2.2.2.2.2.2.1 | with_reducible exact lrd | with_reducible exact ldy.1 | with_reducible exact ldy.2.1 | with_reducible exact ldy.2.2.1 | with_reducible exact ldy.2.2.2.1 | with_reducible exact ldy.2.2.2.2.1 | with_reducible exact ldy.2.2.2.2.2.1 | with_reducible exact ldy.2.2.2.2.2.2.1 | with_reducible exact ldy.2.2.2.2.2.2.2.1 | with_reducible exact ldy.2.2.2.2.2.2.2.2.1 | with_reducible exact ly | with_reducible exact lypb.1 | with_reducible exact lypb.2.1 | with_reducible exact lypb.2.2.1 | with_reducible exact lypb.2.2.2.1 | with_reducible exact lypb.2.2.2.2.1 | with_reducible exact lypb.2.2.2.2.2.1 | with_reducible exact lypb.2.2.2.2.2.2.1 | with_reducible exact lypb.2.2.2.2.2.2.2.1 | with_reducible exact lypb.2.2.2.2.2.2.2.2.1 | with_reducible exact lypb.2.2.2.2.2.2.2.2.2.1 | with_reducible exact lypb.2.2.2.2.2.2.2.2.2.2.1 | with_reducible exact ldx.1 | with_reducible exact ldx.2.1 | with_reducible exact ldx.2.2.1 | with_reducible exact ldx.2.2.2.1 | with_reducible exact ldx.2.2.2.2.1 | with_reducible exact ldx.2.2.2.2.2.1 | with_reducible exact ldx.2.2.2.2.2.2.1 | with_reducible exact ldx.2.2.2.2.2.2.2.1 | with_reducible exact ldx.2.2.2.2.2.2.2.2.1 | with_reducible exact ldx.2.2.2.2.2.2.2.2.2.1 | with_reducible exact ldx.2.2.2.2.2.2.2.2.2.2.1 | with_reducible exact ldx.2.2.2.2.2.2.2.2.2.2.2.1 | with_reducible exact lx | with_reducible exact lpb.1 | with_reducible exact lpb.2.1 | with_reducible exact lpb.2.2.1 | with_reducible exact lpb.2.2.2.1 | with_reducible exact lpb.2.2.2.2.1 | with_reducible exact lpb.2.2.2.2.2.1 | with_reducible exact lpb.2.2.2.2.2.2.1 | with_reducible exact lpb.2.2.2.2.2.2.2.1 | with_reducible exact lpb.2.2.2.2.2.2.2.2.1 | with_reducible exact lpb.2.2.2.2.2.2.2.2.2.1 | with_reducible exact lpb.2.2.2.2.2.2.2.2.2.2.1 | with_reducible exact lpb.2.2.2.2.2.2.2.2.2.2.2.1 | with_reducible exact lpb.2.2.2.2.2.2.2.2.2.2.2.2.1 | with_reducible exact lpb.2.2.2.2.2.2.2.2.2.2.2.2.2.1 | with_reducible exact Nat.lt_trans lrc.1 lrd | with_reducible exact Nat.lt_trans lrc.2.1 lrd | with_reducible exact Nat.lt_trans lrc.2.2.1 lrd | with_reducible exact Nat.lt_trans lrc.2.2.2.1 lrd | with_reducible exact Nat.lt_trans lrc.2.2.2.2.1 lrd | with_reducible exact Nat.lt_trans lrc.2.2.2.2.2.1 lrd | with_reducible exact Nat.lt_trans lrc.2.2.2.2.2.2.1 lrd | with_reducible exact Nat.lt_trans ldy.1 ly | with_reducible exact Nat.lt_trans ldy.2.1 ly | with_reducible exact Nat.lt_trans ldy.2.2.1 ly | with_reducible exact Nat.lt_trans ldy.2.2.2.1 ly | with_reducible exact Nat.lt_trans ldy.2.2.2.2.1 ly | with_reducible exact Nat.lt_trans ldy.2.2.2.2.2.1 ly | with_reducible exact Nat.lt_trans ldy.2.2.2.2.2.2.1 ly | with_reducible exact Nat.lt_trans ldy.2.2.2.2.2.2.2.1 ly | with_reducible exact Nat.lt_trans ldy.2.2.2.2.2.2.2.2.1 ly | with_reducible exact Nat.lt_trans ldx.1 lx | with_reducible exact Nat.lt_trans ldx.2.1 lx | with_reducible exact Nat.lt_trans ldx.2.2.1 lx | with_reducible exact Nat.lt_trans ldx.2.2.2.1 lx | with_reducible exact Nat.lt_trans ldx.2.2.2.2.1 lx | with_reducible exact Nat.lt_trans ldx.2.2.2.2.2.1 lx | with_reducible exact Nat.lt_trans ldx.2.2.2.2.2.2.1 lx | with_reducible exact Nat.lt_trans ldx.2.2.2.2.2.2.2.1 lx | with_reducible exact Nat.lt_trans ldx.2.2.2.2.2.2.2.2.1 lx | with_reducible exact Nat.lt_trans ldx.2.2.2.2.2.2.2.2.2.1 lx | with_reducible exact Nat.lt_trans ldx.2.2.2.2.2.2.2.2.2.2.1 lx | with_reducible exact Nat.lt_trans ldx.2.2.2.2.2.2.2.2.2.2.2.1 lx) | (refine Nat.ne_of_gt ?_; first | with_reducible exact ll0.1 | with_reducible exact ll0.2.1 | with_reducible exact l1.1 | with_reducible exact l1.2.1 | with_reducible exact l1.2.2.1 | with_reducible exact l1.2.2.2.1 | with_reducible exact l2.1 | with_reducible exact l2.2.1 | with_reducible exact l2.2.2.1 | with_reducible exact l2.2.2.2.1 | with_reducible exact l2.2.2.2.2.1 | with_reducible exact lpl.1 | with_reducible exact lpl.2.1 | with_reducible exact lpl.2.2.1 | with_reducible exact lpl.2.2.2.1 | with_reducible exact lpl.2.2.2.2.1 | with_reducible exact lpl.2.2.2.2.2.1 | with_reducible exact lrc.1 | with_reducible exact lrc.2.1 | with_reducible exact lrc.2.2.1 | with_reducible exact lrc.2.2.2.1 | with_reducible exact lrc.2.2.2.2.1 | with_reducible exact lrc.2.2.2.2.2.1 | with_reducible exact lrc.2.2.2.2.2.2.1 | with_reducible exact lrd | with_reducible exact ldy.1 | with_reducible exact ldy.2.1 | with_reducible exact ldy.2.2.1 | with_reducible exact ldy.2.2.2.1 | with_reducible exact ldy.2.2.2.2.1 | with_reducible exact ldy.2.2.2.2.2.1 | with_reducible exact ldy.2.2.2.2.2.2.1 | with_reducible exact ldy.2.2.2.2.2.2.2.1 | with_reducible exact ldy.2.2.2.2.2.2.2.2.1 | with_reducible exact ly | with_reducible exact lypb.1 | with_reducible exact lypb.2.1 | with_reducible exact lypb.2.2.1 | with_reducible exact lypb.2.2.2.1 | with_reducible exact lypb.2.2.2.2.1 | with_reducible exact lypb.2.2.2.2.2.1 | with_reducible exact lypb.2.2.2.2.2.2.1 | with_reducible exact lypb.2.2.2.2.2.2.2.1 | with_reducible exact lypb.2.2.2.2.2.2.2.2.1 | with_reducible exact lypb.2.2.2.2.2.2.2.2.2.1 | with_reducible exact lypb.2.2.2.2.2.2.2.2.2.2.1 | with_reducible exact ldx.1 | with_reducible exact ldx.2.1 | with_reducible exact ldx.2.2.1 | with_reducible exact ldx.2.2.2.1 | with_reducible exact ldx.2.2.2.2.1 | with_reducible exact ldx.2.2.2.2.2.1 | with_reducible exact ldx.2.2.2.2.2.2.1 | with_reducible exact ldx.2.2.2.2.2.2.2.1 | with_reducible exact ldx.2.2.2.2.2.2.2.2.1 | with_reducible exact ldx.2.2.2.2.2.2.2.2.2.1 | with_reducible exact ldx.2.2.2.2.2.2.2.2.2.2.1 | with_reducible exact ldx.2.2.2.2.2.2.2.2.2.2.2.1 | with_reducible exact lx | with_reducible exact lpb.1 | with_reducible exact lpb.2.1 | with_reducible exact lpb.2.2.1 | with_reducible exact lpb.2.2.2.1 | with_reducible exact lpb.2.2.2.2.1 | with_reducible exact lpb.2.2.2.2.2.1 | with_reducible exact lpb.2.2.2.2.2.2.1 | with_reducible exact lpb.2.2.2.2.2.2.2.1 | with_reducible exact lpb.2.2.2.2.2.2.2.2.1 | with_reducible exact lpb.2.2.2.2.2.2.2.2.2.1 | with_reducible exact lpb.2.2.2.2.2.2.2.2.2.2.1 | with_reducible exact lpb.2.2.2.2.2.2.2.2.2.2.2.1 | with_reducible exact lpb.2.2.2.2.2.2.2.2.2.2.2.2.1 | with_reducible exact lpb.2.2.2.2.2.2.2.2.2.2.2.2.2.1 | with_reducible exact Nat.lt_trans lrc.1 lrd | with_reducible exact Nat.lt_trans lrc.2.1 lrd | with_reducible exact Nat.lt_trans lrc.2.2.1 lrd | with_reducible exact Nat.lt_trans lrc.2.2.2.1 lrd | with_reducible exact Nat.lt_trans lrc.2.2.2.2.1 lrd | with_reducible exact Nat.lt_trans lrc.2.2.2.2.2.1 lrd | with_reducible exact Nat.lt_trans lrc.2.2.2.2.2.2.1 lrd | with_reducible exact Nat.lt_trans ldy.1 ly | with_reducible exact Nat.lt_trans ldy.2.1 ly | with_reducible exact Nat.lt_trans ldy.2.2.1 ly | with_reducible exact Nat.lt_trans ldy.2.2.2.1 ly | with_reducible exact Nat.lt_trans ldy.2.2.2.2.1 ly | with_reducible exact Nat.lt_trans ldy.2.2.2.2.2.1 ly | with_reducible exact Nat.lt_trans ldy.2.2.2.2.2.2.1 ly | with_reducible exact Nat.lt_trans ldy.2.2.2.2.2.2.2.1 ly | with_reducible exact Nat.lt_trans ldy.2.2.2.2.2.2.2.2.1 ly | with_reducible exact Nat.lt_trans ldx.1 lx | with_reducible exact Nat.lt_trans ldx.2.1 lx | with_reducible exact Nat.lt_trans ldx.2.2.1 lx | with_reducible exact Nat.lt_trans ldx.2.2.2.1 lx | with_reducible exact Nat.lt_trans ldx.2.2.2.2.1 lx | with_reducible exact Nat.lt_trans ldx.2.2.2.2.2.1 lx | with_reducible exact Nat.lt_trans ldx.2.2.2.2.2.2.1 lx | with_reducible exact Nat.lt_trans ldx.2.2.2.2.2.2.2.1 lx | with_reducible exact Nat.lt_trans ldx.2.2.2.2.2.2.2.2.1 lx | with_reducible exact Nat.lt_trans ldx.2.2.2.2.2.2.2.2.2.1 lx | with_reducible exact Nat.lt_trans ldx.2.2.2.2.2.2.2.2.2.2.1 lx | with_reducible exact Nat.lt_trans ldx.2.2.2.2.2.2.2.2.2.2.2.1 lx) | (first | lia | omega))
      · refine ⟨neN ?_, neN ?_, neN ?_⟩ <;> (first | (refine Nat.ne_of_lt ?_; first | with_reducible exact ll0.1 | with_reducible exact ll0.2.1 | with_reducible exact l1.1 | with_reducible exact l1.2.1 | with_reducible exact l1.2.2.1 | with_reducible exact l1.2.2.2.1 | with_reducible exact l2.1 | with_reducible exact l2.2.1 | with_reducible exact l2.2.2.1 | with_reducible exact l2.2.2.2.1 | with_reducible exact l2.2.2.2.2.1 | with_reducible exact lpl.1 | with_reducible exact lpl.2.1 | with_reducible exact lpl.2.2.1 | with_reducible exact lpl.2.2.2.1 | with_reducible exact lpl.2.2.2.2.1 | with_reducible exact lpl.2.2.2.2.2.1 | with_reducible exact lrc.1 | with_reducible exact lrc.2.1 | with_reducible exact lrc.2.2.1 | with_reducible exact lrc.2.2.2.1 | with_reducible exact lrc.2.2.2.2.1 | with_reducible exact lrc.2.2.2.2.2.1 | with_reducible exact lrc.2.2.2.2.2.2.1 | with_reducible exact lrd | with_reducible exact ldy.1 | with_reducible exact ldy.2.1 | with_reducible exact ldy.2.2.1 | with_reducible exact ldy.2.2.2.1 | with_reducible exact ldy.2.2.2.2.1 | with_reducible exact ldy.2.2.2.2.2.1 | with_reducible exact ldy.2.2.2.2.2.2.1 | with_reducible exact ldy.2.2.2.2.2.2.2.1 | with_reducible exact ldy.2.2.2.2.2.2.2.2.1 | with_reducible exact ly | with_reducible exact lypb.1 | with_reducible exact lypb.2.1 | with_reducible exact lypb.2.2.1 | with_reducible exact lypb.2.2.2.1 | with_reducible exact lypb.2.2.2.2.1 | with_reducible exact lypb.2.2.2.2.2.1 | with_reducible exact lypb.2.2.2.2.2.2.1 | with_reducible exact lypb.2.2.2.2.2.2.2.1 | with_reducible exact lypb.2.2.2.2.2.2.2.2.1 | with_reducible exact lypb.2.2.2.2.2.2.2.2.2.1 | with_reducible exact lypb.2.2.2.2.2.2.2.2.2.2.1 | with_reducible exact ldx.1 | with_reducible exact ldx.2.1 | with_reducible exact ldx.2.2.1 | with_reducible exact ldx.2.2.2.1 | with_reducible exact ldx.2.2.2.2.1 | with_reducible exact ldx.2.2.2.2.2.1 | with_reducible exact ldx.2.2.2.2.2.2.1 | with_reducible exact ldx.2.2.2.2.2.2.2.1 | with_reducible exact ldx.2.2.2.2.2.2.2.2.1 | with_reducible exact ldx.2.2.2.2.2.2.2.2.2.1 | with_reducible exact ldx.2.2.2.2.2.2.2.2.2.2.1 | with_reducible exact ldx.2.2.2.2.2.2.2.2.2.2.2.1 | with_reducible exact lx | with_reducible exact lpb.1 | with_reducible exact lpb.2.1 | with_reducible exact lpb.2.2.1 | with_reducible exact lpb.2.2.2.1 | with_reducible exact lpb.2.2.2.2.1 | with_reducible exact lpb.2.2.2.2.2.1 | with_reducible exact lpb.2.2.2.2.2.2.1 | with_reducible exact lpb.2.2.2.2.2.2.2.1 | with_reducible exact lpb.2.2.2.2.2.2.2.2.1 | with_reducible exact lpb.2.2.2.2.2.2.2.2.2.1 | with_reducible exact lpb.2.2.2.2.2.2.2.2.2.2.1 | with_reducible exact lpb.2.2.2.2.2.2.2.2.2.2.2.1 | with_reducible exact lpb.2.2.2.2.2.2.2.2.2.2.2.2.1 | with_reducible exact lpb.2.2.2.2.2.2.2.2.2.2.2.2.2.1 | with_reducible exact Nat.lt_trans lrc.1 lrd | with_reducible exact Nat.lt_trans lrc.2.1 lrd | with_reducible exact Nat.lt_trans lrc.2.2.1 lrd | with_reducible exact Nat.lt_trans lrc.2.2.2.1 lrd | with_reducible exact Nat.lt_trans lrc.2.2.2.2.1 lrd | with_reducible exact Nat.lt_trans lrc.2.2.2.2.2.1 lrd | with_reducible exact Nat.lt_trans lrc.2.2.2.2.2.2.1 lrd | with_reducible exact Nat.lt_trans ldy.1 ly | with_reducible exact Nat.lt_trans ldy.2.1 ly | with_reducible exact Nat.lt_trans ldy.2.2.1 ly | with_reducible exact Nat.lt_trans ldy.2.2.2.1 ly | with_reducible exact Nat.lt_trans ldy.2.2.2.2.1 ly | with_reducible exact Nat.lt_trans ldy.2.2.2.2.2.1 ly | with_reducible exact Nat.lt_trans ldy.2.2.2.2.2.2.1 ly | with_reducible exact Nat.lt_trans ldy.2.2.2.2.2.2.2.1 ly | with_reducible exact Nat.lt_trans ldy.2.2.2.2.2.2.2.2.1 ly | with_reducible exact Nat.lt_trans ldx.1 lx | with_reducible exact Nat.lt_trans ldx.2.1 lx | with_reducible exact Nat.lt_trans ldx.2.2.1 lx | with_reducible exact Nat.lt_trans ldx.2.2.2.1 lx | with_reducible exact Nat.lt_trans ldx.2.2.2.2.1 lx | with_reducible exact Nat.lt_trans ldx.2.2.2.2.2.1 lx | with_reducible exact Nat.lt_trans ldx.2.2.2.2.2.2.1 lx | with_reducible exact Nat.lt_trans ldx.2.2.2.2.2.2.2.1 lx | with_reducible exact Nat.lt_trans ldx.2.2.2.2.2.2.2.2.1 lx | with_reducible exact Nat.lt_trans ldx.2.2.2.2.2.2.2.2.2.1 lx | with_reducible exact Nat.lt_trans ldx.2.2.2.2.2.2.2.2.2.2.1 lx | with_reducible exact Nat.lt_trans ldx.2.2.2.2.2.2.2.2.2.2.2.1 lx) | (refine Nat.ne_of_gt ?_; first | with_reducible exact ll0.1 | with_reducible exact ll0.2.1 | with_reducible exact l1.1 | with_reducible exact l1.2.1 | with_reducible exact l1.2.2.1 | with_reducible exact l1.2.2.2.1 | with_reducible exact l2.1 | with_reducible exact l2.2.1 | with_reducible exact l2.2.2.1 | with_reducible exact l2.2.2.2.1 | with_reducible exact l2.2.2.2.2.1 | with_reducible exact lpl.1 | with_reducible exact lpl.2.1 | with_reducible exact lpl.2.2.1 | with_reducible exact lpl.2.2.2.1 | with_reducible exact lpl.2.2.2.2.1 | with_reducible exact lpl.2.2.2.2.2.1 | with_reducible exact lrc.1 | with_reducible exact lrc.2.1 | with_reducible exact lrc.2.2.1 | with_reducible exact lrc.2.2.2.1 | with_reducible exact lrc.2.2.2.2.1 | with_reducible exact lrc.2.2.2.2.2.1 | with_reducible exact lrc.2.2.2.2.2.2.1 | with_reducible exact lrd | with_reducible exact ldy.1 | with_reducible exact ldy.2.1 | with_reducible exact ldy.2.2.1 | with_reducible exact ldy.2.2.2.1 | with_reducible exact ldy.2.2.2.2.1 | with_reducible exact ldy.2.2.2.2.2.1 | with_reducible exact ldy.2.2.2.2.2.2.1 | with_reducible exact ldy.2.2.2.2.2.2.2.1 | with_reducible exact ldy.2.2.2.2.2.2.2.2.1 | with_reducible exact ly | with_reducible exact lypb.1 | with_reducible exact lypb.2.1 | with_reducible exact lypb.2.2.1 | with_reducible exact lypb.2.2.2.1 | with_reducible exact lypb.2.2.2.2.1 | with_reducible exact lypb.2.2.2.2.2.1 | with_reducible exact lypb.2.2.2.2.2.2.1 | with_reducible exact lypb.2.2.2.2.2.2.2.1 | with_reducible exact lypb.2.2.2.2.2.2.2.2.1 | with_reducible exact lypb.2.2.2.2.2.2.2.2.2.1 | with_reducible exact lypb.2.2.2.2.2.2.2.2.2.2.1 | with_reducible exact ldx.1 | with_reducible exact ldx.2.1 | with_reducible exact ldx.2.2.1 | with_reducible exact ldx.2.2.2.1 | with_reducible exact ldx.2.2.2.2.1 | with_reducible exact ldx.2.2.2.2.2.1 | with_reducible exact ldx.2.2.2.2.2.2.1 | with_reducible exact ldx.2.2.2.2.2.2.2.1 | with_reducible exact ldx.2.2.2.2.2.2.2.2.1 | with_reducible exact ldx.2.2.2.2.2.2.2.2.2.1 | with_reducible exact ldx.2.2.2.2.2.2.2.2.2.2.1 | with_reducible exact ldx.2.2.2.2.2.2.2.2.2.2.2.1 | with_reducible exact lx | with_reducible exact lpb.1 | with_reducible exact lpb.2.1 | with_reducible exact lpb.2.2.1 | with_reducible exact lpb.2.2.2.1 | with_reducible exact lpb.2.2.2.2.1 | with_reducible exact lpb.2.2.2.2.2.1 | with_reducible exact lpb.2.2.2.2.2.2.1 | with_reducible exact lpb.2.2.2.2.2.2.2.1 | with_reducible exact lpb.2.2.2.2.2.2.2.2.1 | with_reducible exact lpb.2.2.2.2.2.2.2.2.2.1 | with_reducible exact lpb.2.2.2.2.2.2.2.2.2.2.1 | with_reducible exact lpb.2.2.2.2.2.2.2.2.2.2.2.1 | with_reducible exact lpb.2.2.2.2.2.2.2.2.2.2.2.2.1 | with_reducible exact lpb.2.2.2.2.2.2.2.2.2.2.2.2.2.1 | with_reducible exact Nat.lt_trans lrc.1 lrd | with_reducible exact Nat.lt_trans lrc.2.1 lrd | with_reducible exact Nat.lt_trans lrc.2.2.1 lrd | with_reducible exact Nat.lt_trans lrc.2.2.2.1 lrd | with_reducible exact Nat.lt_trans lrc.2.2.2.2.1 lrd | with_reducible exact Nat.lt_trans lrc.2.2.2.2.2.1 lrd | with_reducible exact Nat.lt_trans lrc.2.2.2.2.2.2.1 lrd | with_reducible exact Nat.lt_trans ldy.1 ly | with_reducible exact Nat.lt_trans ldy.2.1 ly | with_reducible exact Nat.lt_trans ldy.2.2.1 ly | with_reducible exact Nat.lt_trans ldy.2.2.2.1 ly | with_reducible exact Nat.lt_trans ldy.2.2.2.2.1 ly | with_reducible exact Nat.lt_trans ldy.2.2.2.2.2.1 ly | with_reducible exact Nat.lt_trans ldy.2.2.2.2.2.2.1 ly | with_reducible exact Nat.lt_trans ldy.2.2.2.2.2.2.2.1 ly | with_reducible exact Nat.lt_trans ldy.2.2.2.2.2.2.2.2.1 ly | with_reducible exact Nat.lt_trans ldx.1 lx | with_reducible exact Nat.lt_trans ldx.2.1 lx | with_reducible exact Nat.lt_trans ldx.2.2.1 lx | with_reducible exact Nat.lt_trans ldx.2.2.2.1 lx | with_reducible exact Nat.lt_trans ldx.2.2.2.2.1 lx | with_reducible exact Nat.lt_trans ldx.2.2.2.2.2.1 lx | with_reducible exact Nat.lt_trans ldx.2.2.2.2.2.2.1 lx | with_reducible exact Nat.lt_trans ldx.2.2.2.2.2.2.2.1 lx | with_reducible exact Nat.lt_trans ldx.2.2.2.2.2.2.2.2.1 lx | with_reducible exact Nat.lt_trans ldx.2.2.2.2.2.2.2.2.2.1 lx | with_reducible exact Nat.lt_trans ldx.2.2.2.2.2.2.2.2.2.2.1 lx | with_reducible exact Nat.lt_trans ldx.2.2.2.2.2.2.2.2.2.2.2.1 lx) | (first | lia | omega))
    case rs =>
      have hsl : y.length ≤ sizeLine := by rw [sizeLine_eq]; (first | lia | omega)
      have o1 : pl ≠ rd := neN (by first | (refine Nat.ne_of_lt ?_; first | with_reducible exact ll0.1 | with_reducible exact ll0.2.1 | with_reducible exact l1.1 | with_reducible exact l1.2.1 | with_reducible exact l1.2.2.1 | with_reducible exact l1.2.2.2.1 | with_reducible exact l2.1 | with_reducible exact l2.2.1 | with_reducible exact l2.2.2.1 | with_reducible exact l2.2.2.2.1 | with_reducible exact l2.2.2.2.2.1 | with_reducible exact lpl.1 | with_reducible exact lpl.2.1 | with_reducible exact lpl.2.2.1 | with_reducible exact lpl.2.2.2.1 | with_reducible exact lpl.2.2.2.2.1 | with_reducible exact lpl.2.2.2.2.2.1 | with_reducible exact lrc.1 | with_reducible exact lrc.2.1 | with_reducible exact lrc.2.2.1 | with_reducible exact lrc.2.2.2.1 | with_reducible exact lrc.2.2.2.2.1 | with_reducible exact lrc.2.2.2.2.2.1 | with_reducible exact lrc.2.2.2.2.2.2.1 | with_reducible exact lrd | with_reducible exact ldy.1 | with_reducible exact ldy.2.1 | with_reducible exact ldy.2.2.1 | with_reducible exact ldy.2.2.2.1 | with_reducible exact ldy.2.2.2.2.1 | with_reducible exact ldy.2.2.2.2.2.1 | with_reducible exact ldy.2.2.2.2.2.2.1 | with_reducible exact ldy.2.2.2.2.2.2.2.1 | with_reducible exact ldy.2.2.2.2.2.2.2.2.1 | with_reducible exact ly | with_reducible exact lypb.1 | with_reducible exact lypb.2.1 | with_reducible exact lypb.2.2.1 | with_reducible exact lypb.2.2.2.1 | with_reducible exact lypb.2.2.2.2.1 | with_reducible exact lypb.2.2.2.2.2.1 | with_reducible exact lypb.2.2.2.2.2.2.1 | with_reducible exact lypb.2.2.2.2.2.2.2.1 | with_reducible exact lypb.2.2.2.2.2.2.2.2.1 | with_reducible exact lypb.2.2.2.2.2.2.2.2.2.1 | with_reducible exact lypb.2.2.2.2.2.2.2.2.2.2.1 | with_reducible exact ldx.1 | with_reducible exact ldx.2.1 | with_reducible exact ldx.2.2.1 | with_reducible exact ldx.2.2.2.1 | with_reducible exact ldx.2.2.2.2.1 | with_reducible exact ldx.2.2.2.2.2.1 | with_reducible exact ldx.2.2.2.2.2.2.1 | with_reducible exact ldx.2.2.2.2.2.2.2.1 | with_reducible exact ldx.2.2.2.2.2.2.2.2.1 | with_reducible exact ldx.2.2.2.2.2.2.2.2.2.1 | with_reducible exact ldx.2.2.2.2.2.2.2.2.2.2.1 | with_reducible exact ldx.2.2.2.2.2.2.2.2.2.2.2.1 | with_reducible exact lx | with_reducible exact lpb.1 | with_reducible exact lpb.2.1 | with_reducible exact lpb.2.2.1 | with_reducible exact lpb.2.2.2.1 | with_reducible exact lpb.2.2.2.2.1 | with_reducible exact lpb.2.2.2.2.2.1 | with_reducible exact lpb.2.2.2.2.2.2.1 | with_reducible exact lpb.2.2.2.2.2.2.2.1 | with_reducible exact lpb.2.2.2.2.2.2.2.2.1 | with_reducible exact lpb.2.2.2.2.2.2.2.2.2.1 | with_reducible exact lpb.2.2.2.2.2.2.2.2.2.2.1 | with_reducible exact lpb.2.2.2.2.2.2.2.2.2.2.2.1 | with_reducible exact lpb.2.2.2.2.2.2.2.2.2.2.2.2.1 | with_reducible exact lpb.2.2.2.2.2.2.2.2.2.2.2.2.2.1 | with_reducible exact Nat.lt_trans lrc.1 lrd | with_reducible exact Nat.lt_trans lrc.2.1 lrd | with_reducible exact Nat.lt_trans lrc.2.2.1 lrd | with_reducible exact Nat.lt_trans lrc.2.2.2.1 lrd | with_reducible exact Nat.lt_trans lrc.2.2.2.2.1 lrd | with_reducible exact Nat.lt_trans lrc.2.2.2.2.2.1 lrd | with_reducible exact Nat.lt_trans lrc.2.2.2.2.2.2.1 lrd | with_reducible exact Nat.lt_trans ldy.1 ly | with_reducible exact Nat.lt_trans ldy.2.1 ly | with_reducible exact Nat.lt_trans ldy.2.2.1 ly | with_reducible exact Nat.lt_trans ldy.2.2.2.1 ly | with_reducible exact Nat.lt_trans ldy.2.2.2.2.1 ly | with_reducible exact Nat.lt_trans ldy.2.2.2.2.2.1 ly | with_reducible exact Nat.lt_trans ldy.2.2.2.2.2.2.1 ly | with_reducible exact Nat.lt_trans ldy.2.2.2.2.2.2.2.1 ly | with_reducible exact Nat.lt_trans ldy.2.2.2.2.2.2.2.2.1 ly | with_reducible exact Nat.lt_trans ldx.1 lx | with_reducible exact Nat.lt_trans ldx.2.1 lx | with_reducible exact Nat.lt_trans ldx.2.2.1 lx | with_reducible exact Nat.lt_trans ldx.2.2.2.1 lx | with_reducible exact Nat.lt_trans ldx.2.2.2.2.1 lx | with_reducible exact Nat.lt_trans ldx.2.2.2.2.2.1 lx | with_reducible exact Nat.lt_trans ldx.2.2.2.2.2.2.1 lx | with_reducible exact Nat.lt_trans ldx.2.2.2.2.2.2.2.1 lx | with_reducible exact Nat.lt_trans ldx.2.2.2.2.2.2.2.2.1 lx | with_reducible exact Nat.lt_trans ldx.2.2.2.2.2.2.2.2.2.1 lx | with_reducible exact Nat.lt_trans ldx.2.2.2.2.2.2.2.2.2.2.1 lx | with_reducible exact Nat.lt_trans ldx.2.2.2.2.2.2.2.2.2.2.2.1 lx) | (refine Nat.ne_of_gt ?_; first | with_reducible exact ll0.1 | with_reducible exact ll0.2.1 | with_reducible exact l1.1 | with_reducible exact l1.2.1 | with_reducible exact l1.2.2.1 | with_reducible exact l1.2.2.2.1 | with_reducible exact l2.1 | with_reducible exact l2.2.1 | with_reducible exact l2.2.2.1 | with_reducible exact l2.2.2.2.1 | with_reducible exact l2.2.2.2.2.1 | with_reducible exact lpl.1 | with_reducible exact lpl.2.1 | with_reducible exact lpl.2.2.1 | with_reducible exact lpl.2.2.2.1 | with_reducible exact lpl.2.2.2.2.1 | with_reducible exact lpl.2.2.2.2.2.1 | with_reducible exact lrc.1 | with_reducible exact lrc.2.1 | with_reducible exact lrc.2.2.1 | with_reducible exact lrc.2.2.2.1 | with_reducible exact lrc.2.2.2.2.1 | with_reducible exact lrc.2.2.2.2.2.1 | with_reducible exact lrc.2.2.2.2.2.2.1 | with_reducible exact lrd | with_reducible exact ldy.1 | with_reducible exact ldy.2.1 | with_reducible exact ldy.2.2.1 | with_reducible exact ldy.2.2.2.1 | with_reducible exact ldy.2.2.2.2.1 | with_reducible exact ldy.2.2.2.2.2.1 | with_reducible exact ldy.2.2.2.2.2.2.1 | with_reducible exact ldy.2.2.2.2.2.2.2.1 | with_reducible exact ldy.2.2.2.2.2.2.2.2.1 | with_reducible exact ly | with_reducible exact lypb.1 | with_reducible exact lypb.2.1 | with_reducible exact lypb.2.2.1 | with_reducible exact lypb.2.2.2.1 | with_reducible exact lypb.2.2.2.2.1 | with_reducible exact lypb.2.2.2.2.2.1 | with_reducible exact lypb.2.2.2.2.2.2.1 | with_reducible exact lypb.2.2.2.2.2.2.2.1 | with_reducible exact lypb.2.2.2.2.2.2.2.2.1 | with_reducible exact lypb.2.2.2.2.2.2.2.2.2.1 | with_reducible exact lypb.2.2.2.2.2.2.2.2.2.2.1 | with_reducible exact ldx.1 | with_reducible exact ldx.2.1 | with_reducible exact ldx.2.2.1 | with_reducible exact ldx.2.2.2.1 | with_reducible exact ldx.2.2.2.2.1 | with_reducible exact ldx.2.2.2.2.2.1 | with_reducible exact ldx.2.2.2.2.2.2.1 | with_reducible exact ldx.2.2.2.2.2.2.2.1 | with_reducible exact ldx.2.2.2.2.2.2.2.2.1 | with_reducible exact ldx.2.2.2.2.2.2.2.2.2.1 | with_reducible exact ldx.2.2.2.2.2.2.2.2.2.2.1 | with_reducible exact ldx.2.2.2.2.2.2.2.2.2.2.2.1 | with_reducible exact lx | with_reducible exact lpb.1 | with_reducible exact lpb.2.1 | with_reducible exact lpb.2.2.1 | with_reducible exact lpb.2.2.2.1 | with_reducible exact lpb.2.2.2.2.1 | with_reducible exact lpb.2.2.2.2.2.1 | with_reducible exact lpb.2.2.2.2.2.2.1 | with_reducible exact lpb.2.2.2.2.2.2.2.1 | with_reducible exact lpb.2.2.2.2.2.2.2.2.1 | with_reducible exact lpb.2.2.2.2.2.2.2.2.2.1 | with_reducible exact lpb.2.2.2.2.2.2.2.2.2.2.1 | with_reducible exact lpb.2.2.2.2.2.2.2.2.2.2.2.1 | with_reducible exact lpb.2.2.2.2.2.2.2.2.2.2.2.2.1 | with_reducible exact lpb.2.2.2.2.2.2.2.2.2.2.2.2.2.1 | with_reducible exact Nat.lt_trans lrc.1 lrd | with_reducible exact Nat.lt_trans lrc.2.1 lrd | with_reducible exact Nat.lt_trans lrc.2.2.1 lrd | with_reducible exact Nat.lt_trans lrc.2.2.2.1 lrd | with_reducible exact Nat.lt_trans lrc.2.2.2.2.1 lrd | with_reducible exact Nat.lt_trans lrc.2.2.2.2.2.1 lrd | with_reducible exact Nat.lt_trans lrc.2.2.2.2.2.2.1 lrd | with_reducible exact Nat.lt_trans ldy.1 ly | with_reducible exact Nat.lt_trans ldy.2.1 ly | with_reducible exact Nat.lt_trans ldy.2.2.1 ly | with_reducible exact Nat.lt_trans ldy.2.2.2.1 ly | with_reducible exact Nat.lt_trans ldy.2.2.2.2.1 ly | with_reducible exact Nat.lt_trans ldy.2.2.2.2.2.1 ly | with_reducible exact Nat.lt_trans ldy.2.2.2.2.2.2.1 ly | with_reducible exact Nat.lt_trans ldy.2.2.2.2.2.2.2.1 ly | with_reducible exact Nat.lt_trans ldy.2.2.2.2.2.2.2.2.1 ly | with_reducible exact Nat.lt_trans ldx.1 lx | with_reducible exact Nat.lt_trans ldx.2.1 lx | with_reducible exact Nat.lt_trans ldx.2.2.1 lx | with_reducible exact Nat.lt_trans ldx.2.2.2.1 lx | with_reducible exact Nat.lt_trans ldx.2.2.2.2.1 lx | with_reducible exact Nat.lt_trans ldx.2.2.2.2.2.1 lx | with_reducible exact Nat.lt_trans ldx.2.2.2.2.2.2.1 lx | with_reducible exact Nat.lt_trans ldx.2.2.2.2.2.2.2.1 lx | with_reducible exact Nat.lt_trans ldx.2.2.2.2.2.2.2.2.1 lx | with_reducible exact Nat.lt_trans ldx.2.2.2.2.2.2.2.2.2.1 lx | with_reducible exact Nat.lt_trans ldx.2.2.2.2.2.2.2.2.2.2.1 lx | with_reducible exact Nat.lt_trans ldx.2.2.2.2.2.2.2.2.2.2.2.1 lx) | (first | lia | omega))
      have o2 : pl ≠ rc := neN (by first | (refine Nat.ne_of_lt ?_; first | with_reducible exact ll0.1 | with_reducible exact ll0.2.1 | with_reducible exact l1.1 | with_reducible exact l1.2.1 | with_reducible exact l1.2.2.1 | with_reducible exact l1.2.2.2.1 | with_reducible exact l2.1 | with_reducible exact l2.2.1 | with_reducible exact l2.2.2.1 | with_reducible exact l2.2.2.2.1 | with_reducible exact l2.2.2.2.2.1 | with_reducible exact lpl.1 | with_reducible exact lpl.2.1 | with_reducible exact lpl.2.2.1 | with_reducible exact lpl.2.2.2.1 | with_reducible exact lpl.2.2.2.2.1 | with_reducible exact lpl.2.2.2.2.2.1 | with_reducible exact lrc.1 | with_reducible exact lrc.2.1 | with_reducible exact lrc.2.2.1 | with_reducible exact lrc.2.2.2.1 | with_reducible exact lrc.2.2.2.2.1 | with_reducible exact lrc.2.2.2.2.2.1 | with_reducible exact lrc.2.2.2.2.2.2.1 | with_reducible exact lrd | with_reducible exact ldy.1 | with_reducible exact ldy.2.1 | with_reducible exact ldy.2.2.1 | with_reducible exact ldy.2.2.2.1 | with_reducible exact ldy.2.2.2.2.1 | with_reducible exact ldy.2.2.2.2.2.1 | with_reducible exact ldy.2.2.2.2.2.2.1 | with_reducible exact ldy.2.2.2.2.2.2.2.1 | with_reducible exact ldy.2.2.2.2.2.2.2.2.1 | with_reducible exact ly | with_reducible exact lypb.1 | with_reducible exact lypb.2.1 | with_reducible exact lypb.2.2.1 | with_reducible exact lypb.2.2.2.1 | with_reducible exact lypb.2.2.2.2.1 | with_reducible exact lypb.2.2.2.2.2.1 | with_reducible exact lypb.2.2.2.2.2.2.1 | with_reducible exact lypb.2.2.2.2.2.2.2.1 | with_reducible exact lypb.2.2.2.2.2.2.2.2.1 | with_reducible exact lypb.2.2.2.2.2.2.2.2.2.1 | with_reducible exact lypb.2.2.2.2.2.2.2.2.2.2.1 | with_reducible exact ldx.1 | with_reducible exact ldx.2.1 | with_reducible exact ldx.2.2.1 | with_reducible exact ldx.2.2.2.1 | with_reducible exact ldx.2.2.2.2.1 | with_reducible exact ldx.2.2.2.2.2.1 | with_reducible exact ldx.2.2.2.2.2.2.1 | with_reducible exact ldx.2.2.2.2.2.2.2.1 | with_reducible exact ldx.2.2.2.2.2.2.2.2.1 | with_reducible exact ldx.2.2.2.2.2.2.2.2.2.1 | with_reducible exact ldx.2.2.2.2.2.2.2.2.2.2.1 | with_reducible exact ldx.2.2.2.2.2.2.2.2.2.2.2.1 | with_reducible exact lx | with_reducible exact lpb.1 | with_reducible exact lpb.2.1 | with_reducible exact lpb.2.2.1 | with_reducible exact lpb.2.2.2.1 | with_reducible exact lpb.2.2.2.2.1 | with_reducible exact lpb.2.2.2.2.2.1 | with_reducible exact lpb.2.2.2.2.2.2.1 | with_reducible exact lpb.2.2.2.2.2.2.2.1 | with_reducible exact lpb.2.2.2.2.2.2.2.2.1 | with_reducible exact lpb.2.2.2.2.2.2.2.2.2.1 | with_reducible exact lpb.2.2.2.2.2.2.2.2.2.2.1 | with_reducible exact lpb.2.2.2.2.2.2.2.2.2.2.2.1 | with_reducible exact lpb.2.2.2.2.2.2.2.2.2.2.2.2.1 | with_reducible exact lpb.2.2.2.2.2.2.2.2.2.2.2.2.2.1 | with_reducible exact Nat.lt_trans lrc.1 lrd | with_reducible exact Nat.lt_trans lrc.2.1 lrd | with_reducible exact Nat.lt_trans lrc.2.2.1 lrd | with_reducible exact Nat.lt_trans lrc.2.2.2.1 lrd | with_reducible exact Nat.lt_trans lrc.2.2.2.2.1 lrd | with_reducible exact Nat.lt_trans lrc.2.2.2.2.2.1 lrd | with_reducible exact Nat.lt_trans lrc.2.2.2.2.2.2.1 lrd | with_reducible exact Nat.lt_trans ldy.1 ly | with_reducible exact Nat.lt_trans ldy.2.1 ly | with_reducible exact Nat.lt_trans ldy.2.2.1 ly | with_reducible exact Nat.lt_trans ldy.2.2.2.1 ly | with_reducible exact Nat.lt_trans ldy.2.2.2.2.1 ly | with_reducible exact Nat.lt_trans ldy.2.2.2.2.2.1 ly | with_reducible exact Nat.lt_trans ldy.2.2.2.2.2.2.1 ly | with_reducible exact Nat.lt_trans ldy.2.2.2.2.2.2.2.1 ly | with_reducible exact Nat.lt_trans ldy.2.2.2.2.2.2.2.2.1 ly | with_reducible exact Nat.lt_trans ldx.1 lx | with_reducible exact Nat.lt_trans ldx.2.1 lx | with_reducible exact Nat.lt_trans ldx.2.2.1 lx | with_reducible exact Nat.lt_trans ldx.2.2.2.1 lx | with_reducible exact Nat.lt_trans ldx.2.2.2.2.1 lx | with_reducible exact Nat.lt_trans ldx.2.2.2.2.2.1 lx | with_reducible exact Nat.lt_trans ldx.2.2.2.2.2.2.1 lx | with_reducible exact Nat.lt_trans ldx.2.2.2.2.2.2.2.1 lx | with_reducible exact Nat.lt_trans ldx.2.2.2.2.2.2.2.2.1 lx | with_reducible exact Nat.lt_trans ldx.2.2.2.2.2.2.2.2.2.1 lx | with_reducible exact Nat.lt_trans ldx.2.2.2.2.2.2.2.2.2.2.1 lx | with_reducible exact Nat.lt_trans ldx.2.2.2.2.2.2.2.2.2.2.2.1 lx) | (refine Nat.ne_of_gt ?_; first | with_reducible exact ll0.1 | with_reducible exact ll0.2.1 | with_reducible exact l1.1 | with_reducible exact l1.2.1 | with_reducible exact l1.2.2.1 | with_reducible exact l1.2.2.2.1 | with_reducible exact l2.1 | with_reducible exact l2.2.1 | with_reducible exact l2.2.2.1 | with_reducible exact l2.2.2.2.1 | with_reducible exact l2.2.2.2.2.1 | with_reducible exact lpl.1 | with_reducible exact lpl.2.1 | with_reducible exact lpl.2.2.1 | with_reducible exact lpl.2.2.2.1 | with_reducible exact lpl.2.2.2.2.1 | with_reducible exact lpl.2.2.2.2.2.1 | with_reducible exact lrc.1 | with_reducible exact lrc.2.1 | with_reducible exact lrc.2.2.1 | with_reducible exact lrc.2.2.2.1 | with_reducible exact lrc.2.2.2.2.1 | with_reducible exact lrc.2.2.2.2.2.1 | with_reducible exact lrc.2.2.2.2.2.2.1 | with_reducible exact lrd | with_reducible exact ldy.1 | with_reducible exact ldy.2.1 | with_reducible exact ldy.2.2.1 | with_reducible exact ldy.2.2.2.1 | with_reducible exact ldy.2.2.2.2.1 | with_reducible exact ldy.2.2.2.2.2.1 | with_reducible exact ldy.2.2.2.2.2.2.1 | with_reducible exact ldy.2.2.2.2.2.2.2.1 | with_reducible exact ldy.2.2.2.2.2.2.2.2.1 | with_reducible exact ly | with_reducible exact lypb.1 | with_reducible exact lypb.2.1 | with_reducible exact lypb.2.2.1 | with_reducible exact lypb.2.2.2.1 | with_reducible exact lypb.2.2.2.2.1 | with_reducible exact lypb.2.2.2.2.2.1 | with_reducible exact lypb.2.2.2.2.2.2.1 | with_reducible exact lypb.2.2.2.2.2.2.2.1 | with_reducible exact lypb.2.2.2.2.2.2.2.2.1 | with_reducible exact lypb.2.2.2.2.2.2.2.2.2.1 | with_reducible exact lypb.2.2.2.2.2.2.2.2.2.2.1 | with_reducible exact ldx.1 | with_reducible exact ldx.2.1 | with_reducible exact ldx.2.2.1 | with_reducible exact ldx.2.2.2.1 | with_reducible exact ldx.2.2.2.2.1 | with_reducible exact ldx.2.2.2.2.2.1 | with_reducible exact ldx.2.2.2.2.2.2.1 | with_reducible exact ldx.2.2.2.2.2.2.2.1 | with_reducible exact ldx.2.2.2.2.2.2.2.2.1 | with_reducible exact ldx.2.2.2.2.2.2.2.2.2.1 | with_reducible exact ldx.2.2.2.2.2.2.2.2.2.2.1 | with_reducible exact ldx.2.2.2.2.2.2.2.2.2.2.2.1 | with_reducible exact lx | with_reducible exact lpb.1 | with_reducible exact lpb.2.1 | with_reducible exact lpb.2.2.1 | with_reducible exact lpb.2.2.2.1 | with_reducible exact lpb.2.2.2.2.1 | with_reducible exact lpb.2.2.2.2.2.1 | with_reducible exact lpb.2.2.2.2.2.2.1 | with_reducible exact lpb.2.2.2.2.2.2.2.1 | with_reducible exact lpb.2.2.2.2.2.2.2.2.1 | with_reducible exact lpb.2.2.2.2.2.2.2.2.2.1 | with_reducible exact lpb.2.2.2.2.2.2.2.2.2.2.1 | with_reducible exact lpb.2.2.2.2.2.2.2.2.2.2.2.1 | with_reducible exact lpb.2.2.2.2.2.2.2.2.2.2.2.2.1 | with_reducible exact lpb.2.2.2.2.2.2.2.2.2.2.2.2.2.1 | with_reducible exact Nat.lt_trans lrc.1 lrd | with_reducible exact Nat.lt_trans lrc.2.1 lrd | with_reducible exact Nat.lt_trans lrc.2.2.1 lrd | with_reducible exact Nat.lt_trans lrc.2.2.2.1 lrd | with_reducible exact Nat.lt_trans lrc.2.2.2.2.1 lrd | with_reducible exact Nat.lt_trans lrc.2.2.2.2.2.1 lrd | with_reducible exact Nat.lt_trans lrc.2.2.2.2.2.2.1 lrd | with_reducible exact Nat.lt_trans ldy.1 ly | with_reducible exact Nat.lt_trans ldy.2.1 ly | with_reducible exact Nat.lt_trans ldy.2.2.1 ly | with_reducible exact Nat.lt_trans ldy.2.2.2.1 ly | with_reducible exact Nat.lt_trans ldy.2.2.2.2.1 ly | with_reducible exact Nat.lt_trans ldy.2.2.2.2.2.1 ly | with_reducible exact Nat.lt_trans ldy.2.2.2.2.2.2.1 ly | with_reducible exact Nat.lt_trans ldy.2.2.2.2.2.2.2.1 ly | with_reducible exact Nat.lt_trans ldy.2.2.2.2.2.2.2.2.1 ly | with_reducible exact Nat.lt_trans ldx.1 lx | with_reducible exact Nat.lt_trans ldx.2.1 lx | with_reducible exact Nat.lt_trans ldx.2.2.1 lx | with_reducible exact Nat.lt_trans ldx.2.2.2.1 lx | with_reducible exact Nat.lt_trans ldx.2.2.2.2.1 lx | with_reducible exact Nat.lt_trans ldx.2.2.2.2.2.1 lx | with_reducible exact Nat.lt_trans ldx.2.2.2.2.2.2.1 lx | with_reducible exact Nat.lt_trans ldx.2.2.2.2.2.2.2.1 lx | with_reducible exact Nat.lt_trans ldx.2.2.2.2.2.2.2.2.1 lx | with_reducible exact Nat.lt_trans ldx.2.2.2.2.2.2.2.2.2.1 lx | with_reducible exact Nat.lt_trans ldx.2.2.2.2.2.2.2.2.2.2.1 lx | with_reducible exact Nat.lt_trans ldx.2.2.2.2.2.2.2.2.2.2.2.1 lx) | (first | lia | omega))
      have o3 : pl ≠ L0 + 1 + 1 := neN (by first | (refine Nat.ne_of_lt ?_; first | with_reducible exact ll0.1 | with_reducible exact ll0.2.1 | with_reducible exact l1.1 | with_reducible exact l1.2.1 | with_reducible exact l1.2.2.1 | with_reducible exact l1.2.2.2.1 | with_reducible exact l2.1 | with_reducible exact l2.2.1 | with_reducible exact l2.2.2.1 | with_reducible exact l2.2.2.2.1 | with_reducible exact l2.2.2.2.2.1 | with_reducible exact lpl.1 | with_reducible exact lpl.2.1 | with_reducible exact lpl.2.2.1 | with_reducible exact lpl.2.2.2.1 | with_reducible exact lpl.2.2.2.2.1 | with_reducible exact lpl.2.2.2.2.2.1 | with_reducible exact lrc.1 | with_reducible exact lrc.2.1 | with_reducible exact lrc.2.2.1 | with_reducible exact lrc.2.2.2.1 | with_reducible exact lrc.2.2.2.2.1 | with_reducible exact lrc.2.2.2.2.2.1 | with_reducible exact lrc.2.2.2.2.2.2.1 | with_reducible exact lrd | with_reducible exact ldy.1 | with_reducible exact ldy.2.1 | with_reducible exact ldy.2.2.1 | with_reducible exact ldy.2.2.2.1 | with_reducible exact ldy.2.2.2.2.1 | with_reducible exact ldy.2.2.2.2.2.1 | with_reducible exact ldy.2.2.2.2.2.2.1 | with_reducible exact ldy.2.2.2.2.2.2.2.1 | with_reducible exact ldy.2.2.2.2.2.2.2.2.1 | with_reducible exact ly | with_reducible exact lypb.1 | with_reducible exact lypb.2.1 | with_reducible exact lypb.2.2.1 | with_reducible exact lypb.2.2.2.1 | with_reducible exact lypb.2.2.2.2.1 | with_reducible exact lypb.2.2.2.2.2.1 | with_reducible exact lypb.2.2.2.2.2.2.1 | with_reducible exact lypb.2.2.2.2.2.2.2.1 | with_reducible exact lypb.2.2.2.2.2.2.2.2.1 | with_reducible exact lypb.2.2.2.2.2.2.2.2.2.1 | with_reducible exact lypb.2.2.2.2.2.2.2.2.2.2.1 | with_reducible exact ldx.1 | with_reducible exact ldx.2.1 | with_reducible exact ldx.2.2.1 | with_reducible exact ldx.2.2.2.1 | with_reducible exact ldx.2.2.2.2.1 | with_reducible exact ldx.2.2.2.2.2.1 | with_reducible exact ldx.2.2.2.2.2.2.1 | with_reducible exact ldx.2.2.2.2.2.2.2.1 | with_reducible exact ldx.2.2.2.2.2.2.2.2.1 | with_reducible exact ldx.2.2.2.2.2.2.2.2.2.1 | with_reducible exact ldx.2.2.2.2.2.2.2.2.2.2.1 | with_reducible exact ldx.2.2.2.2.2.2.2.2.2.2.2.1 | with_reducible exact lx | with_reducible exact lpb.1 | with_reducible exact lpb.2.1 | with_reducible exact lpb.2.2.1 | with_reducible exact lpb.2.2.2.1 | with_reducible exact lpb.2.2.2.2.1 | with_reducible exact lpb.2.2.2.2.2.1 | with_reducible exact lpb.2.2.2.2.2.2.1 | with_reducible exact lpb.2.2.2.2.2.2.2.1 | with_reducible exact lpb.2.2.2.2.2.2.2.2.1 | with_reducible exact lpb.2.2.2.2.2.2.2.2.2.1 | with_reducible exact lpb.2.2.2.2.2.2.2.2.2.2.1 | with_reducible exact lpb.2.2.2.2.2.2.2.2.2.2.2.1 | with_reducible exact lpb.2.2.2.2.2.2.2.2.2.2.2.2.1 | with_reducible exact lpb.2.2.2.2.2.2.2.2.2.2.2.2.2.1 | with_reducible exact Nat.lt_trans lrc.1 lrd | with_reducible exact Nat.lt_trans lrc.2.1 lrd | with_reducible exact Nat.lt_trans lrc.2.2.1 lrd | with_reducible exact Nat.lt_trans lrc.2.2.2.1 lrd | with_reducible exact Nat.lt_trans lrc.2.2.2.2.1 lrd | with_reducible exact Nat.lt_trans lrc.2.2.2.2.2.1 lrd | with_reducible exact Nat.lt_trans lrc.2.2.2.2.2.2.1 lrd | with_reducible exact Nat.lt_trans ldy.1 ly | with_reducible exact Nat.lt_trans ldy.2.1 ly | with_reducible exact Nat.lt_trans ldy.2.2.1 ly | with_reducible exact Nat.lt_trans ldy.2.2.2.1 ly | with_reducible exact Nat.lt_trans ldy.2.2.2.2.1 ly | with_reducible exact Nat.lt_trans ldy.2.2.2.2.2.1 ly | with_reducible exact Nat.lt_trans ldy.2.2.2.2.2.2.1 ly | with_reducible exact Nat.lt_trans ldy.2.2.2.2.2.2.2.1 ly | with_reducible exact Nat.lt_trans ldy.2.2.2.2.2.2.2.2.1 ly | with_reducible exact Nat.lt_trans ldx.1 lx | with_reducible exact Nat.lt_trans ldx.2.1 lx | with_reducible exact Nat.lt_trans ldx.2.2.1 lx | with_reducible exact Nat.lt_trans ldx.2.2.2.1 lx | with_reducible exact Nat.lt_trans ldx.2.2.2.2.1 lx | with_reducible exact Nat.lt_trans ldx.2.2.2.2.2.1 lx | with_reducible exact Nat.lt_trans ldx.2.2.2.2.2.2.1 lx | with_reducible exact Nat.lt_trans ldx.2.2.2.2.2.2.2.1 lx | with_reducible exact Nat.lt_trans ldx.2.2.2.2.2.2.2.2.1 lx | with_reducible exact Nat.lt_trans ldx.2.2.2.2.2.2.2.2.2.1 lx | with_reducible exact Nat.lt_trans ldx.2.2.2.2.2.2.2.2.2.2.1 lx | with_reducible exact Nat.lt_trans ldx.2.2.2.2.2.2.2.2.2.2.2.1 lx) | (refine Nat.ne_of_gt ?_; first | with_reducible exact ll0.1 | with_reducible exact ll0.2.1 | with_reducible exact l1.1 | with_reducible exact l1.2.1 | with_reducible exact l1.2.2.1 | with_reducible exact l1.2.2.2.1 | with_reducible exact l2.1 | with_reducible exact l2.2.1 | with_reducible exact l2.2.2.1 | with_reducible exact l2.2.2.2.1 | with_reducible exact l2.2.2.2.2.1 | with_reducible exact lpl.1 | with_reducible exact lpl.2.1 | with_reducible exact lpl.2.2.1 | with_reducible exact lpl.2.2.2.1 | with_reducible exact lpl.2.2.2.2.1 | with_reducible exact lpl.2.2.2.2.2.1 | with_reducible exact lrc.1 | with_reducible exact lrc.2.1 | with_reducible exact lrc.2.2.1 | with_reducible exact lrc.2.2.2.1 | with_reducible exact lrc.2.2.2.2.1 | with_reducible exact lrc.2.2.2.2.2.1 | with_reducible exact lrc.2.2.2.2.2.2.1 | with_reducible exact lrd | with_reducible exact ldy.1 | with_reducible exact ldy.2.1 | with_reducible exact ldy.2.2.1 | with_reducible exact ldy.2.2.2.1 | with_reducible exact ldy.2.2.2.2.1 | with_reducible exact ldy.2.2.2.2.2.1 | with_reducible exact ldy.2.2.2.2.2.2.1 | with_reducible exact ldy.2.2.2.2.2.2.2.1 | with_reducible exact ldy.2.2.2.2.2.2.2.2.1 | with_reducible exact ly | with_reducible exact lypb.1 | with_reducible exact lypb.2.1 | with_reducible exact lypb.2.2.1 | with_reducible exact lypb.2.2.2.1 | with_reducible exact lypb.2.2.2.2.1 | with_reducible exact lypb.2.2.2.2.2.1 | with_reducible exact lypb.2.2.2.2.2.2.1 | with_reducible exact lypb.2.2.2.2.2.2.2.1 | with_reducible exact lypb.2.2.2.2.2.2.2.2.1 | with_reducible exact lypb.2.2.2.2.2.2.2.2.2.1 | with_reducible exact lypb.2.2.2.2.2.2.2.2.2.2.1 | with_reducible exact ldx.1 | with_reducible exact ldx.2.1 | with_reducible exact ldx.2.2.1 | with_reducible exact ldx.2.2.2.1 | with_reducible exact ldx.2.2.2.2.1 | with_reducible exact ldx.2.2.2.2.2.1 | with_reducible exact ldx.2.2.2.2.2.2.1 | with_reducible exact ldx.2.2.2.2.2.2.2.1 | with_reducible exact ldx.2.2.2.2.2.2.2.2.1 | with_reducible exact ldx.2.2.2.2.2.2.2.2.2.1 | with_reducible exact ldx.2.2.2.2.2.2.2.2.2.2.1 | with_reducible exact ldx.2.2.2.2.2.2.2.2.2.2.2.1 | with_reducible exact lx | with_reducible exact lpb.1 | with_reducible exact lpb.2.1 | with_reducible exact lpb.2.2.1 | with_reducible exact lpb.2.2.2.1 | with_reducible exact lpb.2.2.2.2.1 | with_reducible exact lpb.2.2.2.2.2.1 | with_reducible exact lpb.2.2.2.2.2.2.1 | with_reducible exact lpb.2.2.2.2.2.2.2.1 | with_reducible exact lpb.2.2.2.2.2.2.2.2.1 | with_reducible exact lpb.2.2.2.2.2.2.2.2.2.1 | with_reducible exact lpb.2.2.2.2.2.2.2.2.2.2.1 | with_reducible exact lpb.2.2.2.2.2.2.2.2.2.2.2.1 | with_reducible exact lpb.2.2.2.2.2.2.2.2.2.2.2.2.1 | with_reducible exact lpb.2.2.2.2.2.2.2.2.2.2.2.2.2.1 | with_reducible exact Nat.lt_trans lrc.1 lrd | with_reducible exact Nat.lt_trans lrc.2.1 lrd | with_reducible exact Nat.lt_trans lrc.2.2.1 lrd | with_reducible exact Nat.lt_trans lrc.2.2.2.1 lrd | with_reducible exact Nat.lt_trans lrc.2.2.2.2.1 lrd | with_reducible exact Nat.lt_trans lrc.2.2.2.2.2.1 lrd | with_reducible exact Nat.lt_trans lrc.2.2.2.2.2.2.1 lrd | with_reducible exact Nat.lt_trans ldy.1 ly | with_reducible exact Nat.lt_trans ldy.2.1 ly | with_reducible exact Nat.lt_trans ldy.2.2.1 ly | with_reducible exact Nat.lt_trans ldy.2.2.2.1 ly | with_reducible exact Nat.lt_trans ldy.2.2.2.2.1 ly | with_reducible exact Nat.lt_trans ldy.2.2.2.2.2.1 ly | with_reducible exact Nat.lt_trans ldy.2.2.2.2.2.2.1 ly | with_reducible exact Nat.lt_trans ldy.2.2.2.2.2.2.2.1 ly | with_reducible exact Nat.lt_trans ldy.2.2.2.2.2.2.2.2.1 ly | with_reducible exact Nat.lt_trans ldx.1 lx | with_reducible exact Nat.lt_trans ldx.2.1 lx | with_reducible exact Nat.lt_trans ldx.2.2.1 lx | with_reducible exact Nat.lt_trans ldx.2.2.2.1 lx | with_reducible exact Nat.lt_trans ldx.2.2.2.2.1 lx | with_reducible exact Nat.lt_trans ldx.2.2.2.2.2.1 lx | with_reducible exact Nat.lt_trans ldx.2.2.2.2.2.2.1 lx | with_reducible exact Nat.lt_trans ldx.2.2.2.2.2.2.2.1 lx | with_reducible exact Nat.lt_trans ldx.2.2.2.2.2.2.2.2.1 lx | with_reducible exact Nat.lt_trans ldx.2.2.2.2.2.2.2.2.2.1 lx | with_reducible exact Nat.lt_trans ldx.2.2.2.2.2.2.2.2.2.2.1 lx | with_reducible exact Nat.lt_trans ldx.2.2.2.2.2.2.2.2.2.2.2.1 lx) | (first | lia | omega))
      have o4 : pl ≠ L0 + 1 := neN (by first | (refine Nat.ne_of_lt ?_; first | with_reducible exact ll0.1 | with_reducible exact ll0.2.1 | with_reducible exact l1.1 | with_reducible exact l1.2.1 | with_reducible exact l1.2.2.1 | with_reducible exact l1.2.2.2.1 | with_reducible exact l2.1 | with_reducible exact l2.2.1 | with_reducible exact l2.2.2.1 | with_reducible exact l2.2.2.2.1 | with_reducible exact l2.2.2.2.2.1 | with_reducible exact lpl.1 | with_reducible exact lpl.2.1 | with_reducible exact lpl.2.2.1 | with_reducible exact lpl.2.2.2.1 | with_reducible exact lpl.2.2.2.2.1 | with_reducible exact lpl.2.2.2.2.2.1 | with_reducible exact lrc.1 | with_reducible exact lrc.2.1 | with_reducible exact lrc.2.2.1 | with_reducible exact lrc.2.2.2.1 | with_reducible exact lrc.2.2.2.2.1 | with_reducible exact lrc.2.2.2.2.2.1 | with_reducible exact lrc.2.2.2.2.2.2.1 | with_reducible exact lrd | with_reducible exact ldy.1 | with_reducible exact ldy.2.1 | with_reducible exact ldy.2.2.1 | with_reducible exact ldy.2.2.2.1 | with_reducible exact ldy.2.2.2.2.1 | with_reducible exact ldy.2.2.2.2.2.1 | with_reducible exact ldy.2.2.2.2.2.2.1 | with_reducible exact ldy.2.2.2.2.2.2.2.1 | with_reducible exact ldy.2.2.2.2.2.2.2.2.1 | with_reducible exact ly | with_reducible exact lypb.1 | with_reducible exact lypb.2.1 | with_reducible exact lypb.2.2.1 | with_reducible exact lypb.2.2.2.1 | with_reducible exact lypb.2.2.2.2.1 | with_reducible exact lypb.2.2.2.2.2.1 | with_reducible exact lypb.2.2.2.2.2.2.1 | with_reducible exact lypb.2.2.2.2.2.2.2.1 | with_reducible exact lypb.2.2.2.2.2.2.2.2.1 | with_reducible exact lypb.2.2.2.2.2.2.2.2.2.1 | with_reducible exact lypb.2.2.2.2.2.2.2.2.2.2.1 | with_reducible exact ldx.1 | with_reducible exact ldx.2.1 | with_reducible exact ldx.2.2.1 | with_reducible exact ldx.2.2.2.1 | with_reducible exact ldx.2.2.2.2.1 | with_reducible exact ldx.2.2.2.2.2.1 | with_reducible exact ldx.2.2.2.2.2.2.1 | with_reducible exact ldx.2.2.2.2.2.2.2.1 | with_reducible exact ldx.2.2.2.2.2.2.2.2.1 | with_reducible exact ldx.2.2.2.2.2.2.2.2.2.1 | with_reducible exact ldx.2.2.2.2.2.2.2.2.2.2.1 | with_reducible exact ldx.2.2.2.2.2.2.2.2.2.2.2.1 | with_reducible exact lx | with_reducible exact lpb.1 | with_reducible exact lpb.2.1 | with_reducible exact lpb.2.2.1 | with_reducible exact lpb.2.2.2.1 | with_reducible exact lpb.2.2.2.2.1 | with_reducible exact lpb.2.2.2.2.2.1 | with_reducible exact lpb.2.2.2.2.2.2.1 | with_reducible exact lpb.2.2.2.2.2.2.2.1 | with_reducible exact lpb.2.2.2.2.2.2.2.2.1 | with_reducible exact lpb.2.2.2.2.2.2.2.2.2.1 | with_reducible exact lpb.2.2.2.2.2.2.2.2.2.2.1 | with_reducible exact lpb.2.2.2.2.2.2.2.2.2.2.2.1 | with_reducible exact lpb.2.2.2.2.2.2.2.2.2.2.2.2.1 | with_reducible exact lpb.2.2.2.2.2.2.2.2.2.2.2.2.2.1 | with_reducible exact Nat.lt_trans lrc.1 lrd | with_reducible exact Nat.lt_trans lrc.2.1 lrd | with_reducible exact Nat.lt_trans lrc.2.2.1 lrd | with_reducible exact Nat.lt_trans lrc.2.2.2.1 lrd | with_reducible exact Nat.lt_trans lrc.2.2.2.2.1 lrd | with_reducible exact Nat.lt_trans lrc.2.2.2.2.2.1 lrd | with_reducible exact Nat.lt_trans lrc.2.2.2.2.2.2.1 lrd | with_reducible exact Nat.lt_trans ldy.1 ly | with_reducible exact Nat.lt_trans ldy.2.1 ly | with_reducible exact Nat.lt_trans ldy.2.2.1 ly | with_reducible exact Nat.lt_trans ldy.2.2.2.1 ly | with_reducible exact Nat.lt_trans ldy.2.2.2.2.1 ly | with_reducible exact Nat.lt_trans ldy.2.2.2.2.2.1 ly | with_reducible exact Nat.lt_trans ldy.2.2.2.2.2.2.1 ly | with_reducible exact Nat.lt_trans ldy.2.2.2.2.2.2.2.1 ly | with_reducible exact Nat.lt_trans ldy.2.2.2.2.2.2.2.2.1 ly | with_reducible exact Nat.lt_trans ldx.1 lx | with_reducible exact Nat.lt_trans ldx.2.1 lx | with_reducible exact Nat.lt_trans ldx.2.2.1 lx | with_reducible exact Nat.lt_trans ldx.2.2.2.1 lx | with_reducible exact Nat.lt_trans ldx.2.2.2.2.1 lx | with_reducible exact Nat.lt_trans ldx.2.2.2.2.2.1 lx | with_reducible exact Nat.lt_trans ldx.2.2.2.2.2.2.1 lx | with_reducible exact Nat.lt_trans ldx.2.2.2.2.2.2.2.1 lx | with_reducible exact Nat.lt_trans ldx.2.2.2.2.2.2.2.2.1 lx | with_reducible exact Nat.lt_trans ldx.2.2.2.2.2.2.2.2.2.1 lx | with_reducible exact Nat.lt_trans ldx.2.2.2.2.2.2.2.2.2.2.1 lx | with_reducible exact Nat.lt_trans ldx.2.2.2.2.2.2.2.2.2.2.2.1 lx) | (refine Nat.ne_of_gt ?_; first | with_reducible exact ll0.1 | with_reducible exact ll0.2.1 | with_reducible exact l1.1 | with_reducible exact l1.2.1 | with_reducible exact l1.2.2.1 | with_reducible exact l1.2.2.2.1 | with_reducible exact l2.1 | with_reducible exact l2.2.1 | with_reducible exact l2.2.2.1 | with_reducible exact l2.2.2.2.1 | with_reducible exact l2.2.2.2.2.1 | with_reducible exact lpl.1 | with_reducible exact lpl.2.1 | with_reducible exact lpl.2.2.1 | with_reducible exact lpl.2.2.2.1 | with_reducible exact lpl.2.2.2.2.1 | with_reducible exact lpl.2.2.2.2.2.1 | with_reducible exact lrc.1 | with_reducible exact lrc.2.1 | with_reducible exact lrc.2.2.1 | with_reducible exact lrc.2.2.2.1 | with_reducible exact lrc.2.2.2.2.1 | with_reducible exact lrc.2.2.2.2.2.1 | with_reducible exact lrc.2.2.2.2.2.2.1 | with_reducible exact lrd | with_reducible exact ldy.1 | with_reducible exact ldy.2.1 | with_reducible exact ldy.2.2.1 | with_reducible exact ldy.2.2.2.1 | with_reducible exact ldy.2.2.2.2.1 | with_reducible exact ldy.2.2.2.2.2.1 | with_reducible exact ldy.2.2.2.2.2.2.1 | with_reducible exact ldy.2.2.2.2.2.2.2.1 | with_reducible exact ldy.2.2.2.2.2.2.2.2.1 | with_reducible exact ly | with_reducible exact lypb.1 | with_reducible exact lypb.2.1 | with_reducible exact lypb.2.2.1 | with_reducible exact lypb.2.2.2.1 | with_reducible exact lypb.2.2.2.2.1 | with_reducible exact lypb.2.2.2.2.2.1 | with_reducible exact lypb.2.2.2.2.2.2.1 | with_reducible exact lypb.2.2.2.2.2.2.2.1 | with_reducible exact lypb.2.2.2.2.2.2.2.2.1 | with_reducible exact lypb.2.2.2.2.2.2.2.2.2.1 | with_reducible exact lypb.2.2.2.2.2.2.2.2.2.2.1 | with_reducible exact ldx.1 | with_reducible exact ldx.2.1 | with_reducible exact ldx.2.2.1 | with_reducible exact ldx.2.2.2.1 | with_reducible exact ldx.2.2.2.2.1 | with_reducible exact ldx.2.2.2.2.2.1 | with_reducible exact ldx.2.2.2.2.2.2.1 | with_reducible exact ldx.2.2.2.2.2.2.2.1 | with_reducible exact ldx.2.2.2.2.2.2.2.2.1 | with_reducible exact ldx.2.2.2.2.2.2.2.2.2.1 | with_reducible exact ldx.2.2.2.2.2.2.2.2.2.2.1 | with_reducible exact ldx.2.2.2.2.2.2.2.2.2.2.2.1 | with_reducible exact lx | with_reducible exact lpb.1 | with_reducible exact lpb.2.1 | with_reducible exact lpb.2.2.1 | with_reducible exact lpb.2.2.2.1 | with_reducible exact lpb.2.2.2.2.1 | with_reducible exact lpb.2.2.2.2.2.1 | with_reducible exact lpb.2.2.2.2.2.2.1 | with_reducible exact lpb.2.2.2.2.2.2.2.1 | with_reducible exact lpb.2.2.2.2.2.2.2.2.1 | with_reducible exact lpb.2.2.2.2.2.2.2.2.2.1 | with_reducible exact lpb.2.2.2.2.2.2.2.2.2.2.1 | with_reducible exact lpb.2.2.2.2.2.2.2.2.2.2.2.1 | with_reducible exact lpb.2.2.2.2.2.2.2.2.2.2.2.2.1 | with_reducible exact lpb.2.2.2.2.2.2.2.2.2.2.2.2.2.1 | with_reducible exact Nat.lt_trans lrc.1 lrd | with_reducible exact Nat.lt_trans lrc.2.1 lrd | with_reducible exact Nat.lt_trans lrc.2.2.1 lrd | with_reducible exact Nat.lt_trans lrc.2.2.2.1 lrd | with_reducible exact Nat.lt_trans lrc.2.2.2.2.1 lrd | with_reducible exact Nat.lt_trans lrc.2.2.2.2.2.1 lrd | with_reducible exact Nat.lt_trans lrc.2.2.2.2.2.2.1 lrd | with_reducible exact Nat.lt_trans ldy.1 ly | with_reducible exact Nat.lt_trans ldy.2.1 ly | with_reducible exact Nat.lt_trans ldy.2.2.1 ly | with_reducible exact Nat.lt_trans ldy.2.2.2.1 ly | with_reducible exact Nat.lt_trans ldy.2.2.2.2.1 ly | with_reducible exact Nat.lt_trans ldy.2.2.2.2.2.1 ly | with_reducible exact Nat.lt_trans ldy.2.2.2.2.2.2.1 ly | with_reducible exact Nat.lt_trans ldy.2.2.2.2.2.2.2.1 ly | with_reducible exact Nat.lt_trans ldy.2.2.2.2.2.2.2.2.1 ly | with_reducible exact Nat.lt_trans ldx.1 lx | with_reducible exact Nat.lt_trans ldx.2.1 lx | with_reducible exact Nat.lt_trans ldx.2.2.1 lx | with_reducible exact Nat.lt_trans ldx.2.2.2.1 lx | with_reducible exact Nat.lt_trans ldx.2.2.2.2.1 lx | with_reducible exact Nat.lt_trans ldx.2.2.2.2.2.1 lx | with_reducible exact Nat.lt_trans ldx.2.2.2.2.2.2.1 lx | with_reducible exact Nat.lt_trans ldx.2.2.2.2.2.2.2.1 lx | with_reducible exact Nat.lt_trans ldx.2.2.2.2.2.2.2.2.1 lx | with_reducible exact Nat.lt_trans ldx.2.2.2.2.2.2.2.2.2.1 lx | with_reducible exact Nat.lt_trans ldx.2.2.2.2.2.2.2.2.2.2.1 lx | with_reducible exact Nat.lt_trans ldx.2.2.2.2.2.2.2.2.2.2.2.1 lx) | (first | lia | omega))
      have o5 : (134 : Addr) ≠ pl := neN (by first | (refine Nat.ne_of_lt ?_; first | with_reducible exact ll0.1 | with_reducible exact ll0.2.1 | with_reducible exact l1.1 | with_reducible exact l1.2.1 | with_reducible exact l1.2.2.1 | with_reducible exact l1.2.2.2.1 | with_reducible exact l2.1 | with_reducible exact l2.2.1 | with_reducible exact l2.2.2.1 | with_reducible exact l2.2.2.2.1 | with_reducible exact l2.2.2.2.2.1 | with_reducible exact lpl.1 | with_reducible exact lpl.2.1 | with_reducible exact lpl.2.2.1 | with_reducible exact lpl.2.2.2.1 | with_reducible exact lpl.2.2.2.2.1 | with_reducible exact lpl.2.2.2.2.2.1 | with_reducible exact lrc.1 | with_reducible exact lrc.2.1 | with_reducible exact lrc.2.2.1 | with_reducible exact lrc.2.2.2.1 | with_reducible exact lrc.2.2.2.2.1 | with_reducible exact lrc.2.2.2.2.2.1 | with_reducible exact lrc.2.2.2.2.2.2.1 | with_reducible exact lrd | with_reducible exact ldy.1 | with_reducible exact ldy.2.1 | with_reducible exact ldy.2.2.1 | with_reducible exact ldy.2.2.2.1 | with_reducible exact ldy.2.2.2.2.1 | with_reducible exact ldy.2.2.2.2.2.1 | with_reducible exact ldy.2.2.2.2.2.2.1 | with_reducible exact ldy.2.2.2.2.2.2.2.1 | with_reducible exact ldy.2.2.2.2.2.2.2.2.1 | with_reducible exact ly | with_reducible exact lypb.1 | with_reducible exact lypb.2.1 | with_reducible exact lypb.2.2.1 | with_reducible exact lypb.2.2.2.1 | with_reducible exact lypb.2.2.2.2.1 | with_reducible exact lypb.2.2.2.2.2.1 | with_reducible exact lypb.2.2.2.2.2.2.1 | with_reducible exact lypb.2.2.2.2.2.2.2.1 | with_reducible exact lypb.2.2.2.2.2.2.2.2.1 | with_reducible exact lypb.2.2.2.2.2.2.2.2.2.1 | with_reducible exact lypb.2.2.2.2.2.2.2.2.2.2.1 | with_reducible exact ldx.1 | with_reducible exact ldx.2.1 | with_reducible exact ldx.2.2.1 | with_reducible exact ldx.2.2.2.1 | with_reducible exact ldx.2.2.2.2.1 | with_reducible exact ldx.2.2.2.2.2.1 | with_reducible exact ldx.2.2.2.2.2.2.1 | with_reducible exact ldx.2.2.2.2.2.2.2.1 | with_reducible exact ldx.2.2.2.2.2.2.2.2.1 | with_reducible exact ldx.2.2.2.2.2.2.2.2.2.1 | with_reducible exact ldx.2.2.2.2.2.2.2.2.2.2.1 | with_reducible exact ldx.2.2.2.2.2.2.2.2.2.2.2.1 | with_reducible exact lx | with_reducible exact lpb.1 | with_reducible exact lpb.2.1 | with_reducible exact lpb.2.2.1 | with_reducible exact lpb.2.2.2.1 | with_reducible exact lpb.2.2.2.2.1 | with_reducible exact lpb.2.2.2.2.2.1 | with_reducible exact lpb.2.2.2.2.2.2.1 | with_reducible exact lpb.2.2.2.2.2.2.2.1 | with_reducible exact lpb.2.2.2.2.2.2.2.2.1 | with_reducible exact lpb.2.2.2.2.2.2.2.2.2.1 | with_reducible exact lpb.2.2.2.2.2.2.2.2.2.2.1 | with_reducible exact lpb.2.2.2.2.2.2.2.2.2.2.2.1 | with_reducible exact lpb.2.2.2.2.2.2.2.2.2.2.2.2.1 | with_reducible exact lpb.2.2.2.2.2.2.2.2.2.2.2.2.2.1 | with_reducible exact Nat.lt_trans lrc.1 lrd | with_reducible exact Nat.lt_trans lrc.2.1 lrd | with_reducible exact Nat.lt_trans lrc.2.2.1 lrd | with_reducible exact Nat.lt_trans lrc.2.2.2.1 lrd | with_reducible exact Nat.lt_trans lrc.2.2.2.2.1 lrd | with_reducible exact Nat.lt_trans lrc.2.2.2.2.2.1 lrd | with_reducible exact Nat.lt_trans lrc.2.2.2.2.2.2.1 lrd | with_reducible exact Nat.lt_trans ldy.1 ly | with_reducible exact Nat.lt_trans ldy.2.1 ly | with_reducible exact Nat.lt_trans ldy.2.2.1 ly | with_reducible exact Nat.lt_trans ldy.2.2.2.1 ly | with_reducible exact Nat.lt_trans ldy.2.2.2.2.1 ly | with_reducible exact Nat.lt_trans ldy.2.2.2.2.2.1 ly | with_reducible exact Nat.lt_trans ldy.2.2.2.2.2.2.1 ly | with_reducible exact Nat.lt_trans ldy.2.2.2.2.2.2.2.1 ly | with_reducible exact Nat.lt_trans ldy.2.2.2.2.2.2.2.2.1 ly | with_reducible exact Nat.lt_trans ldx.1 lx | with_reducible exact Nat.lt_trans ldx.2.1 lx | with_reducible exact Nat.lt_trans ldx.2.2.1 lx | with_reducible exact Nat.lt_trans ldx.2.2.2.1 lx | with_reducible exact Nat.lt_trans ldx.2.2.2.2.1 lx | with_reducible exact Nat.lt_trans ldx.2.2.2.2.2.1 lx | with_reducible exact Nat.lt_trans ldx.2.2.2.2.2.2.1 lx | with_reducible exact Nat.lt_trans ldx.2.2.2.2.2.2.2.1 lx | with_reducible exact Nat.lt_trans ldx.2.2.2.2.2.2.2.2.1 lx | with_reducible exact Nat.lt_trans ldx.2.2.2.2.2.2.2.2.2.1 lx | with_reducible exact Nat.lt_trans ldx.2.2.2.2.2.2.2.2.2.2.1 lx | with_reducible exact Nat.lt_trans ldx.2.2.2.2.2.2.2.2.2.2.2.1 lx) | (refine Nat.ne_of_gt ?_; first | with_reducible exact ll0.1 | with_reducible exact ll0.2.1 | with_reducible exact l1.1 | with_reducible exact l1.2.1 | with_reducible exact l1.2.2.1 | with_reducible exact l1.2.2.2.1 | with_reducible exact l2.1 | with_reducible exact l2.2.1 | with_reducible exact l2.2.2.1 | with_reducible exact l2.2.2.2.1 | with_reducible exact l2.2.2.2.2.1 | with_reducible exact lpl.1 | with_reducible exact lpl.2.1 | with_reducible exact lpl.2.2.1 | with_reducible exact lpl.2.2.2.1 | with_reducible exact lpl.2.2.2.2.1 | with_reducible exact lpl.2.2.2.2.2.1 | with_reducible exact lrc.1 | with_reducible exact lrc.2.1 | with_reducible exact lrc.2.2.1 | with_reducible exact lrc.2.2.2.1 | with_reducible exact lrc.2.2.2.2.1 | with_reducible exact lrc.2.2.2.2.2.1 | with_reducible exact lrc.2.2.2.2.2.2.1 | with_reducible exact lrd | with_reducible exact ldy.1 | with_reducible exact ldy.2.1 | with_reducible exact ldy.2.2.1 | with_reducible exact ldy.2.2.2.1 | with_reducible exact ldy.2.2.2.2.1 | with_reducible exact ldy.2.2.2.2.2.1 | with_reducible exact ldy.2.2.2.2.2.2.1 | with_reducible exact ldy.2.2.2.2.2.2.2.1 | with_reducible exact ldy.2.2.2.2.2.2.2.2.1 | with_reducible exact ly | with_reducible exact lypb.1 | with_reducible exact lypb.2.1 | with_reducible exact lypb.2.2.1 | with_reducible exact lypb.2.2.2.1 | with_reducible exact lypb.2.2.2.2.1 | with_reducible exact lypb.2.2.2.2.2.1 | with_reducible exact lypb.2.2.2.2.2.2.1 | with_reducible exact lypb.2.2.2.2.2.2.2.1 | with_reducible exact lypb.2.2.2.2.2.2.2.2.1 | with_reducible exact lypb.2.2.2.2.2.2.2.2.2.1 | with_reducible exact lypb.2.2.2.2.2.2.2.2.2.2.1 | with_reducible exact ldx.1 | with_reducible exact ldx.2.1 | with_reducible exact ldx.2.2.1 | with_reducible exact ldx.2.2.2.1 | with_reducible exact ldx.2.2.2.2.1 | with_reducible exact ldx.2.2.2.2.2.1 | with_reducible exact ldx.2.2.2.2.2.2.1 | with_reducible exact ldx.2.2.2.2.2.2.2.1 | with_reducible exact ldx.2.2.2.2.2.2.2.2.1 | with_reducible exact ldx.2.2.2.2.2.2.2.2.2.1 | with_reducible exact ldx.2.2.2.2.2.2.2.2.2.2.1 | with_reducible exact ldx.2.2.2.2.2.2.2.2.2.2.2.1 | with_reducible exact lx | with_reducible exact lpb.1 | with_reducible exact lpb.2.1 | with_reducible exact lpb.2.2.1 | with_reducible exact lpb.2.2.2.1 | with_reducible exact lpb.2.2.2.2.1 | with_reducible exact lpb.2.2.2.2.2.1 | with_reducible exact lpb.2.2.2.2.2.2.1 | with_reducible exact lpb.2.2.2.2.2.2.2.1 | with_reducible exact lpb.2.2.2.2.2.2.2.2.1 | with_reducible exact lpb.2.2.2.2.2.2.2.2.2.1 | with_reducible exact lpb.2.2.2.2.2.2.2.2.2.2.1 | with_reducible exact lpb.2.2.2.2.2.2.2.2.2.2.2.1 | with_reducible exact lpb.2.2.2.2.2.2.2.2.2.2.2.2.1 | with_reducible exact lpb.2.2.2.2.2.2.2.2.2.2.2.2.2.1 | with_reducible exact Nat.lt_trans lrc.1 lrd | with_reducible exact Nat.lt_trans lrc.2.1 lrd | with_reducible exact Nat.lt_trans lrc.2.2.1 lrd | with_reducible exact Nat.lt_trans lrc.2.2.2.1 lrd | with_reducible exact Nat.lt_trans lrc.2.2.2.2.1 lrd | with_reducible exact Nat.lt_trans lrc.2.2.2.2.2.1 lrd | with_reducible exact Nat.lt_trans lrc.2.2.2.2.2.2.1 lrd | with_reducible exact Nat.lt_trans ldy.1 ly | with_reducible exact Nat.lt_trans ldy.2.1 ly | with_reducible exact Nat.lt_trans ldy.2.2.1 ly | with_reducible exact Nat.lt_trans ldy.2.2.2.1 ly | with_reducible exact Nat.lt_trans ldy.2.2.2.2.1 ly | with_reducible exact Nat.lt_trans ldy.2.2.2.2.2.1 ly | with_reducible exact Nat.lt_trans ldy.2.2.2.2.2.2.1 ly | with_reducible exact Nat.lt_trans ldy.2.2.2.2.2.2.2.1 ly | with_reducible exact Nat.lt_trans ldy.2.2.2.2.2.2.2.2.1 ly | with_reducible exact Nat.lt_trans ldx.1 lx | with_reducible exact Nat.lt_trans ldx.2.1 lx | with_reducible exact Nat.lt_trans ldx.2.2.1 lx | with_reducible exact Nat.lt_trans ldx.2.2.2.1 lx | with_reducible exact Nat.lt_trans ldx.2.2.2.2.1 lx | with_reducible exact Nat.lt_trans ldx.2.2.2.2.2.1 lx | with_reducible exact Nat.lt_trans ldx.2.2.2.2.2.2.1 lx | with_reducible exact Nat.lt_trans ldx.2.2.2.2.2.2.2.1 lx | with_reducible exact Nat.lt_trans ldx.2.2.2.2.2.2.2.2.1 lx | with_reducible exact Nat.lt_trans ldx.2.2.2.2.2.2.2.2.2.1 lx | with_reducible exact Nat.lt_trans ldx.2.2.2.2.2.2.2.2.2.2.1 lx | with_reducible exact Nat.lt_trans ldx.2.2.2.2.2.2.2.2.2.2.2.1 lx) | (first | lia | omega))
      intro dp1 un1 gd1 cn1 cs1 a1 ccd1 cl1 outer1 A1 base1 h01 L1 m1 s1 R1 pos tp1 tu1 c31 B1 F1 X1 T1 hk1 hd1 hu1 CH1 hp0 hp1 N1 ret1
      dsimp only [LexS.rdO] at N1
      k_dflt (walk_at "SW enterN")
      rename Keep _ _ _ => KG1
      k_steps
      rename_i FY NY kFy kNy TcY kXY
      exact ret1 _ _ _ _ (Keep.then KG1 (Fr.keep FY)) kFy kNy
  case some =>
    intro v hv oi' h' hoi' hkp F4 N4
    clear F3 N3
    k_unfold
    try dsimp only
    obtain ⟨ar, r, t, u, w, rfl, hmem, hrj⟩ := hrows.at hv
    have hro := hok r (List.mem_of_getElem? hrj)
    refine wpAny_letOwnedTupleGo_listiter (i := j + 1) ⟨_, (N4 _ (.head _)).1, hoi'.c, hoi'.d⟩ ?_
    refine held_any ?_
    have N5 : News g0 L0 h' ((ar, rowOb r t u w) :: ((I, oi') :: (le, W.listOf es.toArray 0) :: (lh, W.listOf hs.toArray 0) :: (L0 + 1 + 1, oS) :: (L0 + 1, oP) :: (134, tabObj #[]) :: (rl, W.listOf arr.toArray c) :: ts)) := fun p hp => by
      rcases List.mem_cons.mp hp with h | h
      · rw [h]; exact N4 _ (.tail _ (.tail _ (.tail _ (.tail _ (.tail _ (.tail _ (.tail _ hmem)))))))
      · exact N4 p h
    clear N4
    dsimp only [frm] at F4
    obtain ⟨d, mn, e⟩ := r
    obtain ⟨q1, q2, q3, q4, q5, q6⟩ := hro
    dsimp only at q1 q2 q3 q4 q5 q6
    dsimp only [rowOb] at N5
    k_steps
    refine Wait.mk ?_
    rename News _ _ _ _ => N6
    rename Fr _ _ _ _ => F6
    refine item_strsA (News.isList N6 (.tail _ (.tail _ (.tail _ (.head _))))) hhs q3 (by show mn < 4; (first | lia | omega)) (by first | with_reducible assumption | decide | (first | lia | omega)) ?_
    intro tt1
    obtain ⟨ho1, ho2⟩ := head_ok q3 q4
    generalize headS.getD mn.toNat Str.empty = sh at ho1 ho2
    have hmu := mul_ok q1 q2
    k_steps
    · refine Wait.mk ?_
      refine item_strsA (News.isList N6 (.tail _ (.tail _ (.head _)))) hes q5 (by show e < 3; (first | lia | omega)) (by first | with_reducible assumption | decide | (first | lia | omega)) ?_
      intro tt2
      obtain ⟨ho3, ho4⟩ := end_ok q5 q6
      generalize endS.getD e.toNat Str.empty = se at ho3 ho4
      have hmd : (Txt.mul (Str.ofString ".") d).length ≤ 4 := by rw [show (Txt.mul (Str.ofString ".") d).length = (Txt.mul (Str.ofString ".") d).cps.toList.length from (Array.length_toList ..).symm, hmu, List.length_replicate]; (first | lia | omega)
      have hj4 : j < res.length := (List.getElem?_eq_some_iff.mp hrj).1
      k_steps
      rename News _ _ _ _ => N8
      rename Fr _ _ _ _ => F8
      rename mn = 1 => hm1
      try dsimp only
      obtain ⟨mA, FB⟩ := fr_puts [(Str.ofString "mail", .str (mail ++ (sh ++ Txt.mul (Str.ofString ".") d ++ Str.ofString "\"" ++ se)) _), (Str.ofString "ends", .ref le), (Str.ofString "heads", .ref lh), (Str.ofString "rows", .ref rl)] F8 ⟨rfl, rfl, rfl, rfl, trivial⟩
      refine Held.mk ⟨res.length - (j + 1), by (first | lia | omega), mkJ1 _ (j + 1) (mail ++ (sh ++ Txt.mul (Str.ofString ".") d ++ Str.ofString "\"" ++ se)) _ oi' _ _ mA (by first | with_reducible assumption | decide | (first | lia | omega)) ?_ ?_ hoi' FB (fun p hp => N8 p (.tail _ hp))⟩
      · rw [mail_succ hrj]
        simp only [Str.cps_append, Array.toList_append, hml, ho1, hmu, ho3]
        unfold rowTxt
        try dsimp only
        rw [if_pos hm1, show (Str.ofString "\"").cps.toList = [34] from by decide +kernel]
      · have : (Str.ofString "\"").length ≤ 1 := by decide +kernel
        simp only [str_len_append]
        (first | lia | omega)
    · refine Wait.mk ?_
      refine item_strsA (News.isList N6 (.tail _ (.tail _ (.head _)))) hes q5 (by show e < 3; (first | lia | omega)) (by first | with_reducible assumption | decide | (first | lia | omega)) ?_
      intro tt2
      obtain ⟨ho3, ho4⟩ := end_ok q5 q6
      generalize endS.getD e.toNat Str.empty = se at ho3 ho4
      have hmd : (Txt.mul (Str.ofString ".") d).length ≤ 4 := by rw [show (Txt.mul (Str.ofString ".") d).length = (Txt.mul (Str.ofString ".") d).cps.toList.length from (Array.length_toList ..).symm, hmu, List.length_replicate]; (first | lia | omega)
      have hj4 : j < res.length := (List.getElem?_eq_some_iff.mp hrj).1
      k_steps
      rename News _ _ _ _ => N8
      rename Fr _ _ _ _ => F8
      rename mn ≠ 1 => hm1
      try dsimp only
      obtain ⟨mA, FB⟩ := fr_puts [(Str.ofString "mail", .str (mail ++ (sh ++ Txt.mul (Str.ofString ".") d ++ Str.ofString "" ++ se)) _), (Str.ofString "ends", .ref le), (Str.ofString "heads", .ref lh), (Str.ofString "rows", .ref rl)] F8 ⟨rfl, rfl, rfl, rfl, trivial⟩
      refine Held.mk ⟨res.length - (j + 1), by (first | lia | omega), mkJ1 _ (j + 1) (mail ++ (sh ++ Txt.mul (Str.ofString ".") d ++ Str.ofString "" ++ se)) _ oi' _ _ mA (by first | with_reducible assumption | decide | (first | lia | omega)) ?_ ?_ hoi' FB (fun p hp => N8 p (.tail _ hp))⟩
      · rw [mail_succ hrj]
        simp only [Str.cps_append, Array.toList_append, hml, ho1, hmu, ho3]
        unfold rowTxt
        try dsimp only
        rw [if_neg hm1, show (Str.ofString "").cps.toList = [] from by decide +kernel]
      · have : (Str.ofString "").length ≤ 1 := by decide +kernel
        simp only [str_len_append]
        (first | lia | omega)
end
section
open PySem PySem.W PyProof.Rows PySem.Calls PySem.Spec
set_option maxRecDepth 100000
set_option maxHeartbeats 4000000
/-- the dots of a row's word, and the row as it is sent -/
def dueT (r : Int × Int × Int) : Nat := r.1.toNat + (if r.2.1 = 0 then 1 else 0)
def rowMid (r : Int × Int × Int) : List Nat := headT r.2.1 ++ List.replicate r.1.toNat 46 ++ (if r.2.1 = 1 then [34] else [])
def rowOut (r : Int × Int × Int) : List Nat := headT r.2.1 ++ List.replicate (dueT r) 46 ++ (if r.2.1 = 1 then [34] else []) ++ [13, 10]
def sentT (res : List (Int × Int × Int)) : List Nat := (res.map rowOut).flatten
def remT (r : Int × Int × Int) (C : List Nat) : List Nat := if r.2.1 = 1 then 13 :: 10 :: C else 10 :: C
theorem row_cases {d m : Int} (h1 : 2 ≤ d) (h2 : d ≤ 4) (h3 : 0 ≤ m) (h4 : m ≤ 3) : (d = 2 ∨ d = 3 ∨ d = 4) ∧ (m = 0 ∨ m = 1 ∨ m = 2 ∨ m = 3) := by (first | lia | omega)
theorem crlf_pass : ∀ (A X : List Nat), (∀ c ∈ A, c ≠ 10 ∧ c ≠ 13) → crlf (A ++ X) = A ++ crlf X
  | [], _, _ => rfl
  | c :: r, X, h => by
    rw [List.cons_append, crlf_cons, if_neg (h c (.head _)).1, if_neg (h c (.head _)).2, crlf_pass r X fun d hd => h d (.tail _ hd), List.cons_append]
theorem mid_plain {r : Int × Int × Int} : ∀ c ∈ rowMid r, c ≠ 10 ∧ c ≠ 13 := by
  intro c hc
  unfold rowMid at hc
  rcases List.mem_append.mp hc with hc | hc
  · rcases List.mem_append.mp hc with hc | hc
    · unfold headT at hc
      split at hc
      · cases hc
      · split at hc
        · cases List.mem_singleton.mp hc; decide
        · split at hc
          · cases List.mem_singleton.mp hc; decide
          · cases List.mem_singleton.mp hc; decide
    · rw [(List.mem_replicate.mp hc).2]; decide
  · split at hc
    · cases List.mem_singleton.mp hc; decide
    · cases hc
theorem crlf_end {e : Int} (h1 : 0 ≤ e) (h2 : e ≤ 2) {M : List Nat} (hM : ∀ r, M ≠ 10 :: r) : crlf (endT e ++ M) = 13 :: 10 :: crlf M := by
  have : e = 0 ∨ e = 1 ∨ e = 2 := by (first | lia | omega)
  rcases this with rfl | rfl | rfl
  · show crlf (10 :: M) = _
    rw [crlf_cons]; rfl
  · show crlf (13 :: M) = _
    rw [crlf_cons, if_neg (by decide), if_pos rfl]
    cases M with
    | nil => rfl
    | cons c r =>
      dsimp only
      rw [if_neg (fun q => hM r (by rw [q]))]
  · show crlf (13 :: 10 :: M) = _
    rw [crlf_cons]; rfl
theorem row_head {r : Int × Int × Int} (h : RowOk r) (X : List Nat) : ∀ q, rowTxt r ++ X ≠ 10 :: q := by
  obtain ⟨d, m, e⟩ := r
  obtain ⟨h1, h2, h3, h4, h5, h6⟩ := h
  dsimp only at h1 h2 h3 h4 h5 h6
  obtain ⟨hd, hm⟩ := row_cases h1 h2 h3 h4
  intro q hq
  have h0 : (rowTxt (d, m, e) ++ X).head? = some 10 := by rw [hq]; rfl
  have h9 : (rowTxt (d, m, e) ++ X) = rowMid (d, m, e) ++ (endT e ++ X) := by unfold rowTxt rowMid; simp only [List.append_assoc]
  rw [h9] at h0
  rcases hd with rfl | rfl | rfl <;> rcases hm with rfl | rfl | rfl | rfl <;> exact absurd h0 (by show ¬ (some _ = some _); decide)
theorem mail_head {res : List (Int × Int × Int)} (h : ∀ r ∈ res, RowOk r) : ∀ q, mailT res ≠ 10 :: q := by
  cases res with
  | nil => intro q hq; cases hq
  | cons r rs =>
    intro q hq
    have : mailT (r :: rs) = rowTxt r ++ mailT rs := rfl
    rw [this] at hq
    exact row_head (h r (.head _)) _ q hq
theorem dots_row {r : Int × Int × Int} (h : RowOk r) (C : List Nat) : dots true (rowMid r ++ 13 :: 10 :: C) = rowOut r ++ dots true C := by
  obtain ⟨d, m, e⟩ := r
  obtain ⟨h1, h2, h3, h4, h5, h6⟩ := h
  dsimp only at h1 h2 h3 h4 h5 h6
  obtain ⟨hd, hm⟩ := row_cases h1 h2 h3 h4
  rcases hd with rfl | rfl | rfl <;> rcases hm with rfl | rfl | rfl | rfl <;> rfl
theorem sent_eq : ∀ {res : List (Int × Int × Int)}, (∀ r ∈ res, RowOk r) → dots true (crlf (mailT res)) = sentT res
  | [], _ => rfl
  | r :: rs, h => by
    have e : mailT (r :: rs) = rowMid r ++ (endT r.2.2 ++ mailT rs) := by
      show rowTxt r ++ mailT rs = _
      unfold rowTxt rowMid; simp only [List.append_assoc]
    have hr := h r (.head _)
    have hs : ∀ q ∈ rs, RowOk q := fun q hq => h q (.tail _ hq)
    rw [e, crlf_pass _ _ mid_plain, crlf_end hr.e1 hr.e2 (mail_head hs), dots_row hr, sent_eq hs]
    rfl
theorem lex_row {r : Int × Int × Int} (h : RowOk r) (C : List Nat) (n : Int) : lexA (rowOut r ++ C) n = some ((dueT r, remT r C), n) := by
  obtain ⟨d, m, e⟩ := r
  obtain ⟨h1, h2, h3, h4, h5, h6⟩ := h
  dsimp only at h1 h2 h3 h4 h5 h6
  obtain ⟨hd, hm⟩ := row_cases h1 h2 h3 h4
  rcases hd with rfl | rfl | rfl <;> rcases hm with rfl | rfl | rfl | rfl <;> rfl
theorem lex_rem {r : Int × Int × Int} (C : List Nat) (n : Int) : lexA (remT r C) n = lexA C (n + 1) := by
  unfold remT
  split <;> rfl
def numsT : List (Int × Int × Int) → Int → List (Nat × Int)
  | [], _ => []
  | r :: rs, n => (dueT r, n) :: numsT rs (n + 1)
theorem rem_len {r : Int × Int × Int} {C : List Nat} : (remT r C).length ≤ (rowOut r ++ C).length := by
  unfold remT rowOut
  split <;> simp only [List.length_cons, List.length_append, List.length_nil] <;> (first | lia | omega)
theorem getN_cons {j : Nat} {ks us ks' us' : List Nat} {n n' : Int} {K : Nat} (h : getS ks us n = some (K, ks', us', n')) : getN (j + 1) ks us n = (getN j ks' us' n').map fun x : List (Nat × Int) × List Nat × List Nat × Int => ((K, n') :: x.1, x.2) := by
  conv => lhs; unfold getN
  rw [h]
/-- the words of the rows, got one by one -/
theorem got_rows : ∀ {res : List (Int × Int × Int)} {us : List Nat} {n N : Int}, (∀ r ∈ res, RowOk r) → lexA us n = lexA (sentT res) N →
    ∃ us' n', getN res.length [] us n = some (numsT res N, [], us', n') ∧ lexA us' n' = some ((0, []), N + res.length) ∧ (res ≠ [] → n' = N + res.length - 1)
  | [], us, n, N, _, e => ⟨us, n, rfl, by rw [e]; show some ((0, []), N) = _; rw [show N + (([] : List (Int × Int × Int)).length : Int) = N from by simp], fun h => absurd rfl h⟩
  | r :: rs, us, n, N, h, e => by
    have hr := h r (.head _)
    have hs : ∀ q ∈ rs, RowOk q := fun q hq => h q (.tail _ hq)
    rw [show sentT (r :: rs) = rowOut r ++ sentT rs from rfl] at e
    rw [lex_row hr] at e
    obtain ⟨us', n', e1, e2, e4⟩ := got_rows (us := remT r (sentT rs)) (n := N) (N := N + 1) hs (lex_rem _ _)
    refine ⟨us', n', ?_, ?_, fun _ => ?_⟩
    · rw [List.length_cons, getN_cons (show getS [] us n = some (dueT r, [], remT r (sentT rs), N) from by show (lexA us n).map _ = _; rw [e]; rfl), e1]; rfl
    · rw [e2, List.length_cons]
      congr 2
      (first | lia | omega)
    · cases rs with
      | nil =>
        have e1' : some ([], [], remT r (sentT []), N) = some (numsT [] (N + 1), [], us', n') := e1
        have : N = n' := by injection e1' with q; injection q with q1 q2; injection q2 with q3 q4; injection q4 with q5 q6
        rw [← this]; simp
      | cons r2 rs2 =>
        rw [e4 (by simp), List.length_cons (as := r2 :: rs2)]
        (first | lia | omega)
/-- what waits in line, got; behind it the empty word, twice -/
theorem got_line : ∀ {ks us : List Nat} {n N : Int}, lexA us n = some ((0, []), N) →
    getN (ks.length + 2) ks us n = some (ks.map (·, n) ++ [(0, N), (0, N)], [], [], N)
  | [], us, n, N, e => by
    show getN 2 [] us n = _
    rw [getN_cons (show getS [] us n = some (0, [], [], N) from by show (lexA us n).map _ = _; rw [e]; rfl)]
    rfl
  | k :: ks, us, n, N, e => by
    show getN (ks.length + 2 + 1) (k :: ks) us n = _
    rw [getN_cons (show getS (k :: ks) us n = some (k, ks, us, n) from rfl), got_line e]; rfl
end
section
open PySem PySem.W PyProof.Rows PySem.Calls PySem.Spec
set_option maxRecDepth 100000
set_option maxHeartbeats 4000000
theorem readyP_foldl {line : List Int} : ∀ {ks acc : List Int}, ks.foldl (readyG line) acc = acc ++ ks.filter (fun k => decide (2 ≤ line.getD k.toNat 0))
  | [], acc => (List.append_nil acc).symm
  | k :: r, acc => by
    rw [List.foldl_cons, readyP_foldl, readyG, List.filter_cons]
    by_cases h : 2 ≤ line.getD k.toNat 0
    · rw [if_pos h, decide_eq_true h, if_pos rfl, List.append_assoc]; rfl
    · rw [if_neg h, decide_eq_false h, if_neg (by decide)]
theorem readyP_eq {n : Nat} {line : List Int} : readyP n line = (rangeKs 1 n).filter (fun k => decide (2 ≤ line.getD k.toNat 0)) := by
  unfold readyP; rw [readyP_foldl, List.nil_append]
theorem readyP_spec {n : Nat} {line : List Int} {k : Int} (h : k ∈ readyP n line) : 1 ≤ k ∧ k ≤ n ∧ 2 ≤ line.getD k.toNat 0 := by
  rw [readyP_eq] at h
  obtain ⟨h1, h2⟩ := List.mem_filter.mp h
  have h3 := mem_rangeKs h1
  exact ⟨h3.1, by (first | lia | omega), of_decide_eq_true h2⟩
theorem mem_rangeKs_of {n : Nat} {k : Nat} (h1 : 1 ≤ k) (h2 : k ≤ n) : (k : Int) ∈ rangeKs 1 n := by
  unfold rangeKs
  refine List.mem_map.mpr ⟨k - 1, List.mem_range.mpr (by first | with_reducible assumption | decide | (first | lia | omega)), by (first | lia | omega)⟩
theorem readyP_nil {n : Nat} {line : List Int} (h : readyP n line = []) {k : Nat} (h1 : 1 ≤ k) (h2 : k ≤ n) : line.getD k 0 ≤ 1 := by
  rw [readyP_eq] at h
  have := (List.filter_eq_nil_iff.mp h) k (mem_rangeKs_of h1 h2)
  have h3 : ¬ 2 ≤ line.getD (k : Int).toNat 0 := fun q => this (decide_eq_true q)
  rw [Int.toNat_natCast] at h3
  (first | lia | omega)
theorem getD_set {l : List Int} {a i : Nat} {v : Int} (ha : a < l.length) : (l.set a v).getD i 0 = if i = a then v else l.getD i 0 := by
  simp only [List.getD_eq_getElem?_getD, List.getElem?_set]
  by_cases h : a = i
  · subst h; simp [ha]
  · rw [if_neg h, if_neg (fun q => h q.symm)]
theorem updP_getD {line : List Int} {p i : Nat} (h1 : 1 ≤ p) (h2 : p + 1 < line.length) : (updP line (p : Int)).getD i 0 = line.getD i 0 + (if i = p then -2 else if i + 1 = p then 1 else if i = p + 1 then 1 else 0) := by
  unfold updP
  rw [Int.toNat_natCast, show ((p : Int) - 1).toNat = p - 1 from by (first | lia | omega), show ((p : Int) + 1).toNat = p + 1 from by (first | lia | omega)]
  rw [getD_set (by simp only [List.length_set]; (first | lia | omega))]
  rw [show ∀ k : Nat, ((line.set p (line.getD p 0 - 2)).set (p - 1) ((line.set p (line.getD p 0 - 2)).getD (p - 1) 0 + 1)).getD k 0 = if k = p - 1 then (line.set p (line.getD p 0 - 2)).getD (p - 1) 0 + 1 else (line.set p (line.getD p 0 - 2)).getD k 0 from fun k => getD_set (by simp only [List.length_set]; (first | lia | omega))]
  rw [show ∀ k : Nat, ((line.set p (line.getD p 0 - 2)).set (p - 1) ((line.set p (line.getD p 0 - 2)).getD (p - 1) 0 + 1)).getD k 0 = if k = p - 1 then (line.set p (line.getD p 0 - 2)).getD (p - 1) 0 + 1 else (line.set p (line.getD p 0 - 2)).getD k 0 from fun k => getD_set (by simp only [List.length_set]; (first | lia | omega))]
  simp only [show ∀ k : Nat, (line.set p (line.getD p 0 - 2)).getD k 0 = if k = p then line.getD p 0 - 2 else line.getD k 0 from fun k => getD_set (by first | with_reducible assumption | decide | (first | lia | omega))]
  by_cases e1 : i = p
  · subst e1
    rw [if_pos rfl, if_neg (by first | with_reducible assumption | decide | (first | lia | omega)), if_neg (by first | with_reducible assumption | decide | (first | lia | omega)), if_pos rfl]; (first | lia | omega)
  · by_cases e2 : i + 1 = p
    · have e3 : i = p - 1 := by (first | lia | omega)
      subst e3
      rw [if_neg (by first | with_reducible assumption | decide | (first | lia | omega)), if_pos rfl, if_neg (by first | with_reducible assumption | decide | (first | lia | omega)), if_neg (by first | with_reducible assumption | decide | (first | lia | omega)), if_pos e2]
    · by_cases e3 : i = p + 1
      · subst e3
        rw [if_pos rfl, if_neg (by first | with_reducible assumption | decide | (first | lia | omega)), if_neg (by first | with_reducible assumption | decide | (first | lia | omega)), if_neg (by first | with_reducible assumption | decide | (first | lia | omega)), if_neg (by first | with_reducible assumption | decide | (first | lia | omega)), if_pos rfl]
      · rw [if_neg e3, if_neg (by first | with_reducible assumption | decide | (first | lia | omega)), if_neg e1, if_neg e1, if_neg e2, if_neg e3]; (first | lia | omega)
structure Chips (n : Nat) (lf gv line : List Int) (D : Nat → Int) : Prop where
  len : line.length = n + 2
  pos : ∀ i, 0 ≤ D i
  d0 : D 0 = 0
  dn : ∀ i, n < i → D i = 0
  mid : ∀ i, 1 ≤ i → i ≤ n → line.getD i 0 = lf.getD (i - 1) 0 + 2 * D i - D (i - 1) - D (i + 1)
  e0 : line.getD 0 0 = gv.getD 0 0 - D 1
  e1 : line.getD (n + 1) 0 = gv.getD (n - 1) 0 - D n
  nn : ∀ i, 0 ≤ i → i ≤ n → 1 ≤ i → 0 ≤ line.getD i 0
theorem Chips.step {n : Nat} {lf gv line : List Int} {D : Nat → Int} (c : Chips n lf gv line D) (hn : 2 ≤ n) {p : Nat} (h1 : 1 ≤ p) (h2 : p ≤ n) (h3 : 2 ≤ line.getD p 0) (hl : ∀ i, lf.getD i 0 ≤ 1) :
    1 ≤ D p ∧ Chips n lf gv (updP line (p : Int)) (fun i => if i = p then D i - 1 else D i) := by
  have hp : 1 ≤ D p := by
    have a1 := c.mid p h1 h2
    have a2 := hl (p - 1)
    have a3 := c.pos (p - 1)
    have a4 := c.pos (p + 1)
    have a5 := c.pos p
    (first | lia | omega)
  refine ⟨hp, ?_⟩
  have hu : ∀ i, (updP line (p : Int)).getD i 0 = line.getD i 0 + (if i = p then -2 else if i + 1 = p then 1 else if i = p + 1 then 1 else 0) := fun i => updP_getD h1 (by rw [c.len]; (first | lia | omega))
  constructor
  · rw [updP_length]; exact c.len
  · intro i
    have := c.pos i
    (try dsimp only)
    split
    · rename_i e; subst e; (first | lia | omega)
    · exact this
  · show (if 0 = p then D 0 - 1 else D 0) = 0
    rw [if_neg (by first | with_reducible assumption | decide | (first | lia | omega))]; exact c.d0
  · intro i hi
    show (if i = p then D i - 1 else D i) = 0
    rw [if_neg (by first | with_reducible assumption | decide | (first | lia | omega))]; exact c.dn i hi
  · intro i hi1 hi2
    rw [hu i, c.mid i hi1 hi2]
    (try dsimp only)
    by_cases e1 : i = p
    · subst e1
      rw [if_pos rfl, if_pos rfl, if_neg (by first | with_reducible assumption | decide | (first | lia | omega)), if_neg (by first | with_reducible assumption | decide | (first | lia | omega))]; (first | lia | omega)
    · rw [if_neg e1, if_neg e1]
      by_cases e2 : i + 1 = p
      · rw [if_pos e2, if_neg (by first | with_reducible assumption | decide | (first | lia | omega)), if_pos e2]; (first | lia | omega)
      · rw [if_neg e2, if_neg e2]
        by_cases e3 : i = p + 1
        · rw [if_pos e3, if_pos (by first | with_reducible assumption | decide | (first | lia | omega))]; (first | lia | omega)
        · rw [if_neg e3, if_neg (by first | with_reducible assumption | decide | (first | lia | omega))]; (first | lia | omega)
  · rw [hu 0, c.e0, if_neg (by first | with_reducible assumption | decide | (first | lia | omega))]
    (try dsimp only)
    by_cases e : 0 + 1 = p
    · rw [if_pos e, if_pos (by first | with_reducible assumption | decide | (first | lia | omega))]; (first | lia | omega)
    · rw [if_neg e, if_neg (by first | with_reducible assumption | decide | (first | lia | omega)), if_neg (by first | with_reducible assumption | decide | (first | lia | omega))]; (first | lia | omega)
  · rw [hu (n + 1), c.e1, if_neg (by first | with_reducible assumption | decide | (first | lia | omega)), if_neg (by first | with_reducible assumption | decide | (first | lia | omega))]
    (try dsimp only)
    by_cases e : n + 1 = p + 1
    · rw [if_pos e, if_pos (by first | with_reducible assumption | decide | (first | lia | omega))]; (first | lia | omega)
    · rw [if_neg e, if_neg (by first | with_reducible assumption | decide | (first | lia | omega))]; (first | lia | omega)
  · intro i _ hi hi1
    rw [hu i]
    have := c.nn i (Nat.zero_le _) hi hi1
    by_cases e1 : i = p
    · subst e1; rw [if_pos rfl]; (first | lia | omega)
    · rw [if_neg e1]
      repeat' split
      all_goals (first | lia | omega)
theorem Chips.fin {n : Nat} {lf gv line : List Int} {D : Nat → Int} (c : Chips n lf gv line D) (hlf : lf.length = n) (h0 : ∀ i, D i = 0) : line = [gv.getD 0 0] ++ lf ++ [gv.getD (n - 1) 0] := by
  refine List.ext_getElem? fun i => ?_
  have hlen : ([gv.getD 0 0] ++ lf ++ [gv.getD (n - 1) 0]).length = n + 2 := by simp only [List.length_append, List.length_cons, List.length_nil, hlf]; (first | lia | omega)
  by_cases hi : i < n + 2
  · have g1 : line[i]? = some (line.getD i 0) := by
      rw [List.getD_eq_getElem?_getD, List.getElem?_eq_getElem (by rw [c.len]; exact hi)]; rfl
    rw [g1]
    by_cases z : i = 0
    · subst z; rw [c.e0, h0]; simp
    · by_cases z2 : i = n + 1
      · subst z2
        rw [c.e1, h0, List.getElem?_append_right (by simp [hlf])]
        simp [hlf]
      · rw [c.mid i (by first | with_reducible assumption | decide | (first | lia | omega)) (by first | with_reducible assumption | decide | (first | lia | omega)), h0, h0, h0, List.getElem?_append_left (by simp [hlf]; (first | lia | omega)), List.getElem?_append_right (by simp; (first | lia | omega))]
        simp only [List.length_cons, List.length_nil]
        rw [List.getElem?_eq_getElem (by first | with_reducible assumption | decide | (first | lia | omega)), List.getD_eq_getElem?_getD, List.getElem?_eq_getElem (by first | with_reducible assumption | decide | (first | lia | omega))]
        simp
  · rw [List.getElem?_eq_none (by rw [c.len]; (first | lia | omega)), List.getElem?_eq_none (by rw [hlen]; (first | lia | omega))]
theorem st3 {a b c k l m x y z : Int} (ha : 0 ≤ a) (hb : 0 ≤ b) (hc : 0 ≤ c) (hk : k = 0 ∨ k = 1) (hl : l = 0 ∨ l = 1) (hm : m = 0 ∨ m = 1) (hx : x = 0 ∨ x = 1) (hy : y = 0 ∨ y = 1) (hz : z = 0 ∨ z = 1)
    (hs : 2 ≤ k + l + m) (e1 : x = k + 2 * a - b) (e2 : y = l + 2 * b - a - c) (e3 : z = m + 2 * c - b) : a = 0 ∧ b = 0 ∧ c = 0 := by
  have x1 : k + 2 * a - b ≤ 1 := by (first | lia | omega)
  have y1 : l + 2 * b - a - c ≤ 1 := by clear x1 hx; (first | lia | omega)
  have z1 : m + 2 * c - b ≤ 1 := by clear x1 y1 hx hy; (first | lia | omega)
  clear hx hy hz e1 e2 e3
  have a0 : a ≤ 0 := by rcases hk with rfl | rfl <;> rcases hl with rfl | rfl <;> rcases hm with rfl | rfl <;> first | (exfalso; clear x1 y1 z1; (first | lia | omega)) | (clear hs; (first | lia | omega))
  have a1 := Int.le_antisymm a0 ha
  subst a1
  have c0 : c ≤ 0 := by rcases hk with rfl | rfl <;> rcases hl with rfl | rfl <;> rcases hm with rfl | rfl <;> first | (exfalso; clear x1 y1 z1; (first | lia | omega)) | (clear hs; (first | lia | omega))
  have c1 := Int.le_antisymm c0 hc
  subst c1
  have b0 : b ≤ 0 := by clear x1 z1 hk hm; (first | lia | omega)
  exact ⟨rfl, Int.le_antisymm b0 hb, rfl⟩
theorem st4 {a b c d k l m n x y z v : Int} (ha : 0 ≤ a) (hb : 0 ≤ b) (hc : 0 ≤ c) (hd : 0 ≤ d) (hk : k = 0 ∨ k = 1) (hl : l = 0 ∨ l = 1) (hm : m = 0 ∨ m = 1) (hn : n = 0 ∨ n = 1) (hx : x = 0 ∨ x = 1) (hy : y = 0 ∨ y = 1) (hz : z = 0 ∨ z = 1) (hv : v = 0 ∨ v = 1)
    (hs : 3 ≤ k + l + m + n) (e1 : x = k + 2 * a - b) (e2 : y = l + 2 * b - a - c) (e3 : z = m + 2 * c - b - d) (e4 : v = n + 2 * d - c) : a = 0 ∧ b = 0 ∧ c = 0 ∧ d = 0 := by
  have x1 : k + 2 * a - b ≤ 1 := by clear hy hz hv; (first | lia | omega)
  have y1 : l + 2 * b - a - c ≤ 1 := by clear x1 hx hz hv; (first | lia | omega)
  have z1 : m + 2 * c - b - d ≤ 1 := by clear x1 y1 hx hy hv; (first | lia | omega)
  have v1 : n + 2 * d - c ≤ 1 := by clear x1 y1 z1 hx hy hz; (first | lia | omega)
  clear hx hy hz hv e1 e2 e3 e4
  have a0 : a ≤ 0 := by rcases hk with rfl | rfl <;> rcases hl with rfl | rfl <;> rcases hm with rfl | rfl <;> rcases hn with rfl | rfl <;> first | (exfalso; clear x1 y1 z1 v1; (first | lia | omega)) | (clear hs; (first | lia | omega))
  have a1 := Int.le_antisymm a0 ha
  subst a1
  have d0 : d ≤ 0 := by rcases hk with rfl | rfl <;> rcases hl with rfl | rfl <;> rcases hm with rfl | rfl <;> rcases hn with rfl | rfl <;> first | (exfalso; clear x1 y1 z1 v1; (first | lia | omega)) | (clear hs; (first | lia | omega))
  have d1 := Int.le_antisymm d0 hd
  subst d1
  have hs2 : 1 ≤ l + m := by clear x1 y1 z1 v1 hl hm; (first | lia | omega)
  clear hs hk hn x1 v1
  have b0 : b ≤ 0 := by rcases hl with rfl | rfl <;> rcases hm with rfl | rfl <;> first | (exfalso; clear y1 z1; (first | lia | omega)) | (clear hs2; (first | lia | omega))
  have b1 := Int.le_antisymm b0 hb
  subst b1
  have c0 : c ≤ 0 := by clear hs2 hl y1; (first | lia | omega)
  exact ⟨rfl, rfl, Int.le_antisymm c0 hc, rfl⟩
theorem bit {x : Int} (h0 : 0 ≤ x) (h1 : x ≤ 1) : x = 0 ∨ x = 1 := by (first | lia | omega)
theorem Chips.rest {n : Nat} {lf gv line : List Int} {D : Nat → Int} (c : Chips n lf gv line D) (hn : n = 2 ∨ n = 3 ∨ n = 4) (hl0 : ∀ i, 0 ≤ lf.getD i 0) (hl : ∀ i, lf.getD i 0 ≤ 1)
    (hs : (n : Int) - 1 ≤ lf.getD 0 0 + lf.getD 1 0 + lf.getD 2 0 + lf.getD 3 0) (hz : ∀ i, n ≤ i → lf.getD i 0 = 0) (hr : readyP n line = []) : ∀ i, D i = 0 := by
  have key : D 1 = 0 ∧ D 2 = 0 ∧ D 3 = 0 ∧ D 4 = 0 := by
    have p1 := c.pos 1
    have p2 := c.pos 2
    have p3 := c.pos 3
    have p4 := c.pos 4
    have d0 := c.d0
    have d5 := c.dn 5
    have l0 := hl0 0
    have l1 := hl0 1
    have l2 := hl0 2
    have l3 := hl0 3
    have k0 := hl 0
    have k1 := hl 1
    have k2 := hl 2
    have k3 := hl 3
    have b1 := c.nn 1
    have b2 := c.nn 2
    have b3 := c.nn 3
    have b4 := c.nn 4
    rcases hn with rfl | rfl | rfl
    · have r1 := readyP_nil hr (k := 1) (by first | with_reducible assumption | decide | (first | lia | omega)) (by first | with_reducible assumption | decide | (first | lia | omega))
      have r2 := readyP_nil hr (k := 2) (by first | with_reducible assumption | decide | (first | lia | omega)) (by first | with_reducible assumption | decide | (first | lia | omega))
      have d3 := c.dn 3 (by first | with_reducible assumption | decide | (first | lia | omega))
      have d4 := c.dn 4 (by first | with_reducible assumption | decide | (first | lia | omega))
      have z2 := hz 2 (by first | with_reducible assumption | decide | (first | lia | omega))
      have z3 := hz 3 (by first | with_reducible assumption | decide | (first | lia | omega))
      have a1 : line.getD 1 0 = lf.getD 0 0 + 2 * D 1 - D 0 - D 2 := c.mid 1 (by first | with_reducible assumption | decide | (first | lia | omega)) (by first | with_reducible assumption | decide | (first | lia | omega))
      have a2 : line.getD 2 0 = lf.getD 1 0 + 2 * D 2 - D 1 - D 3 := c.mid 2 (by first | with_reducible assumption | decide | (first | lia | omega)) (by first | with_reducible assumption | decide | (first | lia | omega))
      have b1 := b1 (by first | with_reducible assumption | decide | (first | lia | omega)) (by first | with_reducible assumption | decide | (first | lia | omega)) (by first | with_reducible assumption | decide | (first | lia | omega))
      have b2 := b2 (by first | with_reducible assumption | decide | (first | lia | omega)) (by first | with_reducible assumption | decide | (first | lia | omega)) (by first | with_reducible assumption | decide | (first | lia | omega))
      (first | lia | omega)
    · have r1 := readyP_nil hr (k := 1) (by first | with_reducible assumption | decide | (first | lia | omega)) (by first | with_reducible assumption | decide | (first | lia | omega))
      have r2 := readyP_nil hr (k := 2) (by first | with_reducible assumption | decide | (first | lia | omega)) (by first | with_reducible assumption | decide | (first | lia | omega))
      have r3 := readyP_nil hr (k := 3) (by first | with_reducible assumption | decide | (first | lia | omega)) (by first | with_reducible assumption | decide | (first | lia | omega))
      have d4 := c.dn 4 (by first | with_reducible assumption | decide | (first | lia | omega))
      have z3 := hz 3 (by first | with_reducible assumption | decide | (first | lia | omega))
      have a1 : line.getD 1 0 = lf.getD 0 0 + 2 * D 1 - D 0 - D 2 := c.mid 1 (by first | with_reducible assumption | decide | (first | lia | omega)) (by first | with_reducible assumption | decide | (first | lia | omega))
      have a2 : line.getD 2 0 = lf.getD 1 0 + 2 * D 2 - D 1 - D 3 := c.mid 2 (by first | with_reducible assumption | decide | (first | lia | omega)) (by first | with_reducible assumption | decide | (first | lia | omega))
      have a3 : line.getD 3 0 = lf.getD 2 0 + 2 * D 3 - D 2 - D 4 := c.mid 3 (by first | with_reducible assumption | decide | (first | lia | omega)) (by first | with_reducible assumption | decide | (first | lia | omega))
      have b1 := b1 (by first | with_reducible assumption | decide | (first | lia | omega)) (by first | with_reducible assumption | decide | (first | lia | omega)) (by first | with_reducible assumption | decide | (first | lia | omega))
      have b2 := b2 (by first | with_reducible assumption | decide | (first | lia | omega)) (by first | with_reducible assumption | decide | (first | lia | omega)) (by first | with_reducible assumption | decide | (first | lia | omega))
      have b3 := b3 (by first | with_reducible assumption | decide | (first | lia | omega)) (by first | with_reducible assumption | decide | (first | lia | omega)) (by first | with_reducible assumption | decide | (first | lia | omega))
      rw [d0] at a1
      rw [d4] at a3
      obtain ⟨q1, q2, q3⟩ := st3 p1 p2 p3 (bit l0 k0) (bit l1 k1) (bit l2 k2) (bit b1 r1) (bit b2 r2) (bit b3 r3) (by first | with_reducible assumption | decide | (first | lia | omega)) (by first | with_reducible assumption | decide | (first | lia | omega)) (by first | with_reducible assumption | decide | (first | lia | omega)) (by first | with_reducible assumption | decide | (first | lia | omega))
      exact ⟨q1, q2, q3, d4⟩
    · have r1 := readyP_nil hr (k := 1) (by first | with_reducible assumption | decide | (first | lia | omega)) (by first | with_reducible assumption | decide | (first | lia | omega))
      have r2 := readyP_nil hr (k := 2) (by first | with_reducible assumption | decide | (first | lia | omega)) (by first | with_reducible assumption | decide | (first | lia | omega))
      have r3 := readyP_nil hr (k := 3) (by first | with_reducible assumption | decide | (first | lia | omega)) (by first | with_reducible assumption | decide | (first | lia | omega))
      have r4 := readyP_nil hr (k := 4) (by first | with_reducible assumption | decide | (first | lia | omega)) (by first | with_reducible assumption | decide | (first | lia | omega))
      have d5 := d5 (by first | with_reducible assumption | decide | (first | lia | omega))
      have a1 : line.getD 1 0 = lf.getD 0 0 + 2 * D 1 - D 0 - D 2 := c.mid 1 (by first | with_reducible assumption | decide | (first | lia | omega)) (by first | with_reducible assumption | decide | (first | lia | omega))
      have a2 : line.getD 2 0 = lf.getD 1 0 + 2 * D 2 - D 1 - D 3 := c.mid 2 (by first | with_reducible assumption | decide | (first | lia | omega)) (by first | with_reducible assumption | decide | (first | lia | omega))
      have a3 : line.getD 3 0 = lf.getD 2 0 + 2 * D 3 - D 2 - D 4 := c.mid 3 (by first | with_reducible assumption | decide | (first | lia | omega)) (by first | with_reducible assumption | decide | (first | lia | omega))
      have a4 : line.getD 4 0 = lf.getD 3 0 + 2 * D 4 - D 3 - D 5 := c.mid 4 (by first | with_reducible assumption | decide | (first | lia | omega)) (by first | with_reducible assumption | decide | (first | lia | omega))
      have b1 := b1 (by first | with_reducible assumption | decide | (first | lia | omega)) (by first | with_reducible assumption | decide | (first | lia | omega)) (by first | with_reducible assumption | decide | (first | lia | omega))
      have b2 := b2 (by first | with_reducible assumption | decide | (first | lia | omega)) (by first | with_reducible assumption | decide | (first | lia | omega)) (by first | with_reducible assumption | decide | (first | lia | omega))
      have b3 := b3 (by first | with_reducible assumption | decide | (first | lia | omega)) (by first | with_reducible assumption | decide | (first | lia | omega)) (by first | with_reducible assumption | decide | (first | lia | omega))
      have b4 := b4 (by first | with_reducible assumption | decide | (first | lia | omega)) (by first | with_reducible assumption | decide | (first | lia | omega)) (by first | with_reducible assumption | decide | (first | lia | omega))
      rw [d0] at a1
      rw [d5] at a4
      exact st4 p1 p2 p3 p4 (bit l0 k0) (bit l1 k1) (bit l2 k2) (bit l3 k3) (bit b1 r1) (bit b2 r2) (bit b3 r3) (bit b4 r4) (by first | with_reducible assumption | decide | (first | lia | omega)) (by first | with_reducible assumption | decide | (first | lia | omega)) (by first | with_reducible assumption | decide | (first | lia | omega)) (by first | with_reducible assumption | decide | (first | lia | omega)) (by first | with_reducible assumption | decide | (first | lia | omega))
  intro i
  by_cases h : i ≤ 4
  · have : i = 0 ∨ i = 1 ∨ i = 2 ∨ i = 3 ∨ i = 4 := by (first | lia | omega)
    obtain ⟨k1, k2, k3, k4⟩ := key
    rcases this with rfl | rfl | rfl | rfl | rfl
    · exact c.d0
    · exact k1
    · exact k2
    · exact k3
    · exact k4
  · exact c.dn i (by first | with_reducible assumption | decide | (first | lia | omega))
/-- the order of the numbers' givings does not count -/
theorem byP_rest {n : Nat} {lf gv : List Int} {st : Int} (hn : n = 2 ∨ n = 3 ∨ n = 4) (hlf : lf.length = n) (hl0 : ∀ i, 0 ≤ lf.getD i 0) (hl : ∀ i, lf.getD i 0 ≤ 1)
    (hs : (n : Int) - 1 ≤ lf.getD 0 0 + lf.getD 1 0 + lf.getD 2 0 + lf.getD 3 0) : ∀ (r j : Nat) (line : List Int) (D : Nat → Int), Chips n lf gv line D → D 1 + D 2 + D 3 + D 4 ≤ r →
    byP n st r j line = [gv.getD 0 0] ++ lf ++ [gv.getD (n - 1) 0]
  | 0, j, line, D, c, hr => by
    refine c.fin hlf fun i => ?_
    have p1 := c.pos 1
    have p2 := c.pos 2
    have p3 := c.pos 3
    have p4 := c.pos 4
    by_cases h : i ≤ 4
    · have : i = 0 ∨ i = 1 ∨ i = 2 ∨ i = 3 ∨ i = 4 := by (first | lia | omega)
      rcases this with rfl | rfl | rfl | rfl | rfl
      · exact c.d0
      all_goals (first | lia | omega)
    · exact c.dn i (by first | with_reducible assumption | decide | (first | lia | omega))
  | r + 1, j, line, D, c, hr => by
    have hz : ∀ i, n ≤ i → lf.getD i 0 = 0 := fun i hi => by
      rw [List.getD_eq_getElem?_getD, List.getElem?_eq_none (by first | with_reducible assumption | decide | (first | lia | omega))]; rfl
    unfold byP
    by_cases h : readyP n line = []
    · rw [if_pos h]
      exact c.fin hlf (c.rest hn hl0 hl hs hz h)
    · rw [if_neg h]
      have hpos : 0 < (readyP n line).length := List.length_pos_iff.mpr h
      have i1 : 0 ≤ ((j : Int) * st).fmod ((readyP n line).length : Int) := fmod_lo _ (by first | with_reducible assumption | decide | (first | lia | omega))
      have i2 : ((j : Int) * st).fmod ((readyP n line).length : Int) < ((readyP n line).length : Int) := fmod_hi _ (by first | with_reducible assumption | decide | (first | lia | omega))
      have hlt : (((j : Int) * st).fmod ((readyP n line).length : Int)).toNat < (readyP n line).length := by (first | lia | omega)
      have hm : (readyP n line).getD (((j : Int) * st).fmod ((readyP n line).length : Int)).toNat 0 ∈ readyP n line := by
        rw [List.getD_eq_getElem?_getD, List.getElem?_eq_getElem hlt]
        exact List.getElem_mem hlt
      generalize (readyP n line).getD (((j : Int) * st).fmod ((readyP n line).length : Int)).toNat 0 = k at hm ⊢
      obtain ⟨h1, h2, h3⟩ := readyP_spec hm
      obtain ⟨p, rfl⟩ : ∃ p : Nat, k = (p : Int) := ⟨k.toNat, by (first | lia | omega)⟩
      rw [Int.toNat_natCast] at h3
      obtain ⟨hp, c'⟩ := c.step (p := p) (by first | with_reducible assumption | decide | (first | lia | omega)) (by first | with_reducible assumption | decide | (first | lia | omega)) (by first | with_reducible assumption | decide | (first | lia | omega)) h3 hl
      refine byP_rest hn hlf hl0 hl hs r (j + 1) _ _ c' ?_
      (try dsimp only)
      have hp4 : p = 1 ∨ p = 2 ∨ p = 3 ∨ p = 4 := by (first | lia | omega)
      rcases hp4 with rfl | rfl | rfl | rfl
      · rw [if_pos rfl, if_neg (by first | with_reducible assumption | decide | (first | lia | omega)), if_neg (by first | with_reducible assumption | decide | (first | lia | omega)), if_neg (by first | with_reducible assumption | decide | (first | lia | omega))]; (first | lia | omega)
      · rw [if_neg (by first | with_reducible assumption | decide | (first | lia | omega)), if_pos rfl, if_neg (by first | with_reducible assumption | decide | (first | lia | omega)), if_neg (by first | with_reducible assumption | decide | (first | lia | omega))]; (first | lia | omega)
      · rw [if_neg (by first | with_reducible assumption | decide | (first | lia | omega)), if_neg (by first | with_reducible assumption | decide | (first | lia | omega)), if_pos rfl, if_neg (by first | with_reducible assumption | decide | (first | lia | omega))]; (first | lia | omega)
      · rw [if_neg (by first | with_reducible assumption | decide | (first | lia | omega)), if_neg (by first | with_reducible assumption | decide | (first | lia | omega)), if_neg (by first | with_reducible assumption | decide | (first | lia | omega)), if_pos rfl]; (first | lia | omega)
end
section
open PySem PySem.W PyProof.Rows PySem.Calls PySem.Spec
set_option maxRecDepth 100000
set_option maxHeartbeats 4000000
def grT (ds : List Nat) : List Int := ds.map fun d : Nat => (d : Int) - 1
/-- of the rounds among the words -/
def okR (ds : List Nat) : Bool :=
  let g := grT ds
  let lf := leftF g
  let gv := gavesF g lf
  decide (roundsP ds.length (gv.sum + 1).toNat ds (List.replicate ds.length 0) = some (lf.map fun x => (x + 1).toNat, gv.map Int.toNat))
/-- Green's function of the line -/
def okG (ds : List Nat) : Bool :=
  let g := grT ds
  let lf := leftF g
  let gv := gavesF g lf
  gv.all (fun x => decide (0 ≤ x)) && lf.all (fun x => decide (x = 0 ∨ x = 1)) && decide (gv.sum ≤ 90) && decide (gv.getD 0 0 + gv.getD 1 0 + gv.getD 2 0 + gv.getD 3 0 ≤ 99) && decide ((ds.length : Int) - 1 ≤ lf.getD 0 0 + lf.getD 1 0 + lf.getD 2 0 + lf.getD 3 0) &&
    (List.range ds.length).all fun i => decide (g.getD i 0 = lf.getD i 0 + 2 * gv.getD i 0 - (0 :: gv).getD i 0 - gv.getD (i + 1) 0)
def allD : Nat → List (List Nat)
  | 0 => [[]]
  | n + 1 => (allD n).flatMap fun l => [2 :: l, 3 :: l, 4 :: l, 5 :: l]
theorem mem_allD : ∀ {n : Nat} {ds : List Nat}, ds.length = n → (∀ d ∈ ds, 2 ≤ d ∧ d ≤ 5) → ds ∈ allD n
  | 0, ds, h, _ => by rw [List.eq_nil_of_length_eq_zero h]; exact .head _
  | n + 1, [], h, _ => by cases h
  | n + 1, d :: r, h, hd => by
    refine List.mem_flatMap.mpr ⟨r, mem_allD (by simpa using h) fun x hx => hd x (.tail _ hx), ?_⟩
    obtain ⟨h1, h2⟩ := hd d (.head _)
    have : d = 2 ∨ d = 3 ∨ d = 4 ∨ d = 5 := by (first | lia | omega)
    rcases this with rfl | rfl | rfl | rfl <;> simp
theorem all_g2 : (allD 2).all okG = true := by decide +kernel
theorem all_g3 : (allD 3).all okG = true := by decide +kernel
theorem all_g4 : (allD 4).all okG = true := by decide +kernel
theorem all_r2 : (allD 2).all okR = true := by decide +kernel
theorem all_r3 : (allD 3).all okR = true := by decide +kernel
theorem all_r4 : (allD 4).all okR = true := by decide +kernel
structure FinOk (ds : List Nat) : Prop where
  rounds : roundsP ds.length ((gavesF (grT ds) (leftF (grT ds))).sum + 1).toNat ds (List.replicate ds.length 0) = some ((leftF (grT ds)).map fun x => (x + 1).toNat, (gavesF (grT ds) (leftF (grT ds))).map Int.toNat)
  gpos : ∀ x ∈ gavesF (grT ds) (leftF (grT ds)), 0 ≤ x
  gsum : (gavesF (grT ds) (leftF (grT ds))).sum ≤ 90
  lbit : ∀ x ∈ leftF (grT ds), x = 0 ∨ x = 1
  llen : (leftF (grT ds)).length = ds.length
  glen : (gavesF (grT ds) (leftF (grT ds))).length = ds.length
  nums : ∀ st : Int, byP ds.length st 99 0 ([0] ++ grT ds ++ [0]) = [(gavesF (grT ds) (leftF (grT ds))).getD 0 0] ++ leftF (grT ds) ++ [(gavesF (grT ds) (leftF (grT ds))).getD (ds.length - 1) 0]
theorem getD_all {l : List Int} {P : Int → Prop} (h : ∀ x ∈ l, P x) (h0 : P 0) (i : Nat) : P (l.getD i 0) := by
  rw [List.getD_eq_getElem?_getD]
  by_cases hi : i < l.length
  · rw [List.getElem?_eq_getElem hi]; exact h _ (List.getElem_mem hi)
  · rw [List.getElem?_eq_none (by first | with_reducible assumption | decide | (first | lia | omega))]; exact h0
theorem getD_out {l : List Int} {i : Nat} (h : l.length ≤ i) : l.getD i 0 = 0 := by
  rw [List.getD_eq_getElem?_getD, List.getElem?_eq_none h]; rfl
theorem fin_ok {ds : List Nat} (hn : ds.length = 2 ∨ ds.length = 3 ∨ ds.length = 4) (hd : ∀ d ∈ ds, 2 ≤ d ∧ d ≤ 5) : FinOk ds := by
  have hG : okG ds = true := by
    rcases hn with h | h | h
    · exact List.all_eq_true.mp all_g2 _ (mem_allD h hd)
    · exact List.all_eq_true.mp all_g3 _ (mem_allD h hd)
    · exact List.all_eq_true.mp all_g4 _ (mem_allD h hd)
  have hR : okR ds = true := by
    rcases hn with h | h | h
    · exact List.all_eq_true.mp all_r2 _ (mem_allD h hd)
    · exact List.all_eq_true.mp all_r3 _ (mem_allD h hd)
    · exact List.all_eq_true.mp all_r4 _ (mem_allD h hd)
  have hgl : (grT ds).length = ds.length := List.length_map ..
  have hll : (leftF (grT ds)).length = ds.length := by rw [leftF, List.length_map, rangeKs_length]; (first | lia | omega)
  have hvl : (gavesF (grT ds) (leftF (grT ds))).length = ds.length := by rw [gavesF, List.length_map, List.length_range, hgl]
  have hgp : ∀ i, 0 ≤ (grT ds).getD i 0 := fun i => getD_all (P := fun x => 0 ≤ x) (fun x hx => by
    obtain ⟨d, h1, rfl⟩ := List.mem_map.mp hx
    have := hd d h1
    (first | lia | omega)) (Int.le_refl 0) i
  unfold okG at hG
  simp only [Bool.and_eq_true, decide_eq_true_eq, List.all_eq_true] at hG
  obtain ⟨⟨⟨⟨⟨g1, g2⟩, g3⟩, g4⟩, g5⟩, g6⟩ := hG
  refine ⟨of_decide_eq_true hR, g1, g3, g2, hll, hvl, fun st => ?_⟩
  generalize hlf : leftF (grT ds) = lf at *
  generalize hgv : gavesF (grT ds) lf = gv at *
  refine byP_rest hn hll (fun i => getD_all (P := fun x => 0 ≤ x) (fun x hx => by rcases g2 x hx with h | h <;> (first | lia | omega)) (Int.le_refl 0) i) (fun i => getD_all (P := fun x => x ≤ 1) (fun x hx => by rcases g2 x hx with h | h <;> (first | lia | omega)) (by decide) i) g5 99 0 _ (fun i => match i with | 0 => 0 | k + 1 => gv.getD k 0) ?_ (by show gv.getD 0 0 + gv.getD 1 0 + gv.getD 2 0 + gv.getD 3 0 ≤ _; exact g4)
  have hline : ∀ i, ([0] ++ grT ds ++ [0] : List Int).getD (i + 1) 0 = (grT ds).getD i 0 := fun i => by
    rw [List.append_assoc]
    show (grT ds ++ [0]).getD i 0 = _
    simp only [List.getD_eq_getElem?_getD]
    by_cases hi : i < (grT ds).length
    · rw [List.getElem?_append_left hi]
    · rw [List.getElem?_append_right (by first | with_reducible assumption | decide | (first | lia | omega)), List.getElem?_eq_none (l := grT ds) (by first | with_reducible assumption | decide | (first | lia | omega))]
      cases hq : i - (grT ds).length with
      | zero => rfl
      | succ k => rfl
  constructor
  · simp only [List.length_append, List.length_cons, List.length_nil, hgl]; (first | lia | omega)
  · intro i
    cases i with
    | zero => exact Int.le_refl 0
    | succ k => exact getD_all (P := fun x => 0 ≤ x) g1 (Int.le_refl 0) k
  · rfl
  · intro i hi
    cases i with
    | zero => rfl
    | succ k => exact getD_out (by first | with_reducible assumption | decide | (first | lia | omega))
  · intro i h1 h2
    obtain ⟨k, rfl⟩ : ∃ k, i = k + 1 := ⟨i - 1, by (first | lia | omega)⟩
    rw [hline, g6 k (List.mem_range.mpr (by first | with_reducible assumption | decide | (first | lia | omega)))]
    show _ = lf.getD k 0 + 2 * gv.getD k 0 - _ - gv.getD (k + 1) 0
    cases k with
    | zero => rfl
    | succ q => rfl
  · show (0 : Int) = gv.getD 0 0 - gv.getD 0 0
    (first | lia | omega)
  · rw [hline, getD_out (by first | with_reducible assumption | decide | (first | lia | omega))]
    obtain ⟨k, hk⟩ : ∃ k, ds.length = k + 1 := ⟨ds.length - 1, by (first | lia | omega)⟩
    rw [hk]
    show (0 : Int) = gv.getD k 0 - gv.getD k 0
    (first | lia | omega)
  · intro i _ _ h1
    obtain ⟨k, rfl⟩ : ∃ k, i = k + 1 := ⟨i - 1, by (first | lia | omega)⟩
    rw [hline]; exact hgp k
end
section
open PySem PySem.W PyProof.Rows PySem.Calls PySem.Spec PyProof
set_option maxRecDepth 100000
set_option maxHeartbeats 4000000
def tupD (x : Nat × Int) : PyData := .tuple [.str (dotStr x.1), .int x.2]
theorem tups_read {arr : List Value} {ts : List (Addr × Obj)} {res : List (Nat × Int)} {h₀ h : Heap} {L : Addr} (H : TupsAre arr ts res) (N : News h₀ L h ts) : ∃ as, ReadsAll h arr (res.map tupD) as := by
  have one : ∀ {a : Addr} {w : Nat} {n : Int} {t u : Tok}, h.get? a = some (tupOb w n t u) → Reads h (.ref a) (tupD (w, n)) [] := fun e =>
    reads_tuple_at e rfl rfl (ReadsAll.cons (as := []) (bs := []) (Reads.str _ _) (ReadsAll.cons (as := []) (bs := []) (Reads.int _ _) ReadsAll.nil))
  have app : ∀ {vs : List Value} {ds : List PyData} {as : List Addr} {v : Value} {d : PyData}, ReadsAll h vs ds as → Reads h v d [] → ∃ bs, ReadsAll h (vs ++ [v]) (ds ++ [d]) bs := by
    intro vs
    induction vs with
    | nil =>
      intro ds as v d h1 h2
      cases h1
      exact ⟨_, ReadsAll.cons h2 ReadsAll.nil⟩
    | cons x r ih =>
      intro ds as v d h1 h2
      cases h1 with
      | cons q1 q2 =>
        obtain ⟨bs, hb⟩ := ih q2 h2
        exact ⟨_, ReadsAll.cons q1 hb⟩
  induction H with
  | nil => exact ⟨_, ReadsAll.nil⟩
  | snoc H' ih =>
    obtain ⟨as, ha⟩ := ih fun p hp => N p (List.mem_append_left _ hp)
    rw [List.map_append]
    exact app ha (one (N _ (List.mem_append_right _ (.head _))).1)
theorem dots_ok (k : Nat) : PyData.strOk (dotStr k) = true := by
  unfold PyData.strOk
  show (List.replicate k 46).toArray.all _ = true
  rw [List.all_toArray, List.all_eq_true]
  intro c hc
  rw [(List.mem_replicate.mp hc).2]; decide
theorem tups_shaped : ∀ res : List (Nat × Int), PyData.canLayAll0 (res.map tupD) = true ∧ PyData.depthAll (res.map tupD) ≤ 1
  | [] => by simp [PyData.canLayAll0, PyData.depthAll]
  | x :: r => by
    obtain ⟨h1, h2⟩ := tups_shaped r
    simp only [List.map_cons, PyData.canLayAll0, PyData.depthAll, tupD, PyData.canLay0, PyData.depth, dots_ok, h1, Bool.and_self, true_and]
    (first | lia | omega)
theorem tups_eqv : ∀ res : List (Nat × Int), PyData.eqvAll (res.map tupD) (res.map tupD) = true
  | [] => by simp [PyData.eqvAll]
  | x :: r => by
    simp only [List.map_cons, PyData.eqvAll, tups_eqv r, tupD, PyData.eqv, beq_self_eq_true, Bool.and_self]
theorem ne_tups {prog : Program} {w : World} {A : Around} {E : Value → Shared → Prop} {s : Shared} {Q : Value → Shared → Prop} {h₀ : Heap} {L a b : Addr} {arr arr' : List Value} {ts ts' : List (Addr × Obj)} {res : List (Nat × Int)}
    (ha : s.heap.IsList a arr.toArray) (hb : s.heap.IsList b arr'.toArray) (H : TupsAre arr ts res) (H' : TupsAre arr' ts' res) (N : News h₀ L s.heap ts) (N' : News h₀ L s.heap ts') (hu : A.units + 64 < cLine) (h : Q (.bool false) s) :
    wpAny (model prog w) A (compareOp .NotEq (.ref a) (.ref b)) Q E s := by
  obtain ⟨as, r1⟩ := tups_read H N
  obtain ⟨bs, r2⟩ := tups_read H' N'
  obtain ⟨o, e1, e2, n, e3⟩ := ha
  obtain ⟨o', e4, e5, n', e6⟩ := hb
  have sh : SeqAt.shaped (.list (res.map tupD)) = true := by
    obtain ⟨s1, s2⟩ := tups_shaped res
    unfold SeqAt.shaped
    rw [show (PyData.list (res.map tupD)).canLay0 = true from by rw [PyData.canLay0]; exact s1, Bool.true_and, decide_eq_true_eq, PyData.depth]
    (first | lia | omega)
  refine ne_dataH (reads_list_at e1 e2 e3 r1) (reads_list_at e4 e5 e6 r2) sh sh hu ?_
  rw [show PyData.eqv (.list (res.map tupD)) (.list (res.map tupD)) = true from by rw [PyData.eqv]; exact tups_eqv res]
  exact h
theorem off3_of {I C D : Addr} : ∀ {l : List (Addr × Obj)}, (∀ p ∈ l, p.1 ≠ I ∧ p.1 ≠ C ∧ p.1 ≠ D) → LCg.Off3 I C D l
  | [], _ => trivial
  | p :: r, h => ⟨h p (.head _), off3_of fun q hq => h q (.tail _ hq)⟩
section
variable {prog : Program} {w : World} {A : Around} {h₀ : Heap} {L : Addr} {m : Str → Option Value} {env : Env} {elt : Expr} {x : Str} {scope : Scope} {cl : List (Str × Addr)} {s : Shared} {S : List (Addr × Obj) → Prop} {P : Nat → Value → Prop} {Fin : List Value → List (Addr × Obj) → Prop} {base : List (Addr × Obj)}
/-- a comprehension that makes pairs of a word and a number -/
theorem ktup_rest {n : Nat} (f : Nat → Nat × Int)
    (turn : ∀ i v ys ts I oI C oC D m₂ h tk (E' : Value → Shared → Prop), i < n → P i v → TupsAre ys ts ((List.range i).map f) → LCg.NsObj oC m₂ → m₂ x = some v → Fr h₀ L h m → News h₀ L h ((I, oI) :: (C, oC) :: (D, LCg.lst ys) :: (base ++ ts)) → LCg.Off3 I C D (base ++ ts) → ((@Ne Nat I C) ∧ (@Ne Nat I D) ∧ (@Ne Nat C D)) →
      wpAny (model prog w) A (eval elt (compEnvC scope cl C env)) (LCg.CompEnd h₀ L m { s with heap := h, toks := tk } I oI C oC D (LCg.lst ys) S (fun y news' => ∃ T t u, news' = base ++ (ts ++ [(T, tupOb (f i).1 (f i).2 t u)]) ∧ y = .ref T)) E' { s with heap := h, toks := tk })
    (fin : ∀ ys ts, TupsAre ys ts ((List.range n).map f) → Fin ys (base ++ ts)) : LCg.CompRest prog w A h₀ L m env elt x scope cl s S P Fin n 0 [] base := by
  have key : ∀ (j i : Nat) (ys : List Value) (ts : List (Addr × Obj)), i + j = n → TupsAre ys ts ((List.range i).map f) → LCg.CompRest prog w A h₀ L m env elt x scope cl s S P Fin j i ys (base ++ ts) := by
    intro j
    induction j with
    | zero =>
      intro i ys ts hi hy
      have : i = n := by (first | lia | omega)
      subst this
      exact LCg.CompRest.zero (fin ys ts hy)
    | succ j ih =>
      intro i ys ts hi hy
      refine LCg.CompRest.succ fun v I oI C oC D m₂ h tk E' hP hC hx F N off ne => ?_
      refine wpAny_mono (turn i v ys ts I oI C oC D m₂ h tk E' (by first | with_reducible assumption | decide | (first | lia | omega)) hP hy hC hx F N off ne) (fun y s' hc => ?_) fun _ _ e => e
      obtain ⟨h', tk', news', e1, F', N', off', hS, T, t, u, rfl, rfl⟩ := hc
      refine ⟨h', tk', _, e1, F', N', off', hS, ih (i + 1) _ _ (by first | with_reducible assumption | decide | (first | lia | omega)) ?_⟩
      rw [List.range_succ, List.map_append]
      exact hy.snoc
  have := key n 0 [] [] (by first | with_reducible assumption | decide | (first | lia | omega)) .nil
  rwa [List.append_nil] at this
/-- a comprehension over pairs that makes ints -/
theorem kpair_rest {x₂ : Str} {n : Nat} (f : Nat → Int)
    (turn : ∀ i v, i < n → P i v → ∃ (t : Addr) (ot : Obj) (v₁ v₂ : Value) (nt : Nat), v = .ref t ∧ (t, ot) ∈ base ∧ ot.cls = .type "tuple" ∧ ot.data = .seq #[v₁, v₂] nt ∧
      ∀ I oI C oC D m₂ ys h tk (E' : Value → Shared → Prop), LCg.NsObj oC m₂ → m₂ x = some v₁ → m₂ x₂ = some v₂ → Fr h₀ L h m → News h₀ L h ((I, oI) :: (C, oC) :: (D, LCg.lst ys) :: base) → LCg.Off3 I C D base → ((@Ne Nat I C) ∧ (@Ne Nat I D) ∧ (@Ne Nat C D)) →
      wpAny (model prog w) A (eval elt (compEnvC scope cl C env)) (LCg.CompEnd h₀ L m { s with heap := h, toks := tk } I oI C oC D (LCg.lst ys) S (fun y news' => KCfEl base (f i) y news')) E' { s with heap := h, toks := tk })
    (fin : ∀ ys, IntsAre ys ((List.range n).map f) → Fin ys base) : LCp.CompRestP prog w A h₀ L m env elt x x₂ scope cl s S P Fin n 0 [] base := by
  have key : ∀ (j i : Nat) (ys : List Value), i + j = n → IntsAre ys ((List.range i).map f) → LCp.CompRestP prog w A h₀ L m env elt x x₂ scope cl s S P Fin j i ys base := by
    intro j
    induction j with
    | zero =>
      intro i ys hi hy
      have : i = n := by (first | lia | omega)
      subst this
      exact LCp.CompRestP.zero (fin ys hy)
    | succ j ih =>
      intro i ys hi hy
      refine LCp.CompRestP.succ fun v hP => ?_
      obtain ⟨t, ot, v₁, v₂, nt, e1, e2, e3, e4, H⟩ := turn i v (by first | with_reducible assumption | decide | (first | lia | omega)) hP
      refine ⟨t, ot, v₁, v₂, nt, e1, e2, e3, e4, fun I oI C oC D m₂ h tk E' hC hx hx2 F N off ne => ?_⟩
      refine wpAny_mono (H I oI C oC D m₂ ys h tk E' hC hx hx2 F N off ne) (fun y s' hc => ?_) fun _ _ e => e
      obtain ⟨h', tk', news', q1, F', N', off', hS, rfl, t', rfl⟩ := hc
      refine ⟨h', tk', _, q1, F', N', off', hS, ih (i + 1) _ (by first | with_reducible assumption | decide | (first | lia | omega)) ?_⟩
      rw [List.range_succ, List.map_append]
      exact IntsAre.append hy (by constructor; constructor)
  exact key n 0 [] (by first | with_reducible assumption | decide | (first | lia | omega)) .nil
end
theorem tup_end {h₀ h' : Heap} {L : Addr} {m : Str → Option Value} {s₁ : Shared} {I C D T : Addr} {oI oC oD : Obj} {S : List (Addr × Obj) → Prop} {base ts9 : List (Addr × Obj)} {f : Nat → Nat × Int} {i w : Nat} {n : Int} {t u : Tok} {tk : Nat}
    (F : Fr h₀ L h' m) (N : News h₀ L h' ((T, tupOb w n t u) :: (I, oI) :: (C, oC) :: (D, oD) :: (base ++ ts9))) (off : LCg.Off3 I C D (base ++ ts9)) (hI : T ≠ I) (hC : T ≠ C) (hD : T ≠ D) (hf : f i = (w, n)) (hS : ∀ x, S (base ++ x)) :
    LCg.CompEnd h₀ L m s₁ I oI C oC D oD S (fun y news' => ∃ T t u, news' = base ++ (ts9 ++ [(T, tupOb (f i).1 (f i).2 t u)]) ∧ y = .ref T) (.ref T) { s₁ with heap := h', toks := tk } := by
  refine LCg.CompEnd.intro F N (base ++ (ts9 ++ [(T, tupOb w n t u)])) (fun p hp => ?_) (off3_of fun p hp => ?_) (hS _) ⟨T, t, u, by rw [hf], rfl⟩
  · simp only [List.mem_cons, List.mem_append, List.not_mem_nil, or_false] at hp ⊢
    rcases hp with h | h | h | h | h | h <;> simp [h]
  · rw [← List.append_assoc] at hp
    rcases List.mem_append.mp hp with h | h
    · exact LCg.Off3.mem off p h
    · rw [List.mem_singleton.mp h]; exact ⟨hI, hC, hD⟩
theorem numsT_range : ∀ (res : List (Int × Int × Int)) (n : Int), numsT res n = (List.range res.length).map fun i => (dueT (res.getD i (2, 0, 0)), n + (i : Int))
  | [], _ => rfl
  | r :: rs, n => by
    rw [numsT, numsT_range rs (n + 1), List.length_cons, List.range_succ_eq_map, List.map_cons, List.map_map]
    refine congr (congrArg _ ?_) ?_
    · simp
    · refine List.map_congr_left fun i _ => ?_
      simp only [Function.comp]
      refine Prod.ext ?_ ?_
      · simp
      · show n + 1 + (i : Int) = n + ((i + 1 : Nat) : Int)
        (first | lia | omega)
theorem mul_dots {k : Nat} (h : k ≤ 6) : Txt.mul (Str.ofString ".") (k : Int) = dotStr k := by
  have : k = 0 ∨ k = 1 ∨ k = 2 ∨ k = 3 ∨ k = 4 ∨ k = 5 ∨ k = 6 := by (first | lia | omega)
  rcases this with rfl | rfl | rfl | rfl | rfl | rfl | rfl <;> decide +kernel
end
section
open PySem PySem.W PyProof.Rows PySem.Calls PySem.Spec PyProof.V
set_option maxRecDepth 100000
set_option maxHeartbeats 8000000
theorem news_keep {T : List Addr} {X : List (Addr × Obj)} {h₀ h h' : Heap} {L : Addr} (N : News h₀ L h X) (K : Keep T h h') (hoff : ∀ p ∈ X, p.1 ∉ T) : News h₀ L h' X := fun p hp => ⟨K _ _ (hoff p hp) (N p hp).1, (N p hp).2⟩
theorem news_app {X Y : List (Addr × Obj)} {h₀ h : Heap} {L : Addr} (N : News h₀ L h X) (M : News h₀ L h Y) : News h₀ L h (X ++ Y) := fun p hp => by
  rcases List.mem_append.mp hp with hp | hp
  · exact N p hp
  · exact M p hp
theorem off3 {C rl : Addr} {ts : List (Addr × Obj)} (h1 : C ≠ 134) (h2 : C ≠ rl) (h3 : ∀ p ∈ ts, p.1 ≠ C) : C ∉ (134 :: rl :: ts.map (·.1)) := fun hm => by
  rcases List.mem_cons.mp hm with h | hm
  · exact h1 h
  · rcases List.mem_cons.mp hm with h | hm
    · exact h2 h
    · obtain ⟨p, hp, e⟩ := List.mem_map.mp hm
      exact h3 p hp e
theorem three {P : Addr × Obj → Prop} {a b c : Addr × Obj} (ha : P a) (hb : P b) (hc : P c) : ∀ p ∈ [a, b, c], P p := fun p hp => by
  simp only [List.mem_cons, List.not_mem_nil, or_false] at hp
  rcases hp with rfl | rfl | rfl
  · exact ha
  · exact hb
  · exact hc
theorem law_join {A X ts tt : List (Addr × Obj)} {r t : Addr × Obj} {h₀ h : Heap} {L : Addr} (N1 : News h₀ L h A) (N2 : News h₀ L h (r :: ts)) (N3 : News h₀ L h (X ++ (t :: tt))) : News h₀ L h (A ++ ([r, t] ++ (X ++ (ts ++ tt)))) := fun p hp => by
  simp only [List.mem_append, List.mem_cons, List.not_mem_nil, or_false] at hp
  rcases hp with h | (rfl | rfl) | h | h | h
  · exact N1 p h
  · exact N2 _ (.head _)
  · exact N3 _ (List.mem_append_right _ (.head _))
  · exact N3 _ (List.mem_append_left _ h)
  · exact N2 _ (.tail _ h)
  · exact N3 _ (List.mem_append_right _ (.tail _ h))
def dueI (res : List (Int × Int × Int)) (k : Int) : Int := (res.getD k.toNat (2, 0, 0)).1 + (if (res.getD k.toNat (2, 0, 0)).2.1 = 0 then 1 else 0)
theorem tail_off {C : Addr} {l : LexS} {ts tt : List (Addr × Obj)} (h8 : C ∉ l.aux.map (·.1)) (h2 : ∀ p ∈ ts, p.1 ≠ C) (h3 : ∀ p ∈ tt, p.1 ≠ C) : ∀ p ∈ l.aux ++ (ts ++ tt), p.1 ≠ C := fun p hp => by
  rcases List.mem_append.mp hp with h | h
  · exact fun e => h8 (e ▸ List.mem_map_of_mem h)
  · rcases List.mem_append.mp h with h | h
    · exact h2 p h
    · exact h3 p h
theorem TupsAre.at {arr : List Value} {ts : List (Addr × Obj)} {res : List (Nat × Int)} (h : TupsAre arr ts res) : ∀ {i : Nat} {v : Value}, arr[i]? = some v → ∃ a w n t u, v = .ref a ∧ (a, tupOb w n t u) ∈ ts ∧ res[i]? = some (w, n) := by
  induction h with
  | nil => intro i v h; simp at h
  | @snoc arr ts res a w n t u hr ih =>
    intro i v h
    by_cases hi : i < arr.length
    · rw [List.getElem?_append_left hi] at h
      obtain ⟨a', w', n', t', u', e1, e2, e3⟩ := ih h
      exact ⟨a', w', n', t', u', e1, List.mem_append_left _ e2, by rw [List.getElem?_append_left (by rw [← hr.length]; exact hi)]; exact e3⟩
    · rw [List.getElem?_append_right (by first | with_reducible assumption | decide | (first | lia | omega))] at h
      have h0 : i - arr.length = 0 := by
        cases hq : i - arr.length with
        | zero => rfl
        | succ k => rw [hq] at h; simp at h
      rw [h0] at h
      cases h
      refine ⟨a, w, n, t, u, rfl, List.mem_append_right _ (.head _), ?_⟩
      rw [List.getElem?_append_right (by rw [← hr.length]; (first | lia | omega)), ← hr.length, h0]
      rfl
theorem six {P : Addr × Obj → Prop} {a b c d e f : Addr × Obj} (ha : P a) (hb : P b) (hc : P c) (hd : P d) (he : P e) (hf : P f) : ∀ p ∈ [a, b, c, d, e, f], P p := fun p hp => by
  simp only [List.mem_cons, List.not_mem_nil, or_false] at hp
  rcases hp with rfl | rfl | rfl | rfl | rfl | rfl
  · exact ha
  · exact hb
  · exact hc
  · exact hd
  · exact he
  · exact hf
theorem off1_mem {D : Addr} : ∀ {l : List (Addr × Obj)}, LCg.Off1 D l → ∀ p ∈ l, p.1 ≠ D
  | [], _, _, h => nomatch h
  | q :: r, h, p, hp => by
    rcases List.mem_cons.mp hp with rfl | hp
    · exact h.1
    · exact off1_mem h.2 p hp
theorem off_led {D : Addr} {l : LexS} {n : Int} {tn tp : Tok} {vs : List Value} {c2 c3 : Nat} {pos : Int} {h₀ h : Heap} {L : Addr} (h1 : ∀ b o, h.get? b = some o → b ≠ D) (N : News h₀ L h (l.led n tn vs c2 pos tp c3)) : D ∉ l.adr := fun hm => by
  obtain ⟨p, hp, e⟩ := List.mem_map.mp (show D ∈ (l.led n tn vs c2 pos tp c3).map (·.1) from hm)
  exact h1 _ _ (N p hp).1 e
theorem numsT_fst : ∀ (res : List (Int × Int × Int)) (n : Int), (numsT res n).map Prod.fst = res.map dueT
  | [], _ => rfl
  | r :: rs, n => by rw [numsT, List.map_cons, List.map_cons, numsT_fst rs]
theorem sum_pos : ∀ {l : List Int}, (∀ x ∈ l, 0 ≤ x) → 0 ≤ l.sum
  | [], _ => Int.le_refl 0
  | x :: r, h => by
    rw [List.sum_cons]
    have h1 := h x (.head _)
    have h2 := sum_pos (l := r) fun y hy => h y (.tail _ hy)
    (first | lia | omega)
theorem nat_back : ∀ {l : List Int}, (∀ x ∈ l, 0 ≤ x) → (l.map Int.toNat).map Int.ofNat = l
  | [], _ => rfl
  | x :: r, h => by
    rw [List.map_cons, List.map_cons, nat_back (l := r) fun y hy => h y (.tail _ hy)]
    have h1 := h x (.head _)
    congr 1
    show ((x.toNat : Nat) : Int) = x
    (first | lia | omega)
theorem range_getD {lf : List Int} {c : Int} : (List.range lf.length).map (fun i => ((lf.getD i 0 + 1).toNat, c)) = (lf.map fun x => (x + 1).toNat).map (·, c) := by
  refine List.ext_getElem (by simp) fun i h1 h2 => ?_
  have hi : i < lf.length := by simpa using h1
  simp [List.getD_eq_getElem?_getD, List.getElem?_eq_getElem hi]
theorem law_end {mean : ExcName → Option Value} {cl : Str → Option Addr} {ns : List Int} {s₁ s' : Shared} {L : Addr} {m : Str → Option Value} (F : Fr s₁.heap L s'.heap m) (hg : s'.gens = #[]) (hos : s'.os = s₁.os)
  : GoodW PySem.Challenge.rw_sw0004_01.row.claim cl mean [ofPy (PyData.list (ns.map PyData.int))] s₁ (.ok (.ret (.bool true))) s' := by
  refine goodW_bool F hg ?_ ?_ hos
  · exact raisesW_false (by wrow_none_raised)
  · kc_post
theorem range_gr {ds : List Nat} : (List.range ds.length).map (fun i => ((ds.getD i 0 : Nat) : Int) - 1) = grT ds := by
  unfold grT
  refine List.ext_getElem (by simp) fun i h1 h2 => ?_
  have hi : i < ds.length := by simpa using h1
  simp [List.getD_eq_getElem?_getD, List.getElem?_eq_getElem hi]
theorem due_at {res : List (Int × Int × Int)} {k : Nat} {r : Int × Int × Int} (h : res[k]? = some r) : dueI res (k : Int) = r.1 + (if r.2.1 = 0 then 1 else 0) := by
  unfold dueI
  rw [Int.toNat_natCast, List.getD_eq_getElem?_getD, h]; rfl
theorem due_all {res : List (Int × Int × Int)} (hok : ∀ r ∈ res, RowOk r) : (rangeKs 0 res.length).map (dueI res) = res.map fun r => (dueT r : Int) := by
  refine List.ext_getElem (by simp [rangeKs]) fun i h1 h2 => ?_
  have hi : i < res.length := by simpa using h2
  simp only [rangeKs, List.getElem_map, List.getElem_range]
  have hr := hok _ (List.getElem_mem hi)
  have := due_at (List.getElem?_eq_getElem hi)
  rw [show (0 : Int) + (i : Int) = (i : Int) from by (first | lia | omega), this]
  unfold dueT
  have h1 := hr.d1
  split <;> simp <;> (first | lia | omega)
theorem len_refs {prog : Program} {w : World} {A : Around} {E : Value → Shared → Prop} {s : Shared} {l : Addr} {arr : List Value} {n : Nat} {Q : Value → Shared → Prop} (hl : s.heap.IsList l arr.toArray) (hn : arr.length = n) (hb : n ≤ 1000)
    (h : Q (.int n (s.toks + 1)) { s with toks := s.toks + 1 + 1 }) : wpAny (model prog w) A (call (.builtin "len") [.ref l]) Q E s :=
  len_list hl (by rw [List.size_toArray, hn]; (first | lia | omega)) (by rw [List.size_toArray, hn]; exact h)
local macro_rules | `(tactic| walk_at "call ref") => `(tactic| (k_here; k_dflt (refine Wait.out ?_)))
local macro_rules | `(tactic| walk_at "call ref") => `(tactic| (k_here; (with_reducible show wpAny _ _ (call (Value.ref 94) [_, _]) _ _ _); k_dflt (refine wpAny_call ?_; (walk_at "SW enterK"))))
local macro_rules | `(tactic| walk_at "SrcLP") => `(tactic| (k_here; k_dflt (refine Wait.out ?_)))
local macro_rules | `(tactic| walk_at "call builtin:len") => `(tactic| (k_here; (with_reducible show wpAny _ _ (call (Value.builtin _) [Value.str (dotStr _) _]) _ _ _); k_dflt (refine len_dotK (by omega) ?_)))
local macro_rules | `(tactic| walk_at "exec Assign cons ListComp") => `(tactic| (k_here; k_dflt (refine wpAny_Assign_Name ?_)))
local macro_rules | `(tactic| walk_at "subscriptTail Name Name ref int") => `(tactic| (k_here; k_dflt (refine Wait.out ?_)))
local macro_rules | `(tactic| walk_at "CompSrc") => `(tactic| (k_here; k_dflt (refine Wait.out ?_)))
local macro_rules | `(tactic| walk_at "CompEnd") => `(tactic| (k_here; k_dflt (refine Wait.out ?_)))
local macro_rules | `(tactic| walk_at "eval ListComp") => `(tactic| (k_here; k_dflt (refine Wait.out ?_)))
local macro_rules | `(tactic| walk_at "subscriptTail Name Constant ref int") => `(tactic| (k_here; k_dflt (refine Wait.out ?_)))
local macro_rules | `(tactic| walk_at "subscriptTail Name BinOp ref int") => `(tactic| (k_here; k_dflt (refine Wait.out ?_)))
local macro_rules | `(tactic| walk_at "binaryOp Add ref ref") => `(tactic| (k_here; k_dflt (refine Wait.out ?_)))
local macro_rules | `(tactic| walk_at "compareOp Eq ref ref") => `(tactic| (k_here; k_dflt (refine Wait.out ?_)))
local macro_rules | `(tactic| walk_at "compareOp NotEq ref ref") => `(tactic| (k_here; k_dflt (refine Wait.out ?_)))
local macro_rules | `(tactic| walk_at "exec For Tuple Name cons nil") => `(tactic| (k_here; k_dflt (refine wpAny_For ?_)))
local macro_rules | `(tactic| walk_at "pyIter ref") => `(tactic| (k_here; k_dflt (refine Wait.out ?_)))
local macro_rules | `(tactic| walk_at "call builtin:len") => `(tactic| (k_here; (with_reducible show wpAny _ _ (call (Value.builtin _) [Value.ref _]) _ _ _); (rename News _ _ _ _ => lN'); k_dflt (refine len_refs (News.isList lN' (by k_mem)) (by assumption) (by omega) ?_)))

local macro_rules | `(tactic| walk_at "execs cons") => `(tactic| (k_here; k_fold; walk_at "execs cons"))
theorem law_holds : PySem.Challenge.rw_sw0004_01.Holds := by
  refine SW.hd ?_
  k_go0
  all_goals (try k_fold)
  k_steps
  refine Wait.mk ?_
  rename Shared => s1
  rename IntsAre _ _ => hI0
  rename PyData.layable0 (PyData.list _) = true => hlay0
  rename Heap.IsList (ghostOf _ _) _ _ => hsl0
  rename CodeHd _ _ _ => CH0
  rename ¬ (_ : Int) < _ => hlen0
  rename_i oD oS oR dD dS dR CA X0 T0 B0 F0 N0 l0
  refine wpAny_call (rows_code B0 F0 X0 T0 rfl (by ktr_room) (by ktr_units) hI0 (by first | with_reducible assumption | decide | (first | lia | omega)) hlay0 hsl0 (fun p hp => nomatch hp) ?_)
  intro rl ts arr c h1 tk1 res hrows hok hr2 hr4 hts hK1 hfr1 F1 N1
  have hq8 : res.length = 2 ∨ res.length = 3 ∨ res.length = 4 := by (first | lia | omega)
  have hq9 : res.length ≤ 16777216 := by (first | lia | omega)
  have hqa : res.length + 2 ≤ 16777216 := by (first | lia | omega)
  have hqb : res.length ≤ 900 := by (first | lia | omega)
  have hqc : res.length ≤ 90 := by (first | lia | omega)
  have hqd : res.length + 2 ≤ 50 := by (first | lia | omega)
  have hqe : (res.length : Int) + 2 = ((res.length + 2 : Nat) : Int) := by (first | lia | omega)
  have hqf : 1 + (res.length : Int) = (res.length : Int) + 1 := by (first | lia | omega)
  have hq1 : (0 : Int) ≤ (res.length : Int) - 1 := by (first | lia | omega)
  have hq2 : (res.length : Int) - 1 < 2 ^ 63 := by (first | lia | omega)
  have hq3 : ((res.length : Int) - 1).toNat = res.length - 1 := by (first | lia | omega)
  have hq4 : 0 < res.length := by (first | lia | omega)
  have hq5 : res.length - 1 < res.length := by (first | lia | omega)
  have hq6 : 1 + res.length ≤ PySem.sizeLine := by rw [sizeLine_eq]; (first | lia | omega)
  have hq7 : 1 + res.length + 1 ≤ PySem.sizeLine := by rw [sizeLine_eq]; (first | lia | omega)
  have dD2 : oD.data = .cell none := dD
  have dS2 : oS.data = .cell none := dS
  have dR2 : oR.data = .cell none := dR
  clear CA dD dS dR
  obtain ⟨x1, x2⟩ := hfr1 _ _ (N0 _ (.head _)).1
  obtain ⟨x3, x4⟩ := hfr1 _ _ (N0 _ (.tail _ (.head _))).1
  obtain ⟨x5, x6⟩ := hfr1 _ _ (N0 _ (.tail _ (.tail _ (.head _)))).1
  obtain ⟨x7, x8⟩ := hfr1 _ _ (N0 _ (.tail _ (.tail _ (.tail _ (.head _))))).1
  have hal := hrows.length
  have N2 := news_app (news_keep N0 hK1 (fun _ _ h => nomatch h)) N1
  obtain ⟨m1, F2⟩ := fr_puts [(Str.ofString "script", .ref _)] F1 ⟨rfl, trivial⟩
  obtain ⟨sl, hsl, F2⟩ : ∃ sl, Heap.IsList _ sl _ ∧ Fr _ _ h1 (frm [(Str.ofString "script", .ref sl)] m1) := ⟨_, hsl0, F2⟩
  dsimp only [List.cons_append, List.nil_append] at N2
  dsimp only [frm] at F2
  clear F1 F0 N0 N1 hK1
  k_steps
  refine Wait.mk ?_
  rename_i hA1 oR1 dR1 tkA hA2 oS1 F3 N3 dS1
  refine wpAny_call (lexer_code B0 F3 X0 T0 rfl (by ktr_room) (by ktr_units) CH0 hrows hok hr4 hts x7 x8 (fun p hp => N3 p (.tail _ (.tail _ (.tail _ hp)))) ?_)
  rintro l tn tp h2 tk2 lok lrs hsent hfr2 ⟨tps, htab⟩ hK2 F4 N4
  have z1 := hfr2 _ _ (N3 _ (.head _)).1 (neN (by first | with_reducible assumption | (first | lia | omega)))
  have z2 := hfr2 _ _ (N3 _ (.tail _ (.head _))).1 (neN (by first | with_reducible assumption | (first | lia | omega)))
  have z3 := hfr2 _ _ (N3 _ (.tail _ (.tail _ (.head _)))).1 (neN (by first | with_reducible assumption | (first | lia | omega)))
  have z4 := hfr2 _ _ (N3 _ (.tail _ (.tail _ (.tail _ (.tail _ (.head _)))))).1 (Ne.symm x7)
  have z5 : ∀ p ∈ ts, p.1 ∉ l.adr := fun p hp => hfr2 _ _ (N3 _ (.tail _ (.tail _ (.tail _ (.tail _ (.tail _ hp)))))).1 (x8 p hp)
  have NC := news_keep (X := [(_, oD), (_, oS1), (_, oR1)]) (fun p hp => N3 p (List.mem_append_left _ hp)) hK2 (three (off3 (neN (by first | with_reducible assumption | (first | lia | omega))) x1 x2) (off3 (neN (by first | with_reducible assumption | (first | lia | omega))) x3 x4) (off3 (neN (by first | with_reducible assumption | (first | lia | omega))) x5 x6))
  have N5 := news_app NC (news_swap (X := [(rl, W.listOf arr.toArray c)]) (Y := l.led 1 tn [] 0 0 tp 0) (Z := ts) N4)
  clear N3 NC N4 F3
  rw [sent_eq hok] at hsent
  dsimp only [LexS.led, List.cons_append, List.nil_append] at N5
  k_steps
  refine Wait.mk ?_
  rename News _ _ _ _ => N6
  rename Fr _ _ _ _ => F6
  obtain ⟨us', n', g1, g2, g4⟩ := got_rows (res := res) (us := sentT res) (n := 1) (N := 1) hok rfl
  have hn' : n' = (res.length : Int) := by
    have := g4 (fun q => by rw [q] at hr2; exact absurd hr2 (by decide))
    (first | lia | omega)
  have hul : (sentT res).length ≤ 1000 := by rw [← hsent, Array.length_toList]; exact lok.hs
  have N7 := news_left (X := l.led 1 tn [] 0 ((0 : Nat) : Int) tp 0) (rest := ts) (fun p hp => N6 p (List.mem_append_right [(_, oD), (_, oS1), (_, oR1), (rl, W.listOf arr.toArray c)] hp))
  refine wpAny_call (got_code B0 F6 X0 T0 rfl (by ktr_room) (by ktr_units) CH0 l lok lrs (vs := []) (ks := []) (k := 0) (us := sentT res) .nil (Nat.zero_le _) (show l.sent.cps.toList.drop 0 = sentT res from hsent) (by first | with_reducible assumption | (first | lia | omega)) (by first | with_reducible assumption | (first | lia | omega)) g1 N7 ?_)
  intro tl tt arr2 c2 vs2 c3 k2 tn2 tp2 h3 tk3 htups hfr3 hv2 hc2 hb2 hK3 F7 N8
  have hvs : vs2 = [] := by cases hv2; rfl
  subst hvs
  have y1 := hfr3 _ _ (N6 _ (.head _)).1
  have y2 := hfr3 _ _ (N6 _ (.tail _ (.head _))).1
  have y3 := hfr3 _ _ (N6 _ (.tail _ (.tail _ (.head _)))).1
  have y4 := hfr3 _ _ (N6 _ (.tail _ (.tail _ (.tail _ (.head _))))).1
  have NC := news_keep (X := [(_, oD), (_, oS1), (_, oR1)]) (fun p hp => N6 p (List.mem_append_left _ hp)) hK3 (three z1 z2 z3)
  have NT := news_keep (X := (rl, W.listOf arr.toArray c) :: ts) (fun p hp => N6 p (by
    rcases List.mem_cons.mp hp with h | h
    · rw [h]; exact .tail _ (.tail _ (.tail _ (.head _)))
    · exact List.mem_append_right [(_, oD), (_, oS1), (_, oR1), (rl, W.listOf arr.toArray c)] (List.mem_append_right (l.led 1 tn [] 0 ((0 : Nat) : Int) tp 0) h))) hK3 (fun p hp => by
    rcases List.mem_cons.mp hp with h | h
    · rw [h]; exact z4
    · exact z5 p h)
  have N9 := law_join NC NT N8
  dsimp only [LexS.led, List.cons_append, List.nil_append] at N9
  have a1 : tl ∉ l.adr := off_led (fun b o e => (hfr3 b o e).1) N7
  have a2 : ∀ q ∈ tt, q.1 ∉ l.adr := fun q hq => off_led (fun b o e h => (hfr3 b o e).2 q hq h.symm) N7
  clear NC NT N8 N6 N7 hfr3 hfr2 hfr1
  k_steps
  refine Wait.mk ?_
  k_dflt (refine LCg.ListComp_U (F₀ := by k_asm) (by with_unfolding_all rfl) (by decide) (by rfl) (by decide) (by rfl) ?_)
  k_steps
  refine Wait.mk ?_
  rename IsRange _ _ _ _ _ _ _ _ => lR9
  rename News _ _ _ _ => N5
  rename Fr _ _ _ _ => F5
  have hrs : Builtin.Range.rangeSize 0 (res.length : Int) 1 = ((res.length : Nat) : Int) := by rw [rangeSize_nat]; (first | lia | omega)
  refine LCg.CompSrc.range rfl F5 N5 lR9 (small_one (by first | with_reducible assumption | (first | lia | omega)) (by first | with_reducible assumption | (first | lia | omega)) (by first | with_reducible assumption | (first | lia | omega)) (by first | with_reducible assumption | (first | lia | omega))) hrs (by rw [sizeLine_eq]; first | with_reducible assumption | (first | lia | omega)) (fun g9 => ?_)
  refine kcf_range (dueI res) (fun k' t' I' oI' C' oC' D' m' ys' h' tk' E' hlo hhi hC' hx' F' N' off' ne' mk' => ?_) (fun ys hys => ?_)
  · clear F5 N5
    obtain ⟨k, rfl⟩ : ∃ k : Nat, k' = (k : Int) := ⟨k'.toNat, by (first | lia | omega)⟩
    have hkl : k < res.length := by (first | lia | omega)
    obtain ⟨v, hv⟩ : ∃ v, arr[k]? = some v := ⟨_, List.getElem?_eq_getElem (by first | with_reducible assumption | (first | lia | omega))⟩
    obtain ⟨ra, rr, ta1, ta2, ta3, rfl, hmem, hrr⟩ := hrows.at hv
    have hra : News _ _ _ [(ra, rowOb rr ta1 ta2 ta3)] := fun p hp => N' p (by
      cases List.mem_singleton.mp hp
      exact .tail _ (.tail _ (.tail _ (List.mem_append_right [(_, oD), (_, oS1), (_, oR1), (rl, W.listOf arr.toArray c), (tl, W.listOf arr2.toArray c2)] (List.mem_append_right (l.led n' tn2 [] c3 (k2 : Int) tp2 0) (List.mem_append_left _ hmem))))))
    have N6 := news_app hra N'
    dsimp only [rowOb, List.cons_append, List.nil_append] at N6
    clear N' hra
    have off2 := off'
    k_steps
    refine Wait.mk ?_
    have hv2 : arr[((k : Int)).toNat]? = some (.ref ra) := by rw [Int.toNat_natCast]; exact hv
    refine item_listL (News.isList N6 (.tail _ (.tail _ (.tail _ (.tail _ (.tail _ (.tail _ (.tail _ (.head _))))))))) (by first | with_reducible assumption | (first | lia | omega)) (by first | with_reducible assumption | (first | lia | omega)) hv2 ?_
    k_steps
    refine Wait.mk ?_
    refine item_listL (News.isList N6 (.tail _ (.tail _ (.tail _ (.tail _ (.tail _ (.tail _ (.tail _ (.head _))))))))) (by first | with_reducible assumption | (first | lia | omega)) (by first | with_reducible assumption | (first | lia | omega)) hv2 ?_
    k_steps
    · rename rr.2.1 = 0 => h0
      refine Wait.mk ?_
      exact LCg.CompEnd.intro F' N6 _ (fun p hp => .tail _ hp) off2 trivial ⟨rfl, _, by rw [due_at hrr, if_pos h0]⟩
    · rename rr.2.1 ≠ 0 => h0
      refine Wait.mk ?_
      exact LCg.CompEnd.intro F' N6 _ (fun p hp => .tail _ hp) off2 trivial ⟨rfl, _, by rw [due_at hrr, if_neg h0]⟩
  · intro D8 h8 tk8 F8 N8 off8
    clear N5 F5
    have off9 := off8
    simp only [LCg.Off1, and_true] at off8
    have w0 := z1
    simp only [LexS.adr, List.mem_cons, not_or] at w0
    obtain ⟨w1, w2, w3, w4, w5, w6, w7, w8⟩ := w0
    have hys2 : IntsAre ys (res.map fun r => (dueT r : Int)) := by rw [due_all hok] at hys; exact hys
    have ht1 := tail_off w8 x2 y1.2
    clear hys
    obtain ⟨y5, y6⟩ := y1
    k_steps
    rename_i hX oD1 FX NX dD1
    refine Wait.mk ?_
    k_dflt (refine LCg.ListComp_U (F₀ := by k_asm) (by with_unfolding_all rfl) (by decide) (by rfl) (by decide) (by rfl) ?_)
    k_steps
    refine Wait.mk ?_
    rename IsRange _ _ _ _ _ _ _ _ => lRa
    rename News _ _ _ _ => N10
    rename Fr _ _ _ _ => F10
    refine LCg.CompSrc.range rfl F10 N10 lRa (small_one (by first | with_reducible assumption | (first | lia | omega)) (by first | with_reducible assumption | (first | lia | omega)) (by first | with_reducible assumption | (first | lia | omega)) (by first | with_reducible assumption | (first | lia | omega))) hrs (by rw [sizeLine_eq]; first | with_reducible assumption | (first | lia | omega)) (fun g9 => ?_)
    refine ktup_rest (fun i => (dueT (res.getD i (2, 0, 0)), 1 + (i : Int))) (fun i v ys9 ts9 I' oI' C' oC' D' m' h' tk' E' hi hv hy hC' hx' F' N' off' ne' => ?_) (fun ys9 ts9 hy9 => ?_)
    · clear N10 F10
      obtain ⟨t', rfl⟩ := hv
      obtain ⟨r, hr⟩ : ∃ r, res[i]? = some r := ⟨_, List.getElem?_eq_getElem hi⟩
      have hro := hok r (List.mem_of_getElem? hr)
      have hdd : dueT r ≤ 5 := by
        have q1 := hro.d1
        have q2 := hro.d2
        unfold dueT
        split <;> (first | lia | omega)
      have hyl : ys.length = res.length := by rw [hys2.length, List.length_map]
      obtain ⟨v, hv⟩ : ∃ v, ys[i]? = some v := ⟨_, List.getElem?_eq_getElem (by first | with_reducible assumption | (first | lia | omega))⟩
      obtain ⟨nn, tnn, rfl, hnn⟩ := IntsAre.at hys2 i v hv
      rw [List.getElem?_map, hr] at hnn
      cases hnn
      have hv2 : ys[((0 : Int) + (i : Int)).toNat]? = some (.int (dueT r : Int) tnn) := by rw [show ((0 : Int) + (i : Int)).toNat = i from by (first | lia | omega)]; exact hv
      have offs := off'
      dsimp only [List.cons_append] at N'
      k_steps
      refine Wait.mk ?_
      refine item_listL (News.isList N' (.tail _ (.tail _ (.tail _ (.head _))))) (by first | with_reducible assumption | (first | lia | omega)) (by first | with_reducible assumption | (first | lia | omega)) hv2 ?_
      k_steps
      refine Wait.mk ?_
      rename News _ _ _ _ => N11
      rename Fr _ _ _ _ => F11
      rename_i T9 hT9 lT9
      rw [mul_dots (by first | with_reducible assumption | (first | lia | omega))] at N11
      exact tup_end (f := fun i => (dueT (res.getD i (2, 0, 0)), 1 + (i : Int))) (i := i) (S := fun _ => True) F11 N11 offs (Nat.ne_of_gt lT9.1) (Nat.ne_of_gt lT9.2.1) (Nat.ne_of_gt lT9.2.2.1) (Prod.ext (by rw [List.getD_eq_getElem?_getD, hr]; rfl) (by show 1 + (i : Int) = 0 + (i : Int) + 1; first | with_reducible assumption | (first | lia | omega))) (fun _ => trivial)
    · intro D9 h9 tk9 F9 N12 off12
      clear N10 F10
      rw [← numsT_range] at hy9
      dsimp only [List.cons_append] at N12
      have off13 := off12
      k_steps
      refine Wait.mk ?_
      rename News _ _ _ _ => N13
      rename Fr _ _ _ _ => F13
      refine ne_tups (ts := tt) (ts' := ts9) (News.isList N13 (.tail _ (.tail _ (.tail _ (.tail _ (.tail _ (.tail _ (.head _)))))))) (News.isList N13 (.head _)) htups hy9 (fun p hp => N13 p (.tail _ (List.mem_append_left ts9 (List.mem_append_right [(D8, _), (_, _), (_, _), (_, _), (_, _), (_, _)] (List.mem_append_right (l.led n' tn2 [] c3 (k2 : Int) tp2 0) (List.mem_append_right ts hp)))))) (fun p hp => N13 p (.tail _ (List.mem_append_right ([(D8, _), (_, _), (_, _), (_, _), (_, _), (_, _)] ++ (l.led n' tn2 [] c3 (k2 : Int) tp2 0 ++ (ts ++ tt))) hp))) (by first | units_room | exact Nat.le_of_ble_eq_true rfl) ?_
      have N14 : News _ _ _ ([(D8, _), (_, _), (_, _), (_, _), (rl, _), (tl, _)] ++ (l.led n' tn2 [] c3 (k2 : Int) tp2 0 ++ (ts ++ tt))) := fun p hp => N13 p (.tail _ (List.mem_append_left ts9 hp))
      clear N13 off12 off13
      dsimp only [LexS.led, List.cons_append, List.nil_append] at N14
      k_steps
      refine Wait.mk ?_
      rename Fr _ _ _ _ => F15
      have hD8 : D8 ∉ l.adr := fun hm => by
        obtain ⟨p, hp, e⟩ := List.mem_map.mp (show D8 ∈ (l.led n' tn2 [] c3 (k2 : Int) tp2 0).map (·.1) from hm)
        exact off1_mem off9 p (List.mem_append_right [(_, _), (_, _), (_, _), (_, _), (_, _)] (List.mem_append_left (ts ++ tt) hp)) e
      have hsix := fun o1 o2 o3 o4 o5 o6 => six (P := fun p => p.1 ∉ l.adr) (a := (D8, o1)) (b := (_, o2)) (c := (_, o3)) (d := (_, o4)) (e := (rl, o5)) (f := (tl, o6)) hD8 z1 z2 z3 z4 a1
      refine iter_listF (l := tl) (arr := arr2) (c := c2) F15 N14 (.tail _ (.tail _ (.tail _ (.tail _ (.tail _ (.head _)))))) fun I oi h' hoi hlt F16 N16 hkp2 => ?_
      obtain ⟨m5, F17⟩ := fr_puts [(Str.ofString "told", .ref tl), (Str.ofString "lexer", .ref l.x), (Str.ofString "script", .ref sl)] F16 ⟨rfl, rfl, rfl, trivial⟩
      obtain ⟨R6, hR6⟩ : ∃ R6 : List (Addr × Obj), R6 = [(D8, LCg.lst ys), (s1.heap.objs.size + 1 + 1 + 1, oD1), (s1.heap.objs.size + 1 + 1, oS1), (s1.heap.objs.size + 1, oR1), (rl, W.listOf arr.toArray c), (tl, W.listOf arr2.toArray c2)] := ⟨_, rfl⟩
      have N17 : News _ _ h' (R6 ++ (l.led n' tn2 [] c3 (k2 : Int) tp2 0 ++ (ts ++ tt))) := fun p hp => N16 p (.tail _ (by rw [hR6] at hp; exact hp))
      have N18 := nc (N16 _ (.head _)) (news_swap (X := l.led n' tn2 [] c3 (k2 : Int) tp2 0) (Y := R6) (Z := ts ++ tt) N17)
      have hR6a : ∀ p ∈ R6, p.1 ∉ l.adr := by rw [hR6]; exact hsix _ _ _ _ _ _
      have htlm : (tl, W.listOf arr2.toArray c2) ∈ R6 := by rw [hR6]; exact (.tail _ (.tail _ (.tail _ (.tail _ (.tail _ (.head _))))))
      have hlt2 : ∀ p ∈ R6 ++ (l.led n' tn2 [] c3 (k2 : Int) tp2 0 ++ (ts ++ tt)), p.1 ≠ I := fun p hp => Nat.ne_of_lt (hlt p (by rw [hR6] at hp; exact hp))
      have hIa : I ∉ l.adr := fun hm => by
        obtain ⟨p, hp, e⟩ := List.mem_map.mp (show I ∈ (l.led n' tn2 [] c3 (k2 : Int) tp2 0).map (·.1) from hm)
        exact hlt2 p (List.mem_append_right _ (List.mem_append_left _ hp)) e
      have hIR : ∀ p ∈ R6 ++ (ts ++ tt), p.1 ≠ I := fun p hp => hlt2 p (by
        rcases List.mem_append.mp hp with h | h
        · exact List.mem_append_left _ h
        · exact List.mem_append_right _ (List.mem_append_right _ h))
      clear N14 N16 N17 hlt hlt2 hkp2 F16 F15
      have hofr : ∀ p ∈ R6 ++ (ts ++ tt), p.1 ∉ l.adr := fun p hp => by
        rcases List.mem_append.mp hp with h | h
        · exact hR6a p h
        · rcases List.mem_append.mp h with h | h
          · exact z5 p h
          · exact a2 p h
      obtain ⟨J1, mkJ1, elJ1⟩ : ∃ J1 : Nat → Shared → Prop, (∀ (rem : Nat) (j : Nat) (vs1 : List Value) (c5 : Nat) (oi : Obj) (h : Heap) (tk : Nat) (m₀ : Str → Option Value), (j + rem = res.length) → (DotsAre vs1 ((res.map dueT).take j)) → (ItL oi tl j) → (Fr (ghostOf s1.heap [(138, 134)]) s1.heap.objs.size h (frm [(Str.ofString "told", .ref tl), (Str.ofString "lexer", .ref l.x), (Str.ofString "script", .ref sl)] m₀)) → (News (ghostOf s1.heap [(138, 134)]) s1.heap.objs.size h ((I, oi) :: (l.led n' tn2 vs1 c5 (k2 : Int) tp2 0 ++ (R6 ++ (ts ++ tt))))) → J1 rem { s1 with heap := h, toks := tk }) ∧ (∀ (rem : Nat) (s' : Shared), J1 rem s' → ∃ (j : Nat) (vs1 : List Value) (c5 : Nat) (oi : Obj) (h : Heap) (tk : Nat) (m₀ : Str → Option Value), s' = { s1 with heap := h, toks := tk } ∧ j + rem = res.length ∧ DotsAre vs1 ((res.map dueT).take j) ∧ ItL oi tl j ∧
         Fr (ghostOf s1.heap [(138, 134)]) s1.heap.objs.size h (frm [(Str.ofString "told", .ref tl), (Str.ofString "lexer", .ref l.x), (Str.ofString "script", .ref sl)] m₀) ∧ News (ghostOf s1.heap [(138, 134)]) s1.heap.objs.size h ((I, oi) :: (l.led n' tn2 vs1 c5 (k2 : Int) tp2 0 ++ (R6 ++ (ts ++ tt))))) := by
        refine ⟨fun rem s' => ∃ (j : Nat) (vs1 : List Value) (c5 : Nat) (oi : Obj) (h : Heap) (tk : Nat) (m₀ : Str → Option Value), s' = { s1 with heap := h, toks := tk } ∧ j + rem = res.length ∧ DotsAre vs1 ((res.map dueT).take j) ∧ ItL oi tl j ∧
         Fr (ghostOf s1.heap [(138, 134)]) s1.heap.objs.size h (frm [(Str.ofString "told", .ref tl), (Str.ofString "lexer", .ref l.x), (Str.ofString "script", .ref sl)] m₀) ∧ News (ghostOf s1.heap [(138, 134)]) s1.heap.objs.size h ((I, oi) :: (l.led n' tn2 vs1 c5 (k2 : Int) tp2 0 ++ (R6 ++ (ts ++ tt)))), ?_, ?_⟩
        · intro _ j vs1 c5 oi h tk m₀ hC2 hC3 hC4 hC5 hC6
          exact ⟨j, vs1, c5, oi, h, tk, m₀, rfl, hC2, hC3, hC4, hC5, hC6⟩
        · intro _ _ h; exact h
      refine codeAny_forLoop_any J1 ?turn res.length (mkJ1 _ 0 ([]) c3 oi _ _ m5 (Nat.zero_add _) .nil hoi F17 N18)
      clear F17 N18 hoi
      intro rem s' hInv0
      k_fold
      obtain ⟨j, vs1, c5, oi2, h, tk9, m₀, rfl, hjk, hds, hoi2, F18, N19⟩ := elJ1 _ _ hInv0
      clear hInv0
      refine next_listO (l := tl) (i := j) (arr := arr2) (c := c2) rfl F18 N19 hoi2 (List.mem_append_right _ (List.mem_append_left _ htlm)) ?offi ?some ?none
      case offi =>
        intro p hp
        rcases List.mem_append.mp hp with h | h
        · exact fun e => hIa (e ▸ List.mem_map_of_mem (f := (·.1)) h)
        · exact hIR p h
      case none =>
        intro hle h' hkp F4 N4
        clear F18 N19
        k_unfold
        try dsimp only
        have hj : j = res.length := by
          have := List.getElem?_eq_none_iff.mp hle
          rw [htups.length] at this
          have h2 : (numsT res 1).length = res.length := by rw [← List.length_map (f := Prod.fst), numsT_fst, List.length_map]
          (first | lia | omega)
        rw [hj, List.take_of_length_le (by rw [List.length_map]; exact Nat.le_refl _)] at hds
        have N20 := news_swap (X := R6) (Y := l.led n' tn2 vs1 c5 (k2 : Int) tp2 0) (Z := ts ++ tt) N4
        clear N4
        subst hR6
        dsimp only [LexS.led, List.cons_append, List.nil_append] at N20
        dsimp only [frm] at F4
        k_steps
        refine Wait.mk ?_
        k_dflt (refine LCg.ListComp_U (F₀ := by k_asm) (by with_unfolding_all rfl) (by decide) (by rfl) (by decide) (by rfl) ?_)
        k_steps
        refine Wait.mk ?_
        rename News _ _ _ _ => N21
        rename Fr _ _ _ _ => F21
        have hyl : ys.length = res.length := by rw [hys2.length, List.length_map]
        refine LCg.CompSrc.ledger rfl F21 N21 (.head _) (by rw [List.size_toArray, hyl, sizeLine_eq]; first | with_reducible assumption | (first | lia | omega)) (fun g9 => ?_)
        refine kcf_list (fun x => x - 1) hys2 (fun k' t' I' oI' C' oC' D' m' ys' h' tk' E' hkm hC' hx' F' N' off' ne' mk' => ?_) (fun ys7 hys7 => ?_)
        · clear N21 F21
          have offs := off'
          k_steps
          refine Wait.mk ?_
          exact LCg.CompEnd.intro F' N' _ (fun p hp => hp) offs (.inr ⟨_, .head _, rfl, _, rfl⟩) ⟨rfl, _, rfl⟩
        · intro D7 h7 tk7 F7 N22 off22
          clear N21 F21
          k_steps
          refine Wait.mk ?_
          rename News _ _ _ _ => N23
          rename Fr _ _ _ _ => F23
          have hg7 : IntsAre ys7 (grT (res.map dueT)) := by
            unfold grT
            rw [List.map_map] at hys7 ⊢
            exact hys7
          have hgl : (grT (res.map dueT)).length = res.length := by rw [grT, List.length_map, List.length_map]
          have hyl7 : ys7.length = res.length := by rw [hg7.length, hgl]
          refine wpAny_call (rest_code B0 F23 X0 T0 rfl (by ktr_room) (by ktr_units) CH0 hg7 (by rw [hyl7]; exact hr2) (by rw [hyl7]; exact hr4) (by rw [hyl7, hgl]) (fun p hp => by cases List.mem_singleton.mp hp; exact N23 _ (.head _)) ?_)
          intro tpl gv lf ysl arg cg h8 tk8 hIl hIg hfr8 hK8 F24 N24
          obtain ⟨FIN⟩ : Nonempty (PLift (FinOk (res.map dueT))) := ⟨⟨fin_ok (by rw [List.length_map]; first | with_reducible assumption | (first | lia | omega)) (fun d hd => by
            obtain ⟨r, hr, rfl⟩ := List.mem_map.mp hd
            have q := hok r hr
            have q1 := q.d1
            have q2 := q.d2
            unfold dueT
            split <;> (first | lia | omega))⟩⟩
          replace FIN := FIN.down
          have NB : News _ _ _ ([(s1.heap.objs.size + 1 + 1, oS1), (tl, W.listOf arr2.toArray c2)] ++ (l.led n' tn2 vs1 c5 (k2 : Int) tp2 0 ++ tt)) := fun p hp => N23 p (.tail _ (by
            rcases List.mem_append.mp hp with h | h
            · rcases List.mem_cons.mp h with h | h
              · rw [h]; exact .tail _ (.tail _ (.head _))
              · rw [List.mem_singleton.mp h]; exact .tail _ (.tail _ (.tail _ (.tail _ (.tail _ (.head _)))))
            · refine List.mem_append_right [(D8, LCg.lst ys), (_, oD1), (_, oS1), (_, oR1), (rl, W.listOf arr.toArray c), (tl, W.listOf arr2.toArray c2)] ?_
              rcases List.mem_append.mp h with h | h
              · exact List.mem_append_left (ts ++ tt) (show p ∈ l.led n' tn2 vs1 c5 (k2 : Int) tp2 0 from h)
              · exact List.mem_append_right (l.led n' tn2 vs1 c5 (k2 : Int) tp2 0) (List.mem_append_right ts h)))
          have hfB : ∀ p ∈ [(s1.heap.objs.size + 1 + 1, oS1), (tl, W.listOf arr2.toArray c2)] ++ (l.led n' tn2 vs1 c5 (k2 : Int) tp2 0 ++ tt), p.1 ≠ tpl ∧ p.1 ≠ gv ∧ p.1 ≠ lf := fun p hp => hfr8 _ _ (NB p hp).1
          have hD7 : ∀ p ∈ [(s1.heap.objs.size + 1 + 1, oS1), (tl, W.listOf arr2.toArray c2)] ++ (l.led n' tn2 vs1 c5 (k2 : Int) tp2 0 ++ tt), p.1 ∉ [D7] := fun p hp hm => off1_mem off22 p (by
            rcases List.mem_append.mp hp with h | h
            · rcases List.mem_cons.mp h with h | h
              · rw [h]; exact .tail _ (.tail _ (.head _))
              · rw [List.mem_singleton.mp h]; exact .tail _ (.tail _ (.tail _ (.tail _ (.tail _ (.head _)))))
            · refine List.mem_append_right [(D8, LCg.lst ys), (_, oD1), (_, oS1), (_, oR1), (rl, W.listOf arr.toArray c), (tl, W.listOf arr2.toArray c2)] ?_
              rcases List.mem_append.mp h with h | h
              · exact List.mem_append_left (ts ++ tt) (show p ∈ l.led n' tn2 vs1 c5 (k2 : Int) tp2 0 from h)
              · exact List.mem_append_right (l.led n' tn2 vs1 c5 (k2 : Int) tp2 0) (List.mem_append_right ts h)) (List.mem_singleton.mp hm)
          have NB2 := news_keep NB hK8 hD7
          have N25 := news_app (X := [(tpl, { cls := .type "tuple", data := .seq #[.ref lf, .ref gv] 0 }), (gv, W.listOf arg.toArray cg), (lf, LCg.lst ysl)]) (fun p hp => N24 p (List.mem_append_left [(D7, LCg.lst ys7)] hp)) NB2
          clear N23 N24 NB NB2 off22 hD7
          dsimp only [LexS.led, List.cons_append, List.nil_append] at N25
          k_steps
          refine Wait.mk ?_
          rename News _ _ _ _ => N26
          rename Fr _ _ _ _ => F26
          have hdl : (res.map dueT).length = res.length := List.length_map ..
          have hmo : (gavesF (grT (res.map dueT)) (leftF (grT (res.map dueT)))).sum + 1 = ((((gavesF (grT (res.map dueT)) (leftF (grT (res.map dueT)))).sum + 1).toNat : Nat) : Int) := by
            have := sum_pos FIN.gpos
            (first | lia | omega)
          have hro := FIN.rounds
          rw [hdl] at hro
          have hmo2 : ((gavesF (grT (res.map dueT)) (leftF (grT (res.map dueT)))).sum + 1).toNat ≤ 900 := by have := FIN.gsum; (first | lia | omega)
          rw [hmo]
          have N27 := news_left (X := l.led n' tn2 vs1 c5 (k2 : Int) tp2 0) (rest := tt) (fun p hp => N26 p (.tail _ (.tail _ (.tail _ (.tail _ (.tail _ hp))))))
          refine wpAny_call (rounds_code B0 F26 X0 T0 rfl (by ktr_room) (by ktr_units) l lok hds (by rw [hdl]; first | with_reducible assumption | (first | lia | omega)) hr4 hmo2 hro N27 ?_)
          intro rg arr9 c9 vs9 c10 h9 tk9 hI9 hfr9 hv9 hK9 F27 N28
          rw [nat_back FIN.gpos] at hI9
          have q1 : tpl ∉ l.adr := fun hm => by
            obtain ⟨p, hp, e⟩ := List.mem_map.mp (show tpl ∈ (l.led n' tn2 vs1 c5 (k2 : Int) tp2 0).map (·.1) from hm)
            exact (hfB p (List.mem_append_right _ (List.mem_append_left _ hp))).1 e
          have q2 : gv ∉ l.adr := fun hm => by
            obtain ⟨p, hp, e⟩ := List.mem_map.mp (show gv ∈ (l.led n' tn2 vs1 c5 (k2 : Int) tp2 0).map (·.1) from hm)
            exact (hfB p (List.mem_append_right _ (List.mem_append_left _ hp))).2.1 e
          have q3 : lf ∉ l.adr := fun hm => by
            obtain ⟨p, hp, e⟩ := List.mem_map.mp (show lf ∈ (l.led n' tn2 vs1 c5 (k2 : Int) tp2 0).map (·.1) from hm)
            exact (hfB p (List.mem_append_right _ (List.mem_append_left _ hp))).2.2 e
          have q4 : rg ∉ l.adr := off_led (fun b o e => hfr9 b o e) N27
          have q5 : ∀ p ∈ tt, p.1 ≠ rg := fun p hp => hfr9 _ _ (N26 p (.tail _ (.tail _ (.tail _ (.tail _ (.tail _ (List.mem_append_right (l.led n' tn2 vs1 c5 (k2 : Int) tp2 0) hp))))))).1
          have N29 := news_keep (X := [(gv, W.listOf arg.toArray cg), (lf, LCg.lst ysl), (s1.heap.objs.size + 1 + 1, oS1), (tl, W.listOf arr2.toArray c2)]) (fun p hp => N26 p (.tail _ (List.mem_append_left (l.led n' tn2 vs1 c5 (k2 : Int) tp2 0 ++ tt) hp))) hK9 (fun p hp => by
            simp only [List.mem_cons, List.not_mem_nil, or_false] at hp
            rcases hp with rfl | rfl | rfl | rfl
            · exact q2
            · exact q3
            · exact z2
            · exact a1)
          have N30 := news_keep (X := tt) (fun p hp => N26 p (.tail _ (.tail _ (.tail _ (.tail _ (.tail _ (List.mem_append_right (l.led n' tn2 vs1 c5 (k2 : Int) tp2 0) hp))))))) hK9 a2
          have N31 : News _ _ _ ([(rg, W.listOf arr9.toArray c9), (gv, W.listOf arg.toArray cg), (lf, LCg.lst ysl), (s1.heap.objs.size + 1 + 1, oS1), (tl, W.listOf arr2.toArray c2)] ++ (l.led n' tn2 vs9 c10 (k2 : Int) tp2 0 ++ tt)) :=
            news_app (nc (N28 _ (List.mem_append_right _ (.head _))) N29) (news_app (news_left N28) N30)
          clear N26 N27 N28 N29 N30
          dsimp only [LexS.led, List.cons_append, List.nil_append] at N31
          k_steps
          refine Wait.mk ?_
          refine ke_ne_ints (News.isList N31 (.head _)) (News.isList N31 (.tail _ (.head _))) hI9 hIg (by first | units_room | exact Nat.le_of_ble_eq_true rfl) ?_
          rw [show (!decide (gavesF (grT (res.map dueT)) (leftF (grT (res.map dueT))) = gavesF (grT (res.map dueT)) (leftF (grT (res.map dueT))))) = false from by simp]
          k_steps
          refine Wait.mk ?_
          rename News _ _ _ _ => N32
          rename Fr _ _ _ _ => F32
          rw [hqe]
          have hgl2 := got_line (ks := (leftF (grT (res.map dueT))).map fun x => (x + 1).toNat) (us := us') (n := n') (N := 1 + (res.length : Int)) g2
          have hkl : ((leftF (grT (res.map dueT))).map fun x => (x + 1).toNat).length = res.length := by rw [List.length_map, FIN.llen, hdl]
          rw [hkl] at hgl2
          have N33 := news_left (X := l.led n' tn2 vs9 c10 (k2 : Int) tp2 0) (rest := tt) (fun p hp => N32 p (.tail _ (.tail _ (.tail _ (.tail _ (.tail _ hp))))))
          refine wpAny_call (got_code B0 F32 X0 T0 rfl (by ktr_room) (by ktr_units) CH0 l lok lrs hv9 (by rw [hkl]; first | with_reducible assumption | (first | lia | omega)) hc2 (by first | with_reducible assumption | (first | lia | omega)) (by first | with_reducible assumption | (first | lia | omega)) hgl2 N33 ?_)
          intro ul uu arr3 c11 vs3 c12 k3 tn3 tp3 h11 tk11 htup2 hfr11 hv11 hc11 hb11 hK11 F33 N34
          have N35 := news_keep (X := [(gv, W.listOf arg.toArray cg), (lf, LCg.lst ysl), (s1.heap.objs.size + 1 + 1, oS1), (tl, W.listOf arr2.toArray c2)]) (fun p hp => N32 p (.tail _ (List.mem_append_left (l.led n' tn2 vs9 c10 (k2 : Int) tp2 0 ++ tt) hp))) hK11 (fun p hp => by
            simp only [List.mem_cons, List.not_mem_nil, or_false] at hp
            rcases hp with rfl | rfl | rfl | rfl
            · exact q2
            · exact q3
            · exact z2
            · exact a1)
          have N36 := news_keep (X := tt) (fun p hp => N32 p (.tail _ (.tail _ (.tail _ (.tail _ (.tail _ (List.mem_append_right (l.led n' tn2 vs9 c10 (k2 : Int) tp2 0) hp))))))) hK11 a2
          have N37 : News _ _ _ ([(ul, W.listOf arr3.toArray c11), (gv, W.listOf arg.toArray cg), (lf, LCg.lst ysl), (s1.heap.objs.size + 1 + 1, oS1), (tl, W.listOf arr2.toArray c2)] ++ (l.aux ++ (tt ++ uu))) :=
            news_app (nc (N34 _ (List.mem_append_right _ (.head _))) N35) (news_app (fun p hp => N34 p (List.mem_append_left _ (.tail _ (.tail _ (.tail _ (.tail _ (.tail _ (.tail _ (.tail _ hp))))))))) (news_app N36 (fun p hp => N34 p (List.mem_append_right _ (.tail _ hp)))))
          clear N32 N33 N34 N35 N36
          dsimp only [List.cons_append, List.nil_append] at N37
          k_steps
          refine Wait.mk ?_
          k_dflt (refine LCg.ListComp_U (F₀ := by k_asm) (by with_unfolding_all rfl) (by decide) (by rfl) (by decide) (by rfl) ?_)
          k_steps
          refine Wait.mk ?_
          rename News _ _ _ _ => N38
          rename Fr _ _ _ _ => F38
          have hysl : ysl.length = res.length := by rw [hIl.length, FIN.llen, hdl]
          refine LCg.CompSrc.ledger rfl F38 N38 (.tail _ (.tail _ (.head _))) (by rw [List.size_toArray, hysl, sizeLine_eq]; first | with_reducible assumption | (first | lia | omega)) (fun g9 => ?_)
          refine ktup_rest (fun i => (((leftF (grT (res.map dueT))).getD i 0 + 1).toNat, (res.length : Int))) (fun i v ys9 ts9 I' oI' C' oC' D' m' h' tk' E' hi hv hy hC' hx' F' N' off' ne' => ?_) (fun ys9 ts9 hy9 => ?_)
          · clear N38 F38
            obtain ⟨nn, tnn, rfl, hnn⟩ := IntsAre.at hIl i v (by simpa using hv)
            have hbit := FIN.lbit nn (List.mem_of_getElem? hnn)
            have hn0 : 0 ≤ nn := by (first | lia | omega)
            have hn1 : nn ≤ 1 := by (first | lia | omega)
            have offs := off'
            dsimp only [List.cons_append] at N'
            k_steps
            refine Wait.mk ?_
            rename News _ _ _ _ => N39
            rename Fr _ _ _ _ => F39
            rename_i T9 hT9 lT9
            have hmul : Txt.mul (Str.ofString ".") (nn + 1) = dotStr (nn + 1).toNat := by
              rw [← mul_dots (k := (nn + 1).toNat) (by first | with_reducible assumption | (first | lia | omega))]
              congr 1
              (first | lia | omega)
            rw [hmul] at N39
            exact tup_end (f := fun i => (((leftF (grT (res.map dueT))).getD i 0 + 1).toNat, (res.length : Int))) (i := i) F39 N39 offs (Nat.ne_of_gt lT9.1) (Nat.ne_of_gt lT9.2.1) (Nat.ne_of_gt lT9.2.2.1) (by rw [List.getD_eq_getElem?_getD, hnn]; rfl) (fun x => .inr ⟨_, .tail _ (.tail _ (.head _)), rfl, _, rfl⟩)
          · intro D10 h12 tk12 F40 N40 off40
            clear N38 F38
            dsimp only [List.cons_append] at N40
            k_steps
            rename News _ _ _ _ => N41
            rename Fr _ _ _ _ => F41
            rename_i T10 hT10 lT10 LT hLT lLT
            rw [show Str.ofString "" = dotStr 0 from by decide +kernel] at N41
            refine KMa.mul (vs := [Value.ref T10]) (ws := [Value.ref T10, Value.ref T10]) F41 N41 (News.isList N41 (.head _)) (by decide) (by decide) (by show 1 * 2 ≤ 256; decide) rfl ?_
            intro D11 h13 F42 N42 l42
            clear N41 F41
            refine kmk_add_lit (zs := ys9 ++ [Value.ref T10] ++ [Value.ref T10]) F42 N42 (News.isList N42 (.tail _ (.tail _ (.tail _ (.head _))))) (News.isList N42 (.head _)) (by simp) ?_ (by
              have hz9 : ys9.length = res.length := by rw [hy9.length, List.length_map, List.length_range, List.size_toArray, hysl]
              show ys9.length + 2 ≤ _
              rw [sizeLine_eq, hz9]; first | with_reducible assumption | (first | lia | omega))
            intro D12 h14 F43 N43 l43
            clear N42 F42
            k_steps
            refine Wait.mk ?_
            rename News _ _ _ _ => N44
            rename Fr _ _ _ _ => F44
            have hll : (leftF (grT (res.map dueT))).length = res.length := by rw [FIN.llen, hdl]
            rw [show List.range ysl.toArray.size = List.range (leftF (grT (res.map dueT))).length from by rw [List.size_toArray, hysl, hll], range_getD] at hy9
            have htup3 : TupsAre arr3 uu (((leftF (grT (res.map dueT))).map fun x => (x + 1).toNat).map (·, (res.length : Int)) ++ [(0, (res.length : Int) + 1)] ++ [(0, (res.length : Int) + 1)]) := by
              have := htup2
              rw [hn', hqf] at this
              rw [List.append_assoc]
              exact this
            obtain ⟨tA, tB, hT⟩ : ∃ tA tB, h14.get? T10 = some (tupOb 0 ((res.length : Int) + 1) tA tB) ∧ T10 ≠ _ ∧ _ := ⟨_, _, N44 _ (.tail _ (.tail _ (.tail _ (.head _))))⟩
            have hy10 := (hy9.snoc (a := T10) (w := 0) (n := (res.length : Int) + 1) (t := tA) (u := tB)).snoc (a := T10) (w := 0) (n := (res.length : Int) + 1) (t := tA) (u := tB)
            have N45 : News _ _ h14 (ts9 ++ [(T10, tupOb 0 ((res.length : Int) + 1) tA tB)] ++ [(T10, tupOb 0 ((res.length : Int) + 1) tA tB)]) := fun p hp => by
              simp only [List.mem_append, List.mem_cons, List.not_mem_nil, or_false] at hp
              rcases hp with (h | rfl) | rfl
              · exact N44 p (.tail _ (.tail _ (.tail _ (.tail _ (.tail _ (.tail _ (.tail _ (.tail _ (.tail _ (.tail _ (List.mem_append_right (l.aux ++ (tt ++ uu)) h)))))))))))
              · exact hT
              · exact hT
            refine ne_tups (News.isList N44 (.tail _ (.tail _ (.tail _ (.tail _ (.tail _ (.head _))))))) (News.isList N44 (.head _)) htup3 hy10 (fun p hp => N44 p (.tail _ (.tail _ (.tail _ (.tail _ (.tail _ (.tail _ (.tail _ (.tail _ (.tail _ (.tail _ (List.mem_append_left ts9 (List.mem_append_right l.aux (List.mem_append_right tt hp)))))))))))))) N45 (by first | units_room | exact Nat.le_of_ble_eq_true rfl) ?_
            have N46 : News _ _ _ ([(gv, W.listOf arg.toArray cg), (lf, LCg.lst ysl), (s1.heap.objs.size + 1 + 1, oS1), (tl, W.listOf arr2.toArray c2)] ++ (l.aux ++ tt)) := fun p hp => N44 p (by
              rcases List.mem_append.mp hp with h | h
              · exact (.tail _ (.tail _ (.tail _ (.tail _ (.tail _ (.tail _ (List.mem_append_left (l.aux ++ (tt ++ uu) ++ ts9) h)))))))
              · refine (.tail _ (.tail _ (.tail _ (.tail _ (.tail _ (.tail _ (.tail _ (.tail _ (.tail _ (.tail _ ?_))))))))))
                rcases List.mem_append.mp h with h | h
                · exact List.mem_append_left _ (List.mem_append_left _ h)
                · exact List.mem_append_left _ (List.mem_append_right _ (List.mem_append_left _ h)))
            clear N44 N45
            dsimp only [List.cons_append, List.nil_append] at N46
            k_steps
            refine Wait.mk ?_
            k_dflt (refine LCp.ListComp_P (F₀ := by k_asm) (by with_unfolding_all rfl) (by decide) (by rfl) (by decide) (by rfl) (by rfl) (by decide) ?_)
            k_steps
            refine Wait.mk ?_
            rename News _ _ _ _ => N47
            rename Fr _ _ _ _ => F47
            have harr2 : arr2.length = res.length := by rw [htups.length, ← List.length_map (f := Prod.fst), numsT_fst, List.length_map]
            refine LCp.SrcLP.ledger rfl F47 N47 (.tail _ (.tail _ (.tail _ (.head _)))) (by rw [List.size_toArray, harr2, sizeLine_eq]; first | with_reducible assumption | (first | lia | omega)) (fun g9 => ?_)
            refine kpair_rest (fun i => (((res.map dueT).getD i 0 : Nat) : Int) - 1) (fun i v hi hv => ?_) (fun ys11 hy11 => ?_)
            · obtain ⟨ta, w, nn, tt1, tt2, rfl, hmem, hnn⟩ := htups.at (show arr2[i]? = some v by simpa using hv)
              have hdw : (res.map dueT)[i]? = some w := by rw [← numsT_fst res 1, List.getElem?_map, hnn]; rfl
              have hw5 : w ≤ 1000 := by
                obtain ⟨r, hr, hrw⟩ := List.mem_map.mp (List.mem_of_getElem? hdw)
                have q := hok r hr
                have q1 := q.d1
                have q2 := q.d2
                rw [← hrw]
                unfold dueT
                split <;> (first | lia | omega)
              refine ⟨ta, _, _, _, 0, rfl, .tail _ (.tail _ (.tail _ (.tail _ (List.mem_append_right l.aux hmem)))), rfl, rfl, ?_⟩
              intro I' oI' C' oC' D' m' ys' h' tk' E' hC' hx' hx2' F' N' off' ne'
              clear N47 F47
              have offs := off'
              k_steps
              refine Wait.mk ?_
              rename News (ghostOf _ _) _ _ _ => NQ
              rename Fr (ghostOf _ _) _ _ _ => FQ
              exact LCg.CompEnd.intro FQ NQ _ (fun p hp => hp) offs (.inr ⟨_, .tail _ (.tail _ (.tail _ (.head _))), rfl, _, rfl⟩) ⟨rfl, _, by rw [List.getD_eq_getElem?_getD, hdw]; rfl⟩
            · intro D13 h15 tk15 F48 N48 off48
              clear N47 F47
              have offz := off48
              k_steps
              refine Wait.mk ?_
              rename News _ _ _ _ => N49
              rename Fr _ _ _ _ => F49
              have hy12 : IntsAre ys11 (grT (res.map dueT)) := by
                rw [show List.range arr2.toArray.size = List.range (res.map dueT).length from by rw [List.size_toArray, harr2, hdl], range_gr] at hy11
                exact hy11
              have hl12 : ys11.length = res.length := by rw [hy12.length, hgl]
              refine wpAny_call (byn_code B0 F49 X0 T0 rfl (by ktr_room) (by ktr_units) CH0 hy12 (by rw [hl12]; exact hr2) (by rw [hl12]; exact hr4) (by rw [hl12, hgl]) (fmod_lo _ (by decide)) (Int.le_of_lt_add_one (fmod_hi _ (by decide))) (fun p hp => by cases List.mem_singleton.mp hp; exact N49 _ (.tail _ (.head _))) ?_)
              intro ln arrL cL h16 tk16 hIL hfrL hKL F50 N50
              rw [show (grT (res.map dueT)).length = (res.map dueT).length from by rw [hgl, hdl], FIN.nums] at hIL
              have N51 := news_keep (X := [(gv, W.listOf arg.toArray cg), (lf, LCg.lst ysl), (s1.heap.objs.size + 1 + 1, oS1), (tl, W.listOf arr2.toArray c2)] ++ (l.aux ++ tt)) (fun p hp => N49 p (.tail _ (.tail _ hp))) hKL (fun p hp hm => off1_mem offz p hp (List.mem_singleton.mp hm))
              have N52 := nc (N50 _ (.head _)) N51
              clear N49 N50 N51 F49
              dsimp only [List.cons_append, List.nil_append] at N52
              k_steps
              refine Wait.mk ?_
              have hga : arg.length = res.length := by rw [hIg.length, FIN.glen, hdl]
              obtain ⟨v1, hv1⟩ : ∃ v, arg[0]? = some v := ⟨_, List.getElem?_eq_getElem (by rw [hga]; exact hq4)⟩
              obtain ⟨gn1, gt1, rfl, hgn1⟩ := IntsAre.at hIg 0 v1 hv1
              obtain ⟨v2, hv2⟩ : ∃ v, arg[res.length - 1]? = some v := ⟨_, List.getElem?_eq_getElem (by rw [hga]; exact hq5)⟩
              obtain ⟨gn2, gt2, rfl, hgn2⟩ := IntsAre.at hIg _ v2 hv2
              rename News _ _ _ _ => N52
              refine item_listL (News.isList N52 (.tail _ (.head _))) (by decide) (by decide) (show arg[(0 : Int).toNat]? = some (Value.int gn1 gt1) from hv1) ?_
              try dsimp only
              k_steps
              refine Wait.mk ?_
              rename News _ _ _ _ => N53
              rename Fr _ _ _ _ => F53
              refine kmk_add_lit F53 N53 (News.isList N53 (.head _)) (News.isList N53 (.tail _ (.tail _ (.tail _ (.head _))))) rfl ?_ (by
                show 1 + ysl.length ≤ _
                rw [hysl]; exact hq6)
              intro D14 h17 F54 N54 l54
              clear N53 F53
              try dsimp only
              k_steps
              refine Wait.mk ?_
              rename News _ _ _ _ => N54
              refine item_listL (x := Value.int gn2 gt2) (News.isList N54 (.tail _ (.tail _ (.tail _ (.head _))))) hq1 hq2 (by rw [hq3]; exact hv2) ?_
              try dsimp only
              k_steps
              refine Wait.mk ?_
              rename News _ _ _ _ => N55
              rename Fr _ _ _ _ => F55
              refine kmk_add_lit F55 N55 (News.isList N55 (.tail _ (.head _))) (News.isList N55 (.head _)) rfl ?_ (by
                show (([Value.int gn1 gt1] ++ ysl).length) + 1 ≤ _
                rw [List.length_append, hysl]
                exact hq7)
              intro D15 h18 F56 N56 l56
              clear N55 F55
              try dsimp only
              k_steps
              refine Wait.mk ?_
              have hIR : IntsAre ([Value.int gn1 gt1] ++ ysl ++ [Value.int gn2 gt2]) ([gn1] ++ leftF (grT (res.map dueT)) ++ [gn2]) := IntsAre.append (IntsAre.append (.cons _ _ .nil) hIl) (.cons _ _ .nil)
              have he : [(gavesF (grT (res.map dueT)) (leftF (grT (res.map dueT)))).getD 0 0] ++ leftF (grT (res.map dueT)) ++ [(gavesF (grT (res.map dueT)) (leftF (grT (res.map dueT)))).getD ((res.map dueT).length - 1) 0] = [gn1] ++ leftF (grT (res.map dueT)) ++ [gn2] := by
                rw [List.getD_eq_getElem?_getD, List.getD_eq_getElem?_getD, hgn1, hdl, hgn2]; rfl
              refine ke_eq_ints (xs := arrL) (ys := [Value.int gn1 gt1] ++ ysl ++ [Value.int gn2 gt2]) (News.isList N56 (.tail _ (.tail _ (.tail _ (.tail _ (.head _)))))) (News.isList N56 (.head _)) hIL hIR (by first | units_room | exact Nat.le_of_ble_eq_true rfl) ?_
              rw [decide_eq_true he]
              refine ⟨?_, ⟨_, (N56 (134, tabObj tps) (.tail _ (.tail _ (.tail _ (.tail _ (.tail _ (.tail _ (.tail _ (.tail _ (.tail _ (List.mem_append_left _ htab))))))))))).1⟩, True.intro⟩
              clear N56
              exact law_end F56 (by assumption) rfl
      case some =>
        intro v hv oi' h' hoi' hkp F4 N4
        clear F18 N19
        k_unfold
        try dsimp only
        obtain ⟨ta, w, nn, tt1, tt2, rfl, hmem, hnn⟩ := htups.at hv
        refine wpAny_letOwnedTupleGo_listiter (i := j + 1) ⟨_, (N4 _ (.head _)).1, hoi'.c, hoi'.d⟩ ?_
        refine held_any ?_
        have N5 := nc (N4 (ta, tupOb w nn tt1 tt2) (.tail _ (List.mem_append_right _ (List.mem_append_right _ (List.mem_append_right _ hmem))))) N4
        dsimp only [tupOb, LexS.led, List.cons_append] at N5
        dsimp only [frm] at F4
        have hdw : (res.map dueT)[j]? = some w := by rw [← numsT_fst res 1, List.getElem?_map, hnn]; rfl
        have hjr : j < res.length := by
          have := (List.getElem?_eq_some_iff.mp hdw).1
          simpa using this
        k_steps
        refine Wait.mk ?_
        rename News _ _ _ _ => N6
        rename Fr _ _ _ _ => F6
        have N7 := news_swap (X := l.led n' tn2 vs1 c5 (k2 : Int) tp2 0) (Y := [(I, oi')]) (Z := R6 ++ (ts ++ tt)) (fun p hp => N6 p (.tail _ hp))
        have hofI : ∀ p ∈ [((I : Addr), (oi' : Obj))] ++ (R6 ++ (ts ++ tt)), p.1 ∉ l.adr := fun p hp => by
          rcases List.mem_append.mp hp with h | h
          · rw [List.mem_singleton.mp h]; exact hIa
          · exact hofr p h
        refine push_use B0 F6 X0 T0 rfl (by ktr_room) (by ktr_units) l lok hds (by rw [List.length_take]; first | with_reducible assumption | (first | lia | omega)) hofI N7 ?_
        intro vs6 c6 h10 tk10 hds6 hK6 F9 N9
        clear N6 F6 N7
        have N10 := news_swap (X := [(I, oi')]) (Y := l.led n' tn2 vs6 c6 (k2 : Int) tp2 0) (Z := R6 ++ (ts ++ tt)) N9
        clear N9
        k_steps
        try dsimp only
        obtain ⟨mA, FB⟩ := fr_puts [(Str.ofString "told", .ref tl), (Str.ofString "lexer", .ref l.x), (Str.ofString "script", .ref sl)] F9 ⟨rfl, rfl, rfl, trivial⟩
        refine Held.mk ⟨res.length - (j + 1), by (first | lia | omega), mkJ1 _ (j + 1) vs6 c6 oi' _ _ mA (by first | with_reducible assumption | (first | lia | omega)) ?_ hoi' FB N10⟩
        rw [List.take_succ, hdw]
        exact hds6
end
end SW
theorem PySem.Challenge.cw_sw0004_01_holds : PySem.Challenge.rw_sw0004_01.Holds := by
  exact SW.law_holds
