import PyProof.Rows.All
import Wide.All
import OpenK.AllK
import Wide.FinOn
import KE.KCat
import KE.LcSums
import PySem.Challenge.RW_sc0022_01
set_option Elab.async false
set_option maxRecDepth 100000

section
open PySem PySem.W PyProof.Rows
set_option maxHeartbeats 8000000
namespace Mine
open_top hd for PySem.Challenge.rw_sc0022_01
end Mine
end

section
open PySem PySem.W PyProof.Rows PySem.Calls
namespace Mine

/-- every object that stood stands as it stood -/
def Keeps (h h' : Heap) : Prop := ∀ b o, h.get? b = some o → h'.get? b = some o
theorem Keeps.refl (h : Heap) : Keeps h h := fun _ _ e => e
theorem Keeps.trans {h h' h'' : Heap} (a : Keeps h h') (b : Keeps h' h'') : Keeps h h'' := fun x o e => b x o (a x o e)

noncomputable abbrev loose0 : List Str := looseW hd.view_39 [Str.ofString "_twin_re_1", Str.ofString "_twin_re_2", Str.ofString "_twin_re_3"]

/-- what the text's top has laid, at a heap -/
structure Rdy (w : World) (h : Heap) : Prop where
  X : (hd.heap_39 w.params).In h
  T : ∃ mean mg mb, Top hd.view_39 loose0 mean mg mb h
theorem Rdy.keeps {w : World} {h h' : Heap} (r : Rdy w h) (k : Keeps h h') : Rdy w h' :=
  ⟨r.X.keeps k, let ⟨a, b, c, t⟩ := r.T; ⟨a, b, c, t.keeps k⟩⟩
theorem Rdy.nolimit {w : World} {h : Heap} (r : Rdy w h) : h.NoLimit := let ⟨_, _, _, t⟩ := r.T; t.nolimit

section
variable {prog : Program} {w : World} {A : Around} {s : Shared} {K : Frag} {E : Value → Shared → Prop} {Q : Value → Shared → Prop}

/-- a call of a def of the text, its body walked over the whole heap as it stands -/
theorem enter {name qual : Str} {params : Arguments} {body : List Stmt} {scope : Scope} {dV kV doc pm cdv ct oc : Value} {an od : Option Addr} {osl : Array (Option Value)} {f : Addr} {vs : List Value} {binds : List (Str × Value)}
    (X : K.In s.heap) (hlim : s.heap.NoLimit)
    (ho : K.lookup f = some ⟨oc, od, .func (fnOf name qual params body scope dV kV doc pm an cdv ct), osl⟩) (hcd : codeIn K cdv qual = true) (hroom : A.depth < recursionLimit)
    (hbind : BindsTo s (fnOf name qual params body scope dV kV doc pm an cdv ct) ⟨vs, []⟩ binds) (hloc : ∀ y ∈ binds, scope.names.lookup y.1 = some .local)
    (h : ∀ h₁ tk, Fr s.heap s.heap.objs.size h₁ (fun y => binds.reverse.lookup y) →
      wpAny (model prog w) (A.deeper (envOf qual scope s.heap.objs.size f cdv)) (execs body (envOf qual scope s.heap.objs.size f cdv))
        (fun fl s' => Q (match fl with | .ret v => v | _ => .none) s') (fun _ _ => False)
        { s with heap := h₁, toks := tk })
    (hco : scope.isCoroutine = false) (hgen : scope.isGenerator = false) (hk : scope.kind = .function)
    (hcell : ∀ x ∈ scope.names, x.2 ≠ .cell) : wpAny (model prog w) A (call (.ref f) vs) Q E s := by
  refine wpAny_call (codeAny_call_def (fd := fnOf name qual params body scope dV kV doc pm an cdv ct) (body := body) (binds := binds) hroom (X _ _ ho) rfl hlim (codeRec_of X hcd) rfl hbind hcell hloc (fun h₁ hns hk₁ => ?_) hco hgen hk)
  exact wpAny_mono (h h₁ _ ⟨hns, hk₁, Nat.le_refl _⟩) (fun _ _ x => x) (fun _ _ x => x.elim)
end
end Mine
end

section
namespace Mine.Re
open PySem

abbrev M := Sre.M
abbrev Seen := Sre.Seen
abbrev SF := Sre.Frame
def code1 : Array Nat := #[14, 4, 0, 1, 1, 6, 1, 16, 46, 1]
def code3 : Array Nat := #[14, 9, 4, 1, 2, 16, 10, 16, 13, 0, 7, 7, 16, 13, 16, 10, 15, 18, 5, 16, 10, 15, 13, 11, 16, 13, 5, 5, 0, 16, 10, 1, 15, 2, 0, 1]

theorem step_fix {m : M} (h : m.outcome.isSome = true) : m.step = m := by unfold Sre.M.step; rw [if_pos h]
theorem runFor_fix {m : M} (h : m.outcome.isSome = true) : ∀ n, Sre.M.runFor n m = m
  | 0 => rfl
  | n + 1 => by unfold Sre.M.runFor; rw [if_pos h]
theorem runFor_succ (n : Nat) (m : M) : Sre.M.runFor (n + 1) m = Sre.M.runFor n m.step := by
  rw [Sre.M.runFor]
  split
  · rename_i h; rw [step_fix h, runFor_fix h]
  · rfl
theorem runFor_add (a b : Nat) (m : M) : Sre.M.runFor (a + b) m = Sre.M.runFor b (Sre.M.runFor a m) := by
  induction a generalizing m with
  | zero => rw [Nat.zero_add]; rfl
  | succ a ih => rw [Nat.succ_add, runFor_succ, runFor_succ, ih]

/-- a machine in a search of these patterns: no groups, no loops -/
def S (code text : Array Nat) (lim start pc pos handed : Nat) (om : Bool) (fs : List SF) (w : Nat) (ans : Option Bool) (seen : Seen) : M :=
  { code, text, lim, start, lastStart := lim, pc, pos, handed, outermost := om, marks := #[], frames := fs, weight := w, answer := ans, seen }

theorem st1_at {text : Array Nat} {lim start pos hd w : Nat} {om : Bool} {fs : List SF} {seen : Seen} :
    Sre.M.step (S code1 text lim start 5 pos hd om fs w none seen) =
      (if (pos == 0 || text.getD (pos - 1) 0 == 10) = true then S code1 text lim start 7 pos hd om fs w none ((seen.add 6).add 44) else S code1 text lim start 5 pos hd om fs w (some false) ((seen.add 6).add 44)) := by
  rfl

theorem st1_lit7 {text : Array Nat} {lim start pos hd w : Nat} {om : Bool} {fs : List SF} {seen : Seen} :
    Sre.M.step (S code1 text lim start 7 pos hd om fs w none seen) =
      (if pos ≥ lim then S code1 text lim start 7 pos hd om fs w (some false) (seen.add 16) else
        match (text.getD pos 0 == 46) with
        | true => S code1 text lim start 9 (pos + 1) hd om fs w none (seen.add 16)
        | false => S code1 text lim start 7 pos hd om fs w (some false) (seen.add 16)) := by
  show (if pos ≥ lim then _ else _) = (if pos ≥ lim then _ else _)
  split
  · rfl
  · cases h : (text.getD pos 0 == 46) with
    | true =>
      have : Sre.accepts code1 7 (text.getD pos 0) (seen.add 16) = .ok (true, seen.add 16) := by
        show Except.ok (text.getD pos 0 == 46, _) = _
        rw [h]
      show (match Sre.accepts code1 7 (text.getD pos 0) (seen.add 16) with | .error why => _ | .ok (false, seen) => _ | .ok (true, seen) => _) = _
      rw [this]; rfl
    | false =>
      have : Sre.accepts code1 7 (text.getD pos 0) (seen.add 16) = .ok (false, seen.add 16) := by
        show Except.ok (text.getD pos 0 == 46, _) = _
        rw [h]
      show (match Sre.accepts code1 7 (text.getD pos 0) (seen.add 16) with | .error why => _ | .ok (false, seen) => _ | .ok (true, seen) => _) = _
      rw [this]; rfl

theorem st3_lit12 {text : Array Nat} {lim start pos hd w : Nat} {om : Bool} {fs : List SF} {seen : Seen} :
    Sre.M.step (S code3 text lim start 12 pos hd om fs w none seen) =
      (if pos ≥ lim then S code3 text lim start 12 pos hd om fs w (some false) (seen.add 16) else
        match (text.getD pos 0 == 13) with
        | true => S code3 text lim start 14 (pos + 1) hd om fs w none (seen.add 16)
        | false => S code3 text lim start 12 pos hd om fs w (some false) (seen.add 16)) := by
  show (if pos ≥ lim then _ else _) = (if pos ≥ lim then _ else _)
  split
  · rfl
  · cases h : (text.getD pos 0 == 13) with
    | true =>
      have : Sre.accepts code3 12 (text.getD pos 0) (seen.add 16) = .ok (true, seen.add 16) := by
        show Except.ok (text.getD pos 0 == 13, _) = _
        rw [h]
      show (match Sre.accepts code3 12 (text.getD pos 0) (seen.add 16) with | .error why => _ | .ok (false, seen) => _ | .ok (true, seen) => _) = _
      rw [this]; rfl
    | false =>
      have : Sre.accepts code3 12 (text.getD pos 0) (seen.add 16) = .ok (false, seen.add 16) := by
        show Except.ok (text.getD pos 0 == 13, _) = _
        rw [h]
      show (match Sre.accepts code3 12 (text.getD pos 0) (seen.add 16) with | .error why => _ | .ok (false, seen) => _ | .ok (true, seen) => _) = _
      rw [this]; rfl

theorem st3_lit14 {text : Array Nat} {lim start pos hd w : Nat} {om : Bool} {fs : List SF} {seen : Seen} :
    Sre.M.step (S code3 text lim start 14 pos hd om fs w none seen) =
      (if pos ≥ lim then S code3 text lim start 14 pos hd om fs w (some false) (seen.add 16) else
        match (text.getD pos 0 == 10) with
        | true => S code3 text lim start 16 (pos + 1) hd om fs w none (seen.add 16)
        | false => S code3 text lim start 14 pos hd om fs w (some false) (seen.add 16)) := by
  show (if pos ≥ lim then _ else _) = (if pos ≥ lim then _ else _)
  split
  · rfl
  · cases h : (text.getD pos 0 == 10) with
    | true =>
      have : Sre.accepts code3 14 (text.getD pos 0) (seen.add 16) = .ok (true, seen.add 16) := by
        show Except.ok (text.getD pos 0 == 10, _) = _
        rw [h]
      show (match Sre.accepts code3 14 (text.getD pos 0) (seen.add 16) with | .error why => _ | .ok (false, seen) => _ | .ok (true, seen) => _) = _
      rw [this]; rfl
    | false =>
      have : Sre.accepts code3 14 (text.getD pos 0) (seen.add 16) = .ok (false, seen.add 16) := by
        show Except.ok (text.getD pos 0 == 10, _) = _
        rw [h]
      show (match Sre.accepts code3 14 (text.getD pos 0) (seen.add 16) with | .error why => _ | .ok (false, seen) => _ | .ok (true, seen) => _) = _
      rw [this]; rfl

theorem st3_lit19 {text : Array Nat} {lim start pos hd w : Nat} {om : Bool} {fs : List SF} {seen : Seen} :
    Sre.M.step (S code3 text lim start 19 pos hd om fs w none seen) =
      (if pos ≥ lim then S code3 text lim start 19 pos hd om fs w (some false) (seen.add 16) else
        match (text.getD pos 0 == 10) with
        | true => S code3 text lim start 21 (pos + 1) hd om fs w none (seen.add 16)
        | false => S code3 text lim start 19 pos hd om fs w (some false) (seen.add 16)) := by
  show (if pos ≥ lim then _ else _) = (if pos ≥ lim then _ else _)
  split
  · rfl
  · cases h : (text.getD pos 0 == 10) with
    | true =>
      have : Sre.accepts code3 19 (text.getD pos 0) (seen.add 16) = .ok (true, seen.add 16) := by
        show Except.ok (text.getD pos 0 == 10, _) = _
        rw [h]
      show (match Sre.accepts code3 19 (text.getD pos 0) (seen.add 16) with | .error why => _ | .ok (false, seen) => _ | .ok (true, seen) => _) = _
      rw [this]; rfl
    | false =>
      have : Sre.accepts code3 19 (text.getD pos 0) (seen.add 16) = .ok (false, seen.add 16) := by
        show Except.ok (text.getD pos 0 == 10, _) = _
        rw [h]
      show (match Sre.accepts code3 19 (text.getD pos 0) (seen.add 16) with | .error why => _ | .ok (false, seen) => _ | .ok (true, seen) => _) = _
      rw [this]; rfl

theorem st3_lit24 {text : Array Nat} {lim start pos hd w : Nat} {om : Bool} {fs : List SF} {seen : Seen} :
    Sre.M.step (S code3 text lim start 24 pos hd om fs w none seen) =
      (if pos ≥ lim then S code3 text lim start 24 pos hd om fs w (some false) (seen.add 16) else
        match (text.getD pos 0 == 13) with
        | true => S code3 text lim start 26 (pos + 1) hd om fs w none (seen.add 16)
        | false => S code3 text lim start 24 pos hd om fs w (some false) (seen.add 16)) := by
  show (if pos ≥ lim then _ else _) = (if pos ≥ lim then _ else _)
  split
  · rfl
  · cases h : (text.getD pos 0 == 13) with
    | true =>
      have : Sre.accepts code3 24 (text.getD pos 0) (seen.add 16) = .ok (true, seen.add 16) := by
        show Except.ok (text.getD pos 0 == 13, _) = _
        rw [h]
      show (match Sre.accepts code3 24 (text.getD pos 0) (seen.add 16) with | .error why => _ | .ok (false, seen) => _ | .ok (true, seen) => _) = _
      rw [this]; rfl
    | false =>
      have : Sre.accepts code3 24 (text.getD pos 0) (seen.add 16) = .ok (false, seen.add 16) := by
        show Except.ok (text.getD pos 0 == 13, _) = _
        rw [h]
      show (match Sre.accepts code3 24 (text.getD pos 0) (seen.add 16) with | .error why => _ | .ok (false, seen) => _ | .ok (true, seen) => _) = _
      rw [this]; rfl

theorem st3_lit29 {text : Array Nat} {lim start pos hd w : Nat} {om : Bool} {fs : List SF} {seen : Seen} :
    Sre.M.step (S code3 text lim start 29 pos hd om fs w none seen) =
      (if pos ≥ lim then S code3 text lim start 29 pos hd om fs w (some false) (seen.add 16) else
        match (text.getD pos 0 == 10) with
        | true => S code3 text lim start 31 (pos + 1) hd om fs w none (seen.add 16)
        | false => S code3 text lim start 29 pos hd om fs w (some false) (seen.add 16)) := by
  show (if pos ≥ lim then _ else _) = (if pos ≥ lim then _ else _)
  split
  · rfl
  · cases h : (text.getD pos 0 == 10) with
    | true =>
      have : Sre.accepts code3 29 (text.getD pos 0) (seen.add 16) = .ok (true, seen.add 16) := by
        show Except.ok (text.getD pos 0 == 10, _) = _
        rw [h]
      show (match Sre.accepts code3 29 (text.getD pos 0) (seen.add 16) with | .error why => _ | .ok (false, seen) => _ | .ok (true, seen) => _) = _
      rw [this]; rfl
    | false =>
      have : Sre.accepts code3 29 (text.getD pos 0) (seen.add 16) = .ok (false, seen.add 16) := by
        show Except.ok (text.getD pos 0 == 10, _) = _
        rw [h]
      show (match Sre.accepts code3 29 (text.getD pos 0) (seen.add 16) with | .error why => _ | .ok (false, seen) => _ | .ok (true, seen) => _) = _
      rw [this]; rfl

theorem st3_jump16 {text : Array Nat} {lim start pos hd w : Nat} {om : Bool} {fs : List SF} {seen : Seen} :
    Sre.M.step (S code3 text lim start 16 pos hd om fs w none seen) = S code3 text lim start 35 pos hd om fs w none (seen.add 15) := rfl

theorem st3_jump21 {text : Array Nat} {lim start pos hd w : Nat} {om : Bool} {fs : List SF} {seen : Seen} :
    Sre.M.step (S code3 text lim start 21 pos hd om fs w none seen) = S code3 text lim start 35 pos hd om fs w none (seen.add 15) := rfl

theorem st3_jump32 {text : Array Nat} {lim start pos hd w : Nat} {om : Bool} {fs : List SF} {seen : Seen} :
    Sre.M.step (S code3 text lim start 32 pos hd om fs w none seen) = S code3 text lim start 35 pos hd om fs w none (seen.add 15) := rfl

theorem st1_succ9 {text : Array Nat} {lim start pos hd w : Nat} {om : Bool} {fs : List SF} {seen : Seen} :
    Sre.M.step (S code1 text lim start 9 pos hd om fs w none seen) = S code1 text lim start 9 pos pos om fs w (some true) (seen.add 1) := by
  cases om <;> rfl

theorem st3_succ35 {text : Array Nat} {lim start pos hd w : Nat} {om : Bool} {fs : List SF} {seen : Seen} :
    Sre.M.step (S code3 text lim start 35 pos hd om fs w none seen) = S code3 text lim start 35 pos pos om fs w (some true) (seen.add 1) := by
  cases om <;> rfl

theorem st3_succ31 {text : Array Nat} {lim start pos hd w : Nat} {om : Bool} {fs : List SF} {seen : Seen} :
    Sre.M.step (S code3 text lim start 31 pos hd om fs w none seen) = S code3 text lim start 31 pos pos om fs w (some true) (seen.add 1) := by
  cases om <;> rfl

/-- the frame that waits for a start's answer -/
def F0 (pc s : Nat) (om : Bool) : SF := { wait := .nextStart, pc, pos := s, outermost := om }
def K0 : Sre.Kept := { lastmark := -1, lastindex := -1, whole := false, marks := #[] }
/-- the frame that waits for a branch's answer -/
def FB (pc s : Nat) (om : Bool) : SF := { wait := .nextBranch, pc, pos := s, outermost := om, kept := K0 }
def FL (s : Nat) (om : Bool) : SF := { wait := .lookNot, pc := 26, pos := s, outermost := om, kept := K0 }
/-- the machine at its end -/
def FinM (m : M) (yes : Bool) : M := { m with outcome := some (if yes then .matched else .failed) }

theorem st1_fail {text : Array Nat} {lim start pc pos hd s : Nat} {om om' : Bool} {seen : Seen} :
    Sre.M.step (S code1 text lim start pc pos hd om [F0 5 s om'] 1 (some false) seen) =
      (if s < lim then S code1 text lim (s + 1) 5 (s + 1) (s + 1) false [F0 5 (s + 1) false] 1 none seen else S code1 text lim start 5 s hd om' [] 0 (some false) seen) := by
  show (if s < lim then _ else _) = (if s < lim then _ else _)
  split <;> rfl
theorem st_ok {code text : Array Nat} {lim start pc pos hd pc' s w : Nat} {om om' : Bool} {seen : Seen} {fs : List SF} :
    Sre.M.step (S code text lim start pc pos hd om (F0 pc' s om' :: fs) w (some true) seen) = S code text lim start pc' s hd om' fs (w - 1) (some true) seen := rfl
theorem st_okB {code text : Array Nat} {lim start pc pos hd pc' s w : Nat} {om om' : Bool} {seen : Seen} {fs : List SF} :
    Sre.M.step (S code text lim start pc pos hd om (FB pc' s om' :: fs) w (some true) seen) = S code text lim start pc' s hd om' fs (w - 1) (some true) seen := rfl
theorem st_end {code text : Array Nat} {lim start pc pos hd w : Nat} {om yes : Bool} {seen : Seen} :
    Sre.M.step (S code text lim start pc pos hd om [] w (some yes) seen) = FinM (S code text lim start pc pos hd om [] w (some yes) seen) yes := rfl
theorem st3_branch {text : Array Nat} {lim start pos hd : Nat} {om : Bool} {fs : List SF} {seen : Seen} :
    Sre.M.step (S code3 text lim start 10 pos hd om fs 1 none seen) = S code3 text lim start 12 pos pos om (FB 11 pos om :: fs) 2 none (seen.add 7) := rfl
theorem st3_next11 {text : Array Nat} {lim start pc pos hd s : Nat} {om om' : Bool} {fs : List SF} {seen : Seen} :
    Sre.M.step (S code3 text lim start pc pos hd om (FB 11 s om' :: fs) 2 (some false) seen) = S code3 text lim start 19 s s om' (FB 18 s om' :: fs) 2 none seen := rfl
theorem st3_next18 {text : Array Nat} {lim start pc pos hd s : Nat} {om om' : Bool} {fs : List SF} {seen : Seen} :
    Sre.M.step (S code3 text lim start pc pos hd om (FB 18 s om' :: fs) 2 (some false) seen) = S code3 text lim start 24 s s om' (FB 23 s om' :: fs) 2 none seen := rfl
theorem st3_assert {text : Array Nat} {lim start pos hd : Nat} {om : Bool} {fs : List SF} {seen : Seen} :
    Sre.M.step (S code3 text lim start 26 pos hd om fs 2 none seen) = S code3 text lim start 29 pos pos false (FL pos om :: fs) 3 none (seen.add 5) := rfl
theorem st3_look {text : Array Nat} {lim start pc pos hd s : Nat} {om om' : Bool} {fs : List SF} {seen : Seen} :
    Sre.M.step (S code3 text lim start pc pos hd om (FL s om' :: fs) 3 (some false) seen) = S code3 text lim start 32 s hd om' fs 2 none seen := rfl
end Mine.Re
end

section
namespace Mine.Re
open PySem

/-- from m the machine comes to an end that says `yes`, having found from p to e -/
def Ends (m : M) (B : Nat) (r : Option (Nat × Nat)) : Prop :=
  ∃ n, n ≤ B ∧ match r with
    | some (p, e) => (Sre.M.runFor n m).outcome = some .matched ∧ (Sre.M.runFor n m).start = p ∧ (Sre.M.runFor n m).handed = e
    | none => (Sre.M.runFor n m).outcome = some .failed
theorem Ends.step {m : M} {B : Nat} {r : Option (Nat × Nat)} (h : Ends m.step B r) : Ends m (B + 1) r := by
  obtain ⟨n, hn, h⟩ := h
  exact ⟨n + 1, by omega, by rw [runFor_succ]; exact h⟩
theorem Ends.step' {m m' : M} {B : Nat} {r : Option (Nat × Nat)} (e : m.step = m') (h : Ends m' B r) : Ends m (B + 1) r := Ends.step (e ▸ h)
theorem Ends.mono {m : M} {B B' : Nat} {r : Option (Nat × Nat)} (h : Ends m B r) (hb : B ≤ B') : Ends m B' r := by
  obtain ⟨n, hn, h⟩ := h; exact ⟨n, by omega, h⟩
theorem Ends.yes {code text : Array Nat} {lim start pc pos hd w : Nat} {om : Bool} {seen : Seen} : Ends (S code text lim start pc pos hd om [] w (some true) seen) 1 (some (start, hd)) :=
  ⟨1, Nat.le_refl _, by rw [runFor_succ, st_end]; exact ⟨rfl, rfl, rfl⟩⟩
theorem Ends.no {code text : Array Nat} {lim start pc pos hd w : Nat} {om : Bool} {seen : Seen} : Ends (S code text lim start pc pos hd om [] w (some false) seen) 1 none :=
  ⟨1, Nat.le_refl _, by rw [runFor_succ, st_end]; rfl⟩

/-- a dot at a row's start -/
def atS (text : Array Nat) (p : Nat) : Bool := p == 0 || text.getD (p - 1) 0 == 10
def hit1 (text : Array Nat) (lim p : Nat) : Bool := atS text p && decide (p < lim) && text.getD p 0 == 46

def A1 (text : Array Nat) (lim s : Nat) (om : Bool) (seen : Seen) : M := S code1 text lim s 5 s s om [F0 5 s om] 1 none seen

theorem a1_hit {text : Array Nat} {lim s : Nat} {om : Bool} {seen : Seen} (h : hit1 text lim s = true) : Ends (A1 text lim s om seen) 5 (some (s, s + 1)) := by
  simp only [hit1, Bool.and_eq_true, decide_eq_true_eq] at h
  obtain ⟨⟨h1, h2⟩, h3⟩ := h
  refine Ends.step' (st1_at.trans (if_pos h1)) ?_
  refine Ends.step' (st1_lit7.trans ((if_neg (by omega)).trans (by rw [h3]))) ?_
  refine Ends.step' st1_succ9 ?_
  refine Ends.step' st_ok ?_
  exact Ends.yes
theorem a1_miss {text : Array Nat} {lim s : Nat} {om : Bool} {seen : Seen} {B : Nat} {r : Option (Nat × Nat)} (h : hit1 text lim s = false) (hs : s < lim) (k : ∀ seen', Ends (A1 text lim (s + 1) false seen') B r) :
    Ends (A1 text lim s om seen) (B + 3) r := by
  by_cases h1 : atS text s = true
  · refine Ends.step' (st1_at.trans (if_pos h1)) ?_
    have h3 : (text.getD s 0 == 46) = false := by
      simp only [hit1, h1, hs, decide_true, Bool.true_and] at h
      exact h
    refine Ends.step' (st1_lit7.trans ((if_neg (by omega)).trans (by rw [h3]))) ?_
    exact Ends.step' (st1_fail.trans (if_pos hs)) (k _)
  · refine Ends.mono (Ends.step' (st1_at.trans (if_neg h1)) ?_) (Nat.le_refl (B + 2 + 1))
    exact Ends.mono (Ends.step' (st1_fail.trans (if_pos hs)) (k _)) (by omega)
theorem a1_last {text : Array Nat} {lim s : Nat} {om : Bool} {seen : Seen} (hs : lim ≤ s) : Ends (A1 text lim s om seen) 4 none := by
  by_cases h1 : atS text s = true
  · refine Ends.step' (st1_at.trans (if_pos h1)) ?_
    refine Ends.step' (st1_lit7.trans (if_pos hs)) ?_
    exact Ends.step' (st1_fail.trans (if_neg (by omega))) Ends.no
  · refine Ends.mono (Ends.step' (st1_at.trans (if_neg h1)) ?_) (Nat.le_refl (3 + 1))
    exact Ends.mono (Ends.step' (st1_fail.trans (if_neg (by omega))) Ends.no) (by omega)

/-- where the next dot at a row's start stands -/
def next1 (text : Array Nat) (lim : Nat) : (fuel s : Nat) → Option (Nat × Nat)
  | 0, _ => none
  | k + 1, s => if hit1 text lim s then some (s, s + 1) else next1 text lim k (s + 1)
theorem a1_ends (text : Array Nat) (lim : Nat) : ∀ k s om seen, s + k = lim → Ends (A1 text lim s om seen) (3 * k + 5) (next1 text lim k s)
  | 0, s, om, seen, e => Ends.mono (a1_last (by omega)) (by omega)
  | k + 1, s, om, seen, e => by
    unfold next1
    cases h : hit1 text lim s with
    | true => exact Ends.mono (a1_hit h) (by omega)
    | false => exact Ends.mono (a1_miss h (by omega) fun seen' => a1_ends text lim k (s + 1) false seen' (by omega)) (by omega)
theorem search1 (text : Array Nat) (lim s : Nat) (hs : s ≤ lim) : Ends (Sre.forSearch code1 text 0 s lim false) (3 * lim + 5) (next1 text lim (lim - s) s) := by
  by_cases h : s < lim
  · have e : Sre.forSearch code1 text 0 s lim false = A1 text lim s true (Sre.Seen.add {} 14) := by
      unfold Sre.forSearch
      have c : ¬ ((decide (s > lim) || decide (lim - s < (Sre.header code1).1)) = true) := by
        have : (Sre.header code1).1 = 1 := rfl
        rw [this]; simp; omega
      show (if (decide (s > lim) || decide (lim - s < (Sre.header code1).1)) = true then _ else _) = _
      rw [if_neg c]
      rfl
    rw [e]
    exact Ends.mono (a1_ends text lim (lim - s) s true _ (by omega)) (by omega)
  · obtain rfl : s = lim := by omega
    have e : Sre.forSearch code1 text 0 s s false = (Sre.forSearch code1 text 0 s s false) := rfl
    refine ⟨1, by omega, ?_⟩
    rw [Nat.sub_self]
    show (Sre.M.runFor 1 (Sre.forSearch code1 text 0 s s false)).outcome = some .failed
    unfold Sre.forSearch
    have c : ((decide (s > s) || decide (s - s < (Sre.header code1).1)) = true) := by
      have : (Sre.header code1).1 = 1 := rfl
      rw [this]; simp
    show (Sre.M.runFor 1 (if (decide (s > s) || decide (s - s < (Sre.header code1).1)) = true then _ else _)).outcome = _
    rw [if_pos c]
    rfl

/-- pattern 3: at an end of a line -/
def isEnd (c : Nat) : Bool := c == 10 || c == 13
def end3 (text : Array Nat) (lim p : Nat) : Nat := if text.getD p 0 = 13 ∧ p + 1 < lim ∧ text.getD (p + 1) 0 = 10 then p + 2 else p + 1
def A3 (text : Array Nat) (lim s : Nat) (om : Bool) (seen : Seen) : M := S code3 text lim s 10 s s om [F0 10 s om] 1 none seen
theorem a3_ends {text : Array Nat} {lim s : Nat} {om : Bool} {seen : Seen} (hs : s < lim) (h : isEnd (text.getD s 0) = true) : Ends (A3 text lim s om seen) 20 (some (s, end3 text lim s)) := by
  refine Ends.mono (Ends.step' st3_branch ?_) (Nat.le_refl (19 + 1))
  by_cases h13 : text.getD s 0 = 13
  · have b13 : (text.getD s 0 == 13) = true := by simpa using h13
    have b10 : (text.getD s 0 == 10) = false := by rw [h13]; rfl
    refine Ends.mono (Ends.step' (st3_lit12.trans ((if_neg (by omega)).trans (by rw [b13]))) ?_) (Nat.le_refl (18 + 1))
    by_cases hn : s + 1 < lim ∧ text.getD (s + 1) 0 = 10
    · have n10 : (text.getD (s + 1) 0 == 10) = true := by simpa using hn.2
      rw [end3, if_pos ⟨h13, hn⟩]
      refine Ends.mono (Ends.step' (st3_lit14.trans ((if_neg (by omega)).trans (by rw [n10]))) ?_) (Nat.le_refl (17 + 1))
      refine Ends.mono (Ends.step' st3_jump16 ?_) (Nat.le_refl (16 + 1))
      refine Ends.mono (Ends.step' st3_succ35 ?_) (Nat.le_refl (15 + 1))
      refine Ends.mono (Ends.step' st_okB ?_) (Nat.le_refl (14 + 1))
      refine Ends.mono (Ends.step' st_ok ?_) (Nat.le_refl (13 + 1))
      exact Ends.mono Ends.yes (by omega)
    · rw [end3, if_neg (fun q => hn q.2)]
      -- the first branch falls, the second falls, the third holds
      have key : ∀ seen', Ends (S code3 text lim s 14 (s + 1) s om [FB 11 s om, F0 10 s om] 2 (some false) seen') 17 (some (s, s + 1)) := by
        intro seen'
        refine Ends.mono (Ends.step' st3_next11 ?_) (Nat.le_refl (16 + 1))
        refine Ends.mono (Ends.step' (st3_lit19.trans ((if_neg (by omega)).trans (by rw [b10]))) ?_) (Nat.le_refl (15 + 1))
        refine Ends.mono (Ends.step' st3_next18 ?_) (Nat.le_refl (14 + 1))
        refine Ends.mono (Ends.step' (st3_lit24.trans ((if_neg (by omega)).trans (by rw [b13]))) ?_) (Nat.le_refl (13 + 1))
        refine Ends.mono (Ends.step' st3_assert ?_) (Nat.le_refl (12 + 1))
        have key2 : ∀ seen', Ends (S code3 text lim s 29 (s + 1) (s + 1) false [FL (s + 1) om, FB 23 s om, F0 10 s om] 3 (some false) seen') 11 (some (s, s + 1)) := by
          intro seen'
          refine Ends.mono (Ends.step' st3_look ?_) (Nat.le_refl (10 + 1))
          refine Ends.mono (Ends.step' st3_jump32 ?_) (Nat.le_refl (9 + 1))
          refine Ends.mono (Ends.step' st3_succ35 ?_) (Nat.le_refl (8 + 1))
          refine Ends.mono (Ends.step' st_okB ?_) (Nat.le_refl (7 + 1))
          refine Ends.mono (Ends.step' st_ok ?_) (Nat.le_refl (6 + 1))
          exact Ends.mono Ends.yes (by omega)
        by_cases hl : s + 1 < lim
        · have n10 : (text.getD (s + 1) 0 == 10) = false := by simpa using fun q => hn ⟨hl, q⟩
          exact Ends.step' (st3_lit29.trans ((if_neg (by omega)).trans (by rw [n10]))) (key2 _)
        · exact Ends.step' (st3_lit29.trans (if_pos (by omega))) (key2 _)
      by_cases hl : s + 1 < lim
      · have n10 : (text.getD (s + 1) 0 == 10) = false := by simpa using fun q => hn ⟨hl, q⟩
        exact Ends.step' (st3_lit14.trans ((if_neg (by omega)).trans (by rw [n10]))) (key _)
      · exact Ends.step' (st3_lit14.trans (if_pos (by omega))) (key _)
  · have h10 : text.getD s 0 = 10 := by
      simp only [isEnd, Bool.or_eq_true, beq_iff_eq] at h
      exact h.resolve_right h13
    have b13 : (text.getD s 0 == 13) = false := by simpa using h13
    have b10 : (text.getD s 0 == 10) = true := by simpa using h10
    rw [end3, if_neg (fun q => h13 q.1)]
    refine Ends.mono (Ends.step' (st3_lit12.trans ((if_neg (by omega)).trans (by rw [b13]))) ?_) (Nat.le_refl (18 + 1))
    refine Ends.mono (Ends.step' st3_next11 ?_) (Nat.le_refl (17 + 1))
    refine Ends.mono (Ends.step' (st3_lit19.trans ((if_neg (by omega)).trans (by rw [b10]))) ?_) (Nat.le_refl (16 + 1))
    refine Ends.mono (Ends.step' st3_jump21 ?_) (Nat.le_refl (15 + 1))
    refine Ends.mono (Ends.step' st3_succ35 ?_) (Nat.le_refl (14 + 1))
    refine Ends.mono (Ends.step' st_okB ?_) (Nat.le_refl (13 + 1))
    refine Ends.mono (Ends.step' st_ok ?_) (Nat.le_refl (12 + 1))
    exact Ends.mono Ends.yes (by omega)

def scan3 (text : Array Nat) : (fuel s : Nat) → Option Nat
  | 0, _ => none
  | k + 1, s => if isEnd (text.getD s 0) then some s else scan3 text k (s + 1)
def next3 (text : Array Nat) (lim s : Nat) : Option (Nat × Nat) := (scan3 text (lim - s) s).map fun p => (p, end3 text lim p)
theorem scan3_ge (text : Array Nat) : ∀ k s p, scan3 text k s = some p → s ≤ p ∧ p < s + k ∧ isEnd (text.getD p 0) = true
  | 0, _, _, h => by cases h
  | k + 1, s, p, h => by
    unfold scan3 at h
    split at h
    · obtain rfl := Option.some.inj h; exact ⟨Nat.le_refl _, by omega, by assumption⟩
    · obtain ⟨a, b, c⟩ := scan3_ge text k (s + 1) p h; exact ⟨by omega, by omega, c⟩

theorem inSet3 (c : Nat) (seen : Seen) : ∃ seen', Sre.inSet code3 c code3.size 5 true seen = .ok (isEnd c, seen') := by
  by_cases h10 : c = 10
  · subst h10; exact ⟨_, rfl⟩
  · have b10 : (c == 10) = false := by simpa using h10
    by_cases h13 : c = 13
    · subst h13; exact ⟨_, rfl⟩
    · have b13 : (c == 13) = false := by simpa using h13
      refine ⟨((seen.add 16).add 16).add 0, ?_⟩
      show (if (c == 10) = true then _ else (if (c == 13) = true then _ else _)) = _
      rw [b10, b13, isEnd, b10, b13]
      rfl

theorem admitted3 (m : M) (hc : m.code = code3) : ∀ k s seen, s + k = m.lim → ∃ seen', Sre.M.admitted m (k + 1) s seen = .ok (scan3 m.text k s, seen')
  | 0, s, seen, e => ⟨seen, by unfold Sre.M.admitted; rw [if_pos (by omega)]; rfl⟩
  | k + 1, s, seen, e => by
    rw [Sre.M.admitted, if_neg (by omega), hc]
    obtain ⟨seen', h⟩ := inSet3 (m.text.getD s 0) seen
    rw [h, scan3]
    cases hE : isEnd (m.text.getD s 0) with
    | true => exact ⟨seen', by simp⟩
    | false =>
      obtain ⟨seen'', h'⟩ := admitted3 m hc k (s + 1) seen' (by omega)
      exact ⟨seen'', by simpa using h'⟩

theorem search3 (text : Array Nat) (lim s : Nat) (hs : s ≤ lim) : Ends (Sre.forSearch code3 text 0 s lim false) 21 (next3 text lim s) := by
  by_cases h : s < lim
  · have c : ¬ ((decide (s > lim) || decide (lim - s < (Sre.header code3).1)) = true) := by
      have : (Sre.header code3).1 = 1 := rfl
      rw [this]; simp; omega
    have e : ∃ m : M, m = S code3 text lim s 10 s s true [] 0 none (Sre.Seen.add {} 14) ∧ Sre.forSearch code3 text 0 s lim false = m.attemptFrom s true := by
      refine ⟨_, rfl, ?_⟩
      unfold Sre.forSearch
      show (if (decide (s > lim) || decide (lim - s < (Sre.header code3).1)) = true then _ else _) = _
      rw [if_neg c]
      rfl
    obtain ⟨m, hm, e⟩ := e
    rw [e]
    have hcode : m.code = code3 := by rw [hm]; rfl
    have hlim : m.lim = lim := by rw [hm]; rfl
    have htext : m.text = text := by rw [hm]; rfl
    obtain ⟨seen', ha⟩ := admitted3 m hcode (lim - s) s m.seen (by rw [hlim]; omega)
    have hfs : m.hasFirstSet = true := by rw [hm]; rfl
    unfold Sre.M.attemptFrom
    rw [hfs]
    simp only [Bool.not_true, Bool.false_eq_true, if_false]
    rw [show m.lim + 1 - s = lim - s + 1 by rw [hlim]; omega, ha, htext]
    unfold next3
    cases hsc : scan3 text (lim - s) s with
    | none =>
      subst hm
      exact Ends.mono (Ends.no (code := code3) (text := text) (lim := lim) (start := s) (pc := 10) (pos := s) (hd := s) (w := 0) (om := true) (seen := seen')) (by omega)
    | some p =>
      obtain ⟨h1, h2, h3⟩ := scan3_ge _ _ _ _ hsc
      subst hm
      exact Ends.mono (a3_ends (text := text) (lim := lim) (s := p) (om := true) (seen := seen') (by omega) h3) (by decide)
  · obtain rfl : s = lim := by omega
    have c : ((decide (s > s) || decide (s - s < (Sre.header code3).1)) = true) := by
      have : (Sre.header code3).1 = 1 := rfl
      rw [this]; simp
    unfold next3
    rw [Nat.sub_self]
    refine ⟨1, by omega, ?_⟩
    show (Sre.M.runFor 1 (Sre.forSearch code3 text 0 s s false)).outcome = some .failed
    unfold Sre.forSearch
    show (Sre.M.runFor 1 (if (decide (s > s) || decide (s - s < (Sre.header code3).1)) = true then _ else _)).outcome = _
    rw [if_pos c]
    rfl
end Mine.Re
end

section
namespace Mine.Re
open PySem PySem.Builtin PySem.Builtin.Re
section
variable {M' : Model} {A : Around} {E : Value → Shared → Prop} {s : Shared}

theorem drive_wp {Q : Sre.M → Shared → Prop} : ∀ (turns n : Nat) (m : Sre.M), n ≤ 4 * turns → 0 < turns → (Sre.M.runFor n m).outcome.isSome = true → Q (Sre.M.runFor n m) s → wpAny M' A (reDrive turns m) Q E s
  | 0, _, _, _, h, _, _ => absurd h (Nat.lt_irrefl _)
  | turns + 1, n, m, hn, _, ho, hQ => by
    show wpAny M' A (if (Sre.M.runFor 4 m).outcome.isSome = true then pure (Sre.M.runFor 4 m) else (rule "sre.turn" >>= fun _ => reDrive turns (Sre.M.runFor 4 m))) Q E s
    by_cases h4 : n ≤ 4
    · have e : Sre.M.runFor 4 m = Sre.M.runFor n m := by
        rw [show (4 : Nat) = n + (4 - n) by omega, runFor_add, runFor_fix ho]
      rw [e, if_pos ho]
      exact wpAny_pure hQ
    · split
      · rename_i h
        have e : Sre.M.runFor n m = Sre.M.runFor 4 m := by
          rw [show n = 4 + (n - 4) by omega, runFor_add, runFor_fix h]
        rw [e] at hQ
        exact wpAny_pure hQ
      · refine wpAny_bind (wpAny_rule ?_)
        have e : Sre.M.runFor n m = Sre.M.runFor (n - 4) (Sre.M.runFor 4 m) := by rw [← runFor_add]; congr 1; omega
        rw [e] at ho hQ
        exact drive_wp turns (n - 4) _ (by omega) (by omega) ho hQ

theorem forIn_still {α : Type} {f : α → PUnit → Sem (ForInStep PUnit)} {Q : PUnit → Shared → Prop} (hf : ∀ x u (R : ForInStep PUnit → Shared → Prop), R (.yield ⟨⟩) s → wpAny M' A (f x u) R E s) (hQ : Q ⟨⟩ s) :
    ∀ l : List α, wpAny M' A (forIn l PUnit.unit f) Q E s
  | [] => wpAny_pure hQ
  | x :: r => by
    rw [List.forIn_cons]
    exact wpAny_bind (hf x _ _ (forIn_still hf hQ r))

theorem runToEnd_wp {m : Sre.M} {B : Nat} {r : Option (Nat × Nat)} {Q : Option Sre.M → Shared → Prop} (h : Ends m B r) (hB : B ≤ 2 ^ 60)
    (hQ : match r with | some (p, e) => ∀ m' : Sre.M, m'.start = p → m'.handed = e → Q (some m') s | none => Q none s) : wpAny M' A (reRunToEnd m) Q E s := by
  obtain ⟨n, hn, h⟩ := h
  unfold reRunToEnd
  have ho : (Sre.M.runFor n m).outcome.isSome = true := by
    cases r with
    | none => simp only [] at h; rw [h]; rfl
    | some pe => simp only [] at h; rw [h.1]; rfl
  refine wpAny_bind (drive_wp (2 ^ 64) n m (by omega) (by omega) ho ?_)
  refine wpAny_bind (forIn_still (fun x u R hR => ?_) ?_ _)
  · split
    · exact wpAny_bind (wpAny_rule (wpAny_pure hR))
    · exact wpAny_pure hR
  · cases r with
    | none =>
      simp only [] at h hQ
      rw [h]
      exact wpAny_pure hQ
    | some pe =>
      obtain ⟨p, e⟩ := pe
      simp only [] at h hQ
      rw [h.1]
      exact wpAny_pure (hQ _ h.2.1 h.2.2)
end
end Mine.Re
end

section
namespace Mine.Re
open PySem PySem.Builtin PySem.Builtin.Re

/-- a compiled pattern without groups -/
structure Pat (h : Heap) (P : Addr) (code : Array Nat) (kind : Nat) : Prop where
  is : ∃ o vs C oC cs n, h.get? P = some o ∧ o.cls = .type "re.Pattern" ∧ o.dict = none ∧ o.data = .fields vs ∧ vs.getD 2 .none = .int 0 0 ∧ vs.getD 5 .none = .ref C ∧
    vs.getD 6 .none = .int kind 0 ∧ h.get? C = some oC ∧ oC.data = .seq cs n ∧ (cs.map reRawOf).map (·.toNat) = code
theorem Pat.keeps {h h' : Heap} {P : Addr} {code : Array Nat} {kind : Nat} (p : Pat h P code kind) (k : ∀ b o, h.get? b = some o → h'.get? b = some o) : Pat h' P code kind := by
  obtain ⟨o, vs, C, oC, cs, n, h1, h2, h3, h4, h5, h6, h7, h8, h9, h10⟩ := p.is
  exact ⟨o, vs, C, oC, cs, n, k _ _ h1, h2, h3, h4, h5, h6, h7, k _ _ h8, h9, h10⟩

section
variable {M' : Model} {A : Around} {E : Value → Shared → Prop} {s : Shared} {P : Addr} {code : Array Nat}

theorem rawItems_wp {C : Addr} {oC : Obj} {cs : Array Value} {n : Nat} {Q : Array Int → Shared → Prop} (h : s.heap.get? C = some oC) (hd : oC.data = .seq cs n) (hQ : Q (cs.map reRawOf) s) : wpAny M' A (reRawItems (.ref C)) Q E s := by
  unfold reRawItems
  exact wpAny_bind (wpAny_seqItems h hd (wpAny_pure hQ))

theorem text_str {x : Str} {t : Tok} : reTextOf (.str x t) = pure (x.cps, 0) := rfl
theorem text_bytes {x : Array UInt8} {t : Tok} : reTextOf (.bytes x t) = pure (x.map (·.toNat), 1) := by
  show (Bytes.bufferQuiet? "_sre" (.bytes x t) >>= fun r => match r with | some b => _ | none => _) = _
  rw [PySem.W.KBy.quiet_eq]; rfl
theorem collect_str {x : Str} {t : Tok} : reNoCollectionInside (.str x t) 0 = pure () := rfl
theorem collect_bytes {x : Array UInt8} {t : Tok} : reNoCollectionInside (.bytes x t) 1 = pure () := by
  show (isInstance (.bytes x t) (.type "bytes") >>= fun r => _) = _
  rw [PySem.W.KBy.isInstance_eq]; rfl

theorem target_str {x : Str} {t : Tok} {Q : ReTarget → Shared → Prop} (p : Pat s.heap P code 0)
    (hQ : Q { pattern := .ref P, string := .str x t, code := code, text := x.cps, kind := 0, groups := 0, pos := 0, lim := x.cps.size } s) :
    wpAny M' A (reWholeTarget (.ref P) (.str x t)) Q E s := by
  obtain ⟨o, vs, C, oC, cs, n, h1, h2, h3, h4, h5, h6, h7, h8, h9, h10⟩ := p.is
  unfold reWholeTarget
  refine wpAny_bind (wpAny_fieldsOf h1 h4 ?_)
  refine wpAny_bind (wpAny_of_eq text_str ?_)
  rw [h7, h5, h6]
  refine wpAny_bind (wpAny_of_eq collect_str ?_)
  refine wpAny_bind (rawItems_wp h8 h9 ?_)
  rw [h10]
  exact wpAny_pure hQ
theorem target_bytes {x : Array UInt8} {t : Tok} {Q : ReTarget → Shared → Prop} (p : Pat s.heap P code 1)
    (hQ : Q { pattern := .ref P, string := .bytes x t, code := code, text := x.map (·.toNat), kind := 1, groups := 0, pos := 0, lim := (x.map (·.toNat)).size } s) :
    wpAny M' A (reWholeTarget (.ref P) (.bytes x t)) Q E s := by
  obtain ⟨o, vs, C, oC, cs, n, h1, h2, h3, h4, h5, h6, h7, h8, h9, h10⟩ := p.is
  unfold reWholeTarget
  refine wpAny_bind (wpAny_fieldsOf h1 h4 ?_)
  refine wpAny_bind (wpAny_of_eq text_bytes ?_)
  rw [h7, h5, h6]
  refine wpAny_bind (wpAny_of_eq collect_bytes ?_)
  refine wpAny_bind (rawItems_wp h8 h9 ?_)
  rw [h10]
  exact wpAny_pure hQ
end
end Mine.Re
end

section
namespace Mine.Re
open PySem PySem.Builtin PySem.Builtin.Re

/-- what the pieces come to, from a start on -/
inductive Out (next : Nat → Option (Nat × Nat)) (text rp : List Nat) : Nat → List Nat → Prop
  | done {s : Nat} : next s = none → Out next text rp s (text.drop s)
  | more {s p e : Nat} {r : List Nat} : next s = some (p, e) → s ≤ p → p < e → e ≤ text.length → Out next text rp e r → Out next text rp s ((text.drop s).take (p - s) ++ rp ++ r)

theorem plain_loop : plainId "re.Pattern.sub.loop" = true := by decide +kernel
theorem entry_loop : entryFor table "re.Pattern.sub.loop" = some Builtin.«re.Pattern.sub.loop» := entryFor_of_tree (by kernel_rfl)

abbrev lobj (vs : List Value) (n : Nat) : Obj := { cls := .type "list", data := .seq vs.toArray n }

/-- values that bear signs or octets, one beside the other -/
inductive Bear (T : Value → List Nat → Prop) : List Value → List (List Nat) → Prop
  | nil : Bear T [] []
  | cons {v : Value} {c : List Nat} {vs : List Value} {cs : List (List Nat)} : T v c → Bear T vs cs → Bear T (v :: vs) (c :: cs)
theorem Bear.snoc {T : Value → List Nat → Prop} {vs : List Value} {cs : List (List Nat)} {v : Value} {c : List Nat} (h : Bear T vs cs) (hv : T v c) : Bear T (vs ++ [v]) (cs ++ [c]) := by
  induction h with
  | nil => exact .cons hv .nil
  | cons h _ ih => exact .cons h ih
theorem Bear.length {T : Value → List Nat → Prop} {vs : List Value} {cs : List (List Nat)} (h : Bear T vs cs) : vs.length = cs.length := by
  induction h with
  | nil => rfl
  | cons _ _ ih => rw [List.length_cons, List.length_cons, ih]

theorem toList_extract (text : Array Nat) (b e : Nat) : (text.extract b e).toList = (text.toList.drop b).take (e - b) := by
  simp [Array.toList_extract]

/-- one kind of a text: str or bytes -/
structure Side (prog : Program) (w : World) (T : Value → List Nat → Prop) (kind : Nat) : Prop where
  slice : ∀ {A : Around} {E : Value → Shared → Prop} {s : Shared} {text : Array Nat} {b e : Nat} {Q : Value → Shared → Prop}, text.size ≤ sizeLine → (∀ c ∈ text.toList, kind = 1 → c < 256) →
    (∀ v tk, T v (text.extract b e).toList → Q v { s with toks := tk }) → wpAny (model prog w) A (reSlice text kind b e) Q E s
  join : ∀ {A : Around} {E : Value → Shared → Prop} {s : Shared} {D : Addr} {vs : List Value} {cs : List (List Nat)} {n : Nat} {j : Value} {Q : Value → Shared → Prop}, T j [] → Bear T vs cs → cs ≠ [] → cs.flatten.length ≤ sizeLine → cs.length ≤ sizeLine →
    s.heap.get? D = some (lobj vs n) → (∀ v tk, T v cs.flatten → Q v { s with toks := tk }) → wpAny (model prog w) A (call (.builtin (if (kind == 0) = true then "str.join" else "bytes.join")) [j, .ref D]) Q E s
  some : ∀ v c, T v c → (v != Value.none) = true
  literal : ∀ v c, T v c → reLiteralCannotBeTurned v = pure ()

section
variable {prog : Program} {w : World} {A : Around} {s : Shared} {P D : Addr} {code : Array Nat} {h₀ : Heap} {R : Result → Shared → Prop} {T : Value → List Nat → Prop} {kind : Nat}

theorem push_D {vs : List Value} {n : Nat} {v : Value} {h : Heap} (hd : h.get? D = some (lobj vs n)) (hk : ∀ b o, h₀.get? b = some o → h.get? b = some o) (hD : h₀.get? D = none) :
    (∃ n', (h.update D (Obj.mapSeq (·.push v))).get? D = some (lobj (vs ++ [v]) n')) ∧ (∀ b o, h₀.get? b = some o → (h.update D (Obj.mapSeq (·.push v))).get? b = some o) := by
  refine ⟨?_, fun b o e => ?_⟩
  · exact ⟨n + 1, (Heap.get?_update_self _ hd rfl).trans (by simp [Obj.mapSeq])⟩
  · rw [Heap.get?_update_ne]
    · exact hk b o e
    · rintro rfl; rw [hD] at e; cases e

theorem tail_T {E : Value → Shared → Prop} {Q : PySem.Fin → Shared → Prop} {text : Array Nat} {vs : List Value} {cs : List (List Nat)} {n : Nat} {total : List Nat} {K : Value → Sem PySem.Fin} (S : Side prog w T kind) (hz : text.size ≤ sizeLine) (hb : ∀ c ∈ text.toList, kind = 1 → c < 256) (hv : Bear T vs cs) (hc : cs.flatten = total) (htot : total.length ≤ sizeLine) (hn : cs.length ≤ sizeLine)
    (hd : s.heap.get? D = some (lobj vs n)) (hQ : ∀ v tk', T v total → Q (.done (.ret v)) { s with toks := tk' }) :
    wpAny (model prog w) A (reSlice text kind 0 0 >>= fun joiner => seqItems? (.ref D) >>= fun it => if (it.getD #[]).isEmpty = true then (pure joiner >>= fun text => if false = true then K text else ret text)
      else (call (.builtin (if (kind == 0) = true then "str.join" else "bytes.join")) [joiner, .ref D] >>= fun text => if false = true then K text else ret text)) Q E s := by
  refine wpAny_bind (S.slice hz hb fun j tk hj => ?_)
  have e0 : (text.extract 0 0).toList = [] := by simp
  rw [e0] at hj
  refine wpAny_bind (wpAny_seqItems (s := { s with toks := tk }) hd rfl ?_)
  rw [Option.getD_some]
  cases hv with
  | nil =>
    rw [if_pos (show (([] : List Value).toArray).isEmpty = true from rfl)]
    refine wpAny_bind (wpAny_pure ?_)
    rw [if_neg Bool.false_ne_true]
    refine wpAny_pure (hQ _ _ ?_)
    rw [← hc]; exact hj
  | cons h r =>
    rw [if_neg (by simp)]
    refine wpAny_bind (S.join hj (.cons h r) (by simp) (by rw [hc]; exact htot) hn hd fun v tk' hv => ?_)
    rw [if_neg Bool.false_ne_true]
    rw [hc] at hv
    exact wpAny_pure (hQ _ _ hv)

theorem loop_T {text : Array Nat} {sv rv : Value} {rp : List Nat} {next : Nat → Option (Nat × Nat)} {total : List Nat} {B : Nat} (S : Side prog w T kind) (hD : h₀.get? D = none)
    (hb : ∀ c ∈ text.toList, kind = 1 → c < 256) (hrv : T rv rp) (hsz : text.size ≤ 2 ^ 20) (htot : total.length ≤ sizeLine) (hB : B ≤ 2 ^ 60)
    (target : ∀ {A : Around} {E : Value → Shared → Prop} {s : Shared} {Q : ReTarget → Shared → Prop}, (∀ b o, h₀.get? b = some o → s.heap.get? b = some o) →
      Q { pattern := .ref P, string := sv, code := code, text := text, kind := kind, groups := 0, pos := 0, lim := text.size } s → wpAny (model prog w) A (reWholeTarget (.ref P) sv) Q E s)
    (hS : ∀ k, k ≤ text.size → Ends (Sre.forSearch code text 0 k text.size false) B (next k)) {start : Nat} {r : List Nat} (ho : Out next text.toList rp start r) :
    ∀ (vs : List Value) (cs : List (List Nat)) (n : Nat) (s : Shared) (cnt : Int), start ≤ text.size → Bear T vs cs → cs.length ≤ 2 * start → cs.flatten ++ r = total → (∀ b o, h₀.get? b = some o → s.heap.get? b = some o) → s.heap.get? D = some (lobj vs n) →
      (∀ v h' tk', T v total → (∀ b o, h₀.get? b = some o → h'.get? b = some o) → R (.ok (.ret v)) { s with heap := h', toks := tk' }) →
      codeAny (model prog w) A (.builtin "re.Pattern.sub.loop" ⟨[.ref P, sv, rv, .int 0 0, .int 0 0, .int cnt 0, .int (start : Nat) 0, .int (start : Nat) 0, .bool false, .ref D, .bool false], []⟩) R s := by
  have h24 := sizeLine_eq
  induction ho with
  | @done start hn =>
    intro vs cs n s cnt hst hv hl hc hk hd hR
    have hvl := hv.length
    refine codeAny_builtin entry_loop ?_
    unfold Builtin.«re.Pattern.sub.loop»
    dsimp only
    refine wpAny_bind (target hk ?_)
    refine wpAny_bind (m := reLiteralCannotBeTurned _) (wpAny_of_eq (S.literal _ _ hrv) ?_)
    dsimp only
    refine wpAny_bind (m := reNextFound _ _ _) (runToEnd_wp (hS start hst) hB ?_)
    rw [hn]
    dsimp only
    rw [Int.toNat_natCast]
    split
    · rename_i hlt
      refine wpAny_bind (S.slice (by omega) hb fun u tk hu => ?_)
      refine wpAny_bind (wpAny_updateSeq (s := { s with toks := tk }) hd rfl ?_ (by rw [List.size_toArray]; omega) (by rw [Array.size_push, List.size_toArray]; omega))
      obtain ⟨⟨n', hd'⟩, hk'⟩ := push_D (v := u) hd hk hD
      refine tail_T (s := { s with heap := _, toks := tk }) S (by omega) hb (hv.snoc hu) ?_ htot (by rw [List.length_append, List.length_singleton]; omega) hd' fun v tk' hy => hR v _ tk' hy hk'
      rw [List.flatten_append, List.flatten_cons, List.flatten_nil, List.append_nil, toList_extract, ← hc, List.take_of_length_le (by simp)]
    · refine tail_T S (by omega) hb hv ?_ htot (by omega) hd fun v tk' hy => hR v _ tk' hy hk
      rw [← hc, List.drop_of_length_le (by rw [Array.length_toList]; omega), List.append_nil]
  | @more start q e r hn h1 h2 h3 _ ih =>
    intro vs cs n s cnt hst hv hl hc hk hd hR
    have hvl := hv.length
    rw [Array.length_toList] at h3
    refine codeAny_builtin entry_loop ?_
    unfold Builtin.«re.Pattern.sub.loop»
    dsimp only
    refine wpAny_bind (target hk ?_)
    refine wpAny_bind (m := reLiteralCannotBeTurned _) (wpAny_of_eq (S.literal _ _ hrv) ?_)
    dsimp only
    refine wpAny_bind (m := reNextFound _ _ _) (runToEnd_wp (hS start hst) hB ?_)
    rw [hn]
    intro m' hm1 hm2
    dsimp only
    rw [Int.toNat_natCast, hm1, hm2]
    have eq : (e == q) = false := by simp; omega
    split
    · rename_i hlt
      refine wpAny_bind (S.slice (by omega) hb fun u tk hu => ?_)
      refine wpAny_bind (wpAny_updateSeq (s := { s with toks := tk }) hd rfl ?_ (by rw [List.size_toArray]; omega) (by rw [Array.size_push, List.size_toArray]; omega))
      obtain ⟨⟨n', hd'⟩, hk'⟩ := push_D (v := u) hd hk hD
      rw [if_pos (show ((0 : Int) == 0) = true from rfl)]
      refine wpAny_bind (wpAny_pure ?_)
      rw [S.some _ _ hrv, if_pos rfl]
      refine wpAny_bind (wpAny_updateSeq hd' rfl ?_ (by rw [List.size_toArray, List.length_append, List.length_singleton]; omega) (by rw [Array.size_push, List.size_toArray, List.length_append, List.length_singleton]; omega))
      obtain ⟨⟨n'', hd''⟩, hk''⟩ := push_D (v := rv) hd' hk' hD
      rw [eq]
      refine wpAny_pure ⟨plainId_quiet plain_loop _, ?_⟩
      refine ih _ _ _ _ (cnt + 1) h3 ((hv.snoc hu).snoc hrv) ?_ ?_ hk'' hd'' fun v h' tk' hy hkk => hR v h' tk' hy hkk
      · simp only [List.length_append, List.length_singleton]; omega
      · rw [← hc]
        simp only [List.flatten_append, List.flatten_cons, List.flatten_nil, List.append_nil, toList_extract, List.append_assoc]
    · rename_i hlt
      obtain rfl : start = q := by omega
      rw [if_pos (show ((0 : Int) == 0) = true from rfl)]
      refine wpAny_bind (wpAny_pure ?_)
      rw [S.some _ _ hrv, if_pos rfl]
      refine wpAny_bind (wpAny_updateSeq hd rfl ?_ (by rw [List.size_toArray]; omega) (by rw [Array.size_push, List.size_toArray]; omega))
      obtain ⟨⟨n'', hd''⟩, hk''⟩ := push_D (v := rv) hd hk hD
      rw [eq]
      refine wpAny_pure ⟨plainId_quiet plain_loop _, ?_⟩
      refine ih _ _ _ _ (cnt + 1) h3 (hv.snoc hrv) ?_ ?_ hk'' hd'' fun v h' tk' hy hkk => hR v h' tk' hy hkk
      · simp only [List.length_append, List.length_singleton]; omega
      · rw [← hc]
        simp only [List.flatten_append, List.flatten_cons, List.flatten_nil, List.append_nil, Nat.sub_self, List.take_zero, List.nil_append, List.append_assoc]
end
end Mine.Re
end

section
namespace Mine.Re
open PySem PySem.Builtin PySem.Builtin.Re

theorem slot_sub : Slot "re.Pattern" "sub" "re.Pattern.sub" :=
  .of (owner := "re.Pattern") (n := "sub") (by rw [typeLookup_type, builtinLookup_eq_fast]; kernel_rfl) (by decide +kernel) (by decide +kernel) (by decide +kernel)
    (by first | exact .inl (by decide +kernel) | exact .inr (by decide +kernel)) (by rw [isSubtype_type]; kernel_rfl)
theorem type_sub : typeOf (.builtin "re.Pattern.sub") = pure (.type "method_descriptor") := by show builtinType _ = _; rw [builtinType_eq_fast]; kernel_rfl
theorem entry_sub : entryFor table "re.Pattern.sub" = some Builtin.«re.Pattern.sub» := entryFor_of_tree (by kernel_rfl)
theorem args_sub (a b c : Value) : argsOk "re.Pattern.sub" ⟨[a, b, c], []⟩ := by unfold argsOk; kernel_rfl
theorem plainAttrs_pat : PlainAttrs "re.Pattern" := ⟨⟨"object.__getattribute__", by rw [typeLookup_type, builtinLookup_eq_fast]; kernel_rfl, by decide +kernel⟩, by rw [typeLookup_type, builtinLookup_eq_fast]; kernel_rfl⟩
theorem nocall_str {x : Str} {t : Tok} : specialOf (.str x t) "__call__" = pure none := by show typeLookup (.type "str") _ = _; rw [typeLookup_type, builtinLookup_eq_fast]; kernel_rfl
theorem nocall_bytes {x : Array UInt8} {t : Tok} : specialOf (.bytes x t) "__call__" = pure none := by show typeLookup (.type "bytes") _ = _; rw [typeLookup_type, builtinLookup_eq_fast]; kernel_rfl
theorem named {id f : String} {a b : Value} : reNamed id f ["repl", "string", "count"] 2 [a, b] [] = pure [some a, some b, none] := rfl

section
variable {prog : Program} {w : World} {A : Around} {s : Shared} {P : Addr} {code : Array Nat} {T : Value → List Nat → Prop} {kind : Nat} {E : Value → Shared → Prop} {Q : Value → Shared → Prop}

/-- a repl that is no template -/
inductive Lit : Value → Prop
  | str {x : Str} {t : Tok} : x.cps.contains 92 = false → Lit (.str x t)
  | bytes {x : Array UInt8} {t : Tok} : x.contains 92 = false → Lit (.bytes x t)

theorem sub_tail {text : Array Nat} {sv rv : Value} {rp r : List Nat} {next : Nat → Option (Nat × Nat)} {B : Nat} {R : Result → Shared → Prop} (S : Side prog w T kind)
    (hb : ∀ c ∈ text.toList, kind = 1 → c < 256) (hrv : T rv rp) (hsz : text.size ≤ 2 ^ 20) (htot : r.length ≤ sizeLine) (hB : B ≤ 2 ^ 60)
    (target : ∀ {A : Around} {E : Value → Shared → Prop} {s' : Shared} {Q : ReTarget → Shared → Prop}, (∀ b o, s.heap.get? b = some o → s'.heap.get? b = some o) →
      Q { pattern := .ref P, string := sv, code := code, text := text, kind := kind, groups := 0, pos := 0, lim := text.size } s' → wpAny (model prog w) A (reWholeTarget (.ref P) sv) Q E s')
    (hS : ∀ k, k ≤ text.size → Ends (Sre.forSearch code text 0 k text.size false) B (next k)) (ho : Out next text.toList rp 0 r)
    (hQ : ∀ v h' tk', T v r → (∀ b o, s.heap.get? b = some o → h'.get? b = some o) → R (.ok (.ret v)) { s with heap := h', toks := tk' }) :
    wpAny (model prog w) A.in1 (holding [rv] (reWholeTarget (.ref P) sv) >>= fun _ => newList [] >>= fun l => again (.builtin "re.Pattern.sub.loop" ⟨[.ref P, sv, rv, rawInt 0, rawInt 0, rawInt 0, rawInt 0, rawInt 0, .bool false, l, .bool false], []⟩))
      (fun fin s' => match fin with | .done f => R (.ok f) s' | .again c' => c'.quiet = true ∧ codeAny (model prog w) A c' R s') (fun e s' => R (.error e) s') s := by
  refine wpAny_bind (wpAny_holding (target (fun _ _ e => e) ?_))
  refine wpAny_bind (wpAny_newObj_type (data := .seq ([] : List Value).toArray) (wpAny_pure ⟨plainId_quiet plain_loop _, ?_⟩) (Nat.zero_le _))
  have hD : s.heap.get? s.heap.objs.size = none := by
    cases e : s.heap.get? s.heap.objs.size with
    | none => rfl
    | some o => exact absurd (Heap.lt_size e) (Nat.lt_irrefl _)
  refine loop_T (h₀ := s.heap) (D := s.heap.objs.size) (start := 0) (r := r) (total := r) S hD hb hrv hsz htot hB (fun {A E s' Q} => target) hS ho [] [] 0 _ 0 (Nat.zero_le _) .nil (Nat.le_refl _) rfl (fun b o e => Heap.get?_push_of_some _ e) (Heap.get?_push_size _ rfl) ?_
  intro v h' tk' hv hk
  exact hQ v h' tk' hv hk

theorem sub_T {text : Array Nat} {sv rv : Value} {rp r : List Nat} {next : Nat → Option (Nat × Nat)} {B : Nat} (S : Side prog w T kind) (hT : s.TypeIs (.ref P) "re.Pattern")
    (hl : Lit rv) (hb : ∀ c ∈ text.toList, kind = 1 → c < 256) (hrv : T rv rp) (hsz : text.size ≤ 2 ^ 20) (htot : r.length ≤ sizeLine) (hB : B ≤ 2 ^ 60)
    (target : ∀ {A : Around} {E : Value → Shared → Prop} {s' : Shared} {Q : ReTarget → Shared → Prop}, (∀ b o, s.heap.get? b = some o → s'.heap.get? b = some o) →
      Q { pattern := .ref P, string := sv, code := code, text := text, kind := kind, groups := 0, pos := 0, lim := text.size } s' → wpAny (model prog w) A (reWholeTarget (.ref P) sv) Q E s')
    (hS : ∀ k, k ≤ text.size → Ends (Sre.forSearch code text 0 k text.size false) B (next k)) (ho : Out next text.toList rp 0 r)
    (hQ : ∀ v h' tk', T v r → (∀ b o, s.heap.get? b = some o → h'.get? b = some o) → Q v { s with heap := h', toks := tk' }) :
    wpAny (model prog w) A (call (.builtin "re.Pattern.sub") [.ref P, rv, sv]) Q E s := by
  refine wpAny_call (codeAny_call_builtin slot_sub.plain entry_sub (slot_sub.check _ _ _ _ _ _ _ _ hT (args_sub _ _ _) ?_))
  have tail := sub_tail (A := A) (R := fun r s' => match r with | .ok (.ret v) => Q v s' | .ok _ => False | .error e => E e s') S hb hrv hsz htot hB target hS ho hQ
  unfold Builtin.«re.Pattern.sub» reSubstitute
  dsimp only
  refine wpAny_bind (wpAny_of_eq named ?_)
  dsimp only
  refine wpAny_bind (wpAny_pure ?_)
  cases hl with
  | str hl =>
    refine wpAny_bind (wpAny_of_eq nocall_str ?_)
    dsimp only [Option.isSome_none]
    rw [if_neg Bool.false_ne_true]
    refine wpAny_bind (m := asStr? _) (wpAny_pure ?_)
    dsimp only
    rw [hl]
    exact tail
  | bytes hl =>
    refine wpAny_bind (wpAny_of_eq nocall_bytes ?_)
    dsimp only [Option.isSome_none]
    rw [if_neg Bool.false_ne_true]
    refine wpAny_bind (m := asStr? _) (wpAny_pure ?_)
    dsimp only
    refine wpAny_bind (wpAny_of_eq PySem.W.KBy.quiet_eq ?_)
    dsimp only
    rw [hl]
    exact tail
end
end Mine.Re
end

section
namespace Mine.Re
open PySem PySem.Builtin PySem.Builtin.Re PyProof.Rows

def TS (v : Value) (l : List Nat) : Prop := ∃ (x : Str) (t : Tok), v = .str x t ∧ x.cps.toList = l
def TB (v : Value) (l : List Nat) : Prop := ∃ (b : Array UInt8) (t : Tok), v = .bytes b t ∧ b.toList.map (·.toNat) = l

section
variable {M' : Model} {A : Around} {E : Value → Shared → Prop} {s : Shared}
theorem forIn_keep {α β : Type} {f : α → β → Sem (ForInStep β)} {Q : β → Shared → Prop} (I : List α → β → Prop)
    (hf : ∀ x r b (R : ForInStep β → Shared → Prop), I (x :: r) b → (∀ b', I r b' → R (.yield b') s) → wpAny M' A (f x b) R E s) (hQ : ∀ b, I [] b → Q b s) :
    ∀ l b, I l b → wpAny M' A (forIn l b f) Q E s
  | [], b, h => wpAny_pure (hQ b h)
  | x :: r, b, h => by
    rw [List.forIn_cons]
    exact wpAny_bind (hf x r b _ h fun b' h' => forIn_keep I hf hQ r b' h')
end

theorem take_eq {id : String} {b : Array UInt8} {t : Tok} : Bytes.takeBufferQuiet? id (.bytes b t) 0 = pure (some (b, none)) := by
  unfold Bytes.takeBufferQuiet? Bytes.takeBuffer?
  rw [PySem.W.KBy.special_eq PySem.W.KBy.look_buffer, PySem.W.KBy.own_buffer]
  have e : (Bytes.buffer? id (.bytes b t) (full := (0 : Int) == Bytes.fullReadOnly)) = pure (some b) := by
    have : ((0 : Int) == Bytes.fullReadOnly) = false := by decide +kernel
    rw [this]; exact PySem.W.KBy.buffer_eq
  rw [e]
  kernel_rfl

theorem letGo_wp {M' : Model} {A : Around} {E : Value → Shared → Prop} {s : Shared} {Q : Unit → Shared → Prop} (hQ : Q () s) : ∀ rem keep, wpAny M' A (letGo rem keep) Q E s
  | [], _ => wpAny_pure hQ
  | _ :: rest, keep => by
    unfold letGo
    exact wpAny_bind (wpAny_holding (wpAny_point (letGo_wp hQ rest keep)))
theorem joinLetGo_wp {M' : Model} {A : Around} {E : Value → Shared → Prop} {s : Shared} {Q : Unit → Shared → Prop} (hQ : Q () s) : ∀ (taken : List (Value × Option Value)) keep, (∀ p ∈ taken, p.2 = none) → wpAny M' A (Bytes.joinLetGo taken keep) Q E s
  | [], _, _ => wpAny_pure hQ
  | (x, w) :: rest, keep, h => by
    obtain rfl : w = none := h (x, w) (.head _)
    unfold Bytes.joinLetGo
    exact wpAny_bind (letGo_wp (joinLetGo_wp hQ rest keep fun p hp => h p (.tail _ hp)) _ _)

theorem joined_nil (parts : List (Array UInt8)) : (Bytes.joined #[] parts).toList = (parts.map (·.toList)).flatten := by
  unfold Bytes.joined
  have key : ∀ (l : List (Array UInt8)) (k : Nat) (out : Array UInt8), ((l.zipIdx k).foldl (fun out (p, i) => (if i > 0 then out ++ #[] else out) ++ p) out).toList = out.toList ++ (l.map (·.toList)).flatten := by
    intro l
    induction l with
    | nil => intro k out; simp
    | cons p r ih =>
      intro k out
      rw [List.zipIdx_cons, List.foldl_cons, ih]
      simp
  simpa using key parts 0 #[]

theorem slot_bjoin : Slot "bytes" "join" "bytes.join" :=
  .of (owner := "bytes") (n := "join") (by rw [typeLookup_type, builtinLookup_eq_fast]; kernel_rfl) (by decide +kernel) (by decide +kernel) (by decide +kernel)
    (by first | exact .inl (by decide +kernel) | exact .inr (by decide +kernel)) (by rw [isSubtype_type]; kernel_rfl)
theorem entry_bjoin : entryFor table "bytes.join" = some Builtin.«bytes.join» := entryFor_of_tree (by kernel_rfl)
theorem args_bjoin (a b : Value) : argsOk "bytes.join" ⟨[a, b], []⟩ := by unfold argsOk; kernel_rfl

theorem bear_get {T : Value → List Nat → Prop} {vs : List Value} {cs : List (List Nat)} (h : Bear T vs cs) : ∀ i, i < vs.length → ∃ v c, vs[i]? = some v ∧ cs[i]? = some c ∧ T v c := by
  induction h with
  | nil => intro i hi; exact absurd hi (Nat.not_lt_zero _)
  | cons h _ ih =>
    intro i hi
    cases i with
    | zero => exact ⟨_, _, rfl, rfl, h⟩
    | succ i => exact ih i (by simpa using hi)

theorem kk : (Bytes.Kind.bytes == Bytes.Kind.bytes) = true := rfl
theorem kb : (Bytes.Kind.bytes == Bytes.Kind.bytearray) = false := rfl
theorem tl : (Value.type "list" == Value.type "list" || Value.type "list" == Value.type "tuple") = true := by decide +kernel
theorem tb : (Value.type "bytes" == Value.type "bytes") = true := by decide +kernel

section
variable {prog : Program} {w : World} {A : Around} {E : Value → Shared → Prop} {s : Shared}
theorem bjoin_wp {D : Addr} {vs : List Value} {cs : List (List Nat)} {n : Nat} {j : Value} {Q : Value → Shared → Prop} (hj : TB j []) (hv : Bear TB vs cs) (hlen : cs.flatten.length ≤ sizeLine) (hd : s.heap.get? D = some (lobj vs n))
    (hQ : ∀ v tk, TB v cs.flatten → Q v { s with toks := tk }) : wpAny (model prog w) A (call (.builtin "bytes.join") [j, .ref D]) Q E s := by
  obtain ⟨jb, jt, rfl, hjb⟩ := hj
  obtain rfl : jb = #[] := by
    have : jb.toList = [] := by simpa using hjb
    exact Array.toList_inj.mp this
  refine wpAny_call (codeAny_call_builtin slot_bjoin.plain entry_bjoin (slot_bjoin.check _ _ _ _ _ _ _ _ (PySem.W.typeIs_bytes _ _ _) (args_bjoin _ _) ?_))
  have hl : s.heap.IsList D vs.toArray := ⟨_, hd, rfl, n, rfl⟩
  have hvl := hv.length
  obtain ⟨items, hit⟩ : ∃ a, a = vs.toArray := ⟨_, rfl⟩
  have hd2 : (lobj vs n).data = .seq items n := by rw [hit]
  have hall : ∀ v ∈ vs, ∃ b t, v = .bytes b t := by
    clear hd2 hd hl hvl hQ hlen hit
    induction hv with
    | nil => intro v h; cases h
    | cons h _ ih =>
      intro v hv
      rcases List.mem_cons.mp hv with rfl | hv
      · obtain ⟨b, t, rfl, _⟩ := h; exact ⟨b, t, rfl⟩
      · exact ih v hv
  unfold Builtin.«bytes.join» Bytes.joinM
  dsimp only
  refine wpAny_bind (m := selfAndOne _ _) (wpAny_pure ?_)
  rw [if_pos kk]
  refine wpAny_bind (m := Bytes.joinItems _) ?_
  unfold Bytes.joinItems
  refine wpAny_bind (wpAny_typeOf hl.typeIs ?_)
  rw [if_pos tl]
  refine wpAny_pure ?_
  refine wpAny_bind (wpAny_seqItems hd hd2 ?_)
  dsimp only
  rw [if_pos kk]
  rcases items with ⟨_ | ⟨x, _ | ⟨y, r⟩⟩⟩
  case cons.nil =>
    have hvs : vs = [x] := by
      have := congrArg Array.toList hit
      simpa using this.symm
    subst hvs
    show wpAny _ _ (typeOf x >>= _) _ _ _
    obtain ⟨b, t, rfl⟩ := hall _ (.head _)
    refine wpAny_bind (wpAny_typeOf (PySem.W.typeIs_bytes _ _ _) ?_)
    rw [if_pos tb]
    refine wpAny_bind (wpAny_rule ?_)
    refine wpAny_pure ?_
    cases hv with
    | cons h r =>
      cases r
      simp only [List.flatten_cons, List.flatten_nil, List.append_nil] at hQ
      exact hQ _ s.toks h
  all_goals (
    refine wpAny_bind (m := forIn _ _ _) ?_
    rw [hit] at hd2
    rw [hit]
    rw [Std.Legacy.Range.forIn_eq_forIn_range']
    have hsz : (Std.Legacy.Range.size [:vs.toArray.size]) = vs.length := by simp [Std.Legacy.Range.size]
    rw [hsz]
    refine forIn_keep (s := s) (fun l b => ∃ k, l = List.range' k (vs.length - k) ∧ k ≤ vs.length ∧ (b.1.toList.map fun p => p.toList.map (·.toNat)) = cs.take k ∧ (∀ p ∈ b.2, p.2 = none ∧ p.1.onHeap = false)) ?_ ?_ _ _ ⟨0, rfl, Nat.zero_le _, rfl, by simp⟩
    · rintro i r ⟨parts, taken⟩ R ⟨k, hl', hk, hp, ht⟩ hR
      have hlt : k < vs.length := by
        by_cases h : k < vs.length
        · exact h
        · rw [show vs.length - k = 0 by omega] at hl'; cases hl'
      rw [show vs.length - k = (vs.length - (k + 1)) + 1 by omega, List.range'_succ] at hl'
      obtain ⟨rfl, rfl⟩ := List.cons.inj hl'
      obtain ⟨v, c, hv1, hc1, b, t, rfl, hb⟩ := bear_get hv i hlt
      refine wpAny_bind (wpAny_seqItems hd hd2 ?_)
      dsimp only
      have hg : (vs.toArray.getD i Value.none) = .bytes b t := by
        rw [Array.getD_eq_getD_getElem?]; simp [hv1]
      have hany : (Bytes.Kind.bytes == Bytes.Kind.bytearray || taken.any fun x => x.fst.onHeap) = false := by
        rw [kb, Bool.false_or, List.any_eq_false]
        intro p hp'
        rw [(ht p hp').2]; exact Bool.false_ne_true
      rw [hany, if_neg Bool.false_ne_true, hg]
      refine wpAny_bind (wpAny_holding (wpAny_of_eq take_eq ?_))
      dsimp only
      refine wpAny_bind (wpAny_seqItems hd hd2 ?_)
      dsimp only
      rw [if_neg (by simp)]
      refine wpAny_pure (hR _ ⟨i + 1, rfl, hlt, ?_, ?_⟩)
      · simp only [Array.toList_push, List.map_append, hp, List.map_cons, List.map_nil, hb]
        rw [List.take_add_one, hc1]; rfl
      · intro p hp'
        rcases List.mem_append.mp hp' with h | h
        · exact ht p h
        · rw [List.mem_singleton.mp h]; exact ⟨rfl, rfl⟩
    · rintro ⟨parts, taken⟩ ⟨k, hl', hk, hp, ht⟩
      have hk' : k = vs.length := by
        by_cases h : k < vs.length
        · rw [show vs.length - k = (vs.length - (k + 1)) + 1 by omega, List.range'_succ] at hl'; cases hl'
        · omega
      rw [hk', hvl, List.take_length] at hp
      have htot : ((Bytes.joined #[] parts.toList).toList.map (·.toNat)) = cs.flatten := by
        rw [joined_nil, List.map_flatten, List.map_map, ← hp]; rfl
      dsimp only
      refine wpAny_bind (m := Bytes.payload _) (wpAny_pure ?_)
      have hsum : ∀ (l : List (Array UInt8)) (a : Nat), l.foldl (fun a p => a + p.size) a = a + (l.map (·.toList)).flatten.length := by
        intro l
        induction l with
        | nil => intro a; simp
        | cons p r ih => intro a; rw [List.foldl_cons, ih]; simp; omega
      have hlen2 : (parts.foldl (fun a p => a + p.size) ((#[] : Array UInt8).size * (parts.size - 1))) ≤ sizeLine := by
        rw [← Array.foldl_toList, hsum]
        have e : (parts.toList.map (·.toList)).flatten.length = cs.flatten.length := by
          rw [← htot, List.length_map, joined_nil]
        simp only [Array.size_empty, Nat.zero_mul, Nat.zero_add]
        omega
      rw [if_neg (by
        show ¬ Bytes.tooLong (parts.foldl (fun a p => a + p.size) ((#[] : Array UInt8).size * (parts.size - 1))) = true
        unfold Bytes.tooLong
        rw [decide_eq_false (by omega)]; exact Bool.false_ne_true)]
      have hjs : (Bytes.joined #[] parts.toList).size ≤ sizeLine := by
        have := congrArg List.length htot
        rw [List.length_map, Array.length_toList] at this
        omega
      refine wpAny_bind (m := mkBytes _) (wpAny_mkBytes ?_ hjs)
      refine wpAny_bind (wpAny_holding (wpAny_point ?_))
      refine wpAny_bind (joinLetGo_wp ?_ _ _ fun p hp' => (ht p hp').1)
      exact wpAny_pure (hQ _ _ ⟨_, _, rfl, htot⟩))
end
end Mine.Re
end

section
namespace Mine
open PySem
def ofL (l : List Nat) : Str := ⟨l.toArray⟩
def toL (x : Str) : List Nat := x.cps.toList
theorem toL_ofL (l : List Nat) : toL (ofL l) = l := rfl
theorem ofL_toL (x : Str) : ofL (toL x) = x := rfl
theorem ofL_length (l : List Nat) : (ofL l).length = l.length := by simp [ofL, Str.length]
theorem ofL_inj {a b : List Nat} (h : ofL a = ofL b) : a = b := congrArg toL h
theorem toL_inj {a b : Str} (h : toL a = toL b) : a = b := congrArg ofL h
theorem ofL_append (a b : List Nat) : ofL (a ++ b) = ofL a ++ ofL b := by
  apply toL_inj
  show a ++ b = ((ofL a).cps ++ (ofL b).cps).toList
  simp [ofL]

/-- each end of a line becomes both signs -/
def subEnds : List Nat → List Nat
  | [] => []
  | [c] => if c = 13 ∨ c = 10 then [13, 10] else [c]
  | c :: d :: r => if c = 13 ∧ d = 10 then 13 :: 10 :: subEnds r else if c = 13 ∨ c = 10 then 13 :: 10 :: subEnds (d :: r) else c :: subEnds (d :: r)
/-- a dot ahead of each dot at a row's start -/
def subDots : Bool → List Nat → List Nat
  | _, [] => []
  | b, c :: r => if b = true ∧ c = 46 then 46 :: 46 :: subDots false r else c :: subDots (c == 10) r

theorem subEnds_le : ∀ l : List Nat, (subEnds l).length ≤ 2 * l.length
  | [] => by simp [subEnds]
  | [c] => by unfold subEnds; split <;> simp
  | c :: d :: r => by
    have h1 := subEnds_le r
    have h2 := subEnds_le (d :: r)
    unfold subEnds
    split
    · simp only [List.length_cons]; omega
    · split <;> (simp only [List.length_cons] at h2 ⊢; omega)
theorem subDots_le : ∀ (l : List Nat) (b : Bool), (subDots b l).length ≤ 2 * l.length
  | [], b => by simp [subDots]
  | c :: r, b => by
    have h1 := subDots_le r false
    have h2 := subDots_le r (c == 10)
    unfold subDots
    split <;> (simp only [List.length_cons]; omega)

namespace Re
open PySem.Builtin PySem.Builtin.Re PyProof.Rows

theorem out_skip {next : Nat → Option (Nat × Nat)} {text rp r : List Nat} {s c : Nat} (h : next s = next (s + 1)) (hc : text[s]? = some c) (o : Out next text rp (s + 1) r) : Out next text rp s (c :: r) := by
  have hd : text.drop s = c :: text.drop (s + 1) := by
    have hlt : s < text.length := (List.getElem?_eq_some_iff.mp hc).1
    rw [List.drop_eq_getElem_cons hlt]
    congr 1
    exact (List.getElem?_eq_some_iff.mp hc).2
  cases o with
  | done hn =>
    rw [← hd]
    exact .done (h.trans hn)
  | @more _ p e r' hn h1 h2 h3 o' =>
    have e1 : c :: ((text.drop (s + 1)).take (p - (s + 1)) ++ rp ++ r') = (text.drop s).take (p - s) ++ rp ++ r' := by
      rw [hd, show p - s = (p - (s + 1)) + 1 by omega, List.take_succ_cons]
      rfl
    rw [e1]
    exact .more (h.trans hn) (by omega) h2 h3 o'
theorem out_hit {next : Nat → Option (Nat × Nat)} {text rp r : List Nat} {s e : Nat} (h : next s = some (s, e)) (h2 : s < e) (h3 : e ≤ text.length) (o : Out next text rp e r) : Out next text rp s (rp ++ r) := by
  have := Out.more (rp := rp) h (Nat.le_refl _) h2 h3 o
  rwa [Nat.sub_self, List.take_zero, List.nil_append] at this

theorem getD_of {text : Array Nat} {s c : Nat} (h : text.toList[s]? = some c) : text.getD s 0 = c := by
  rw [Array.getD_eq_getD_getElem?, ← Array.getElem?_toList, h]; rfl

theorem drop_get {l : List Nat} {s c : Nat} {r : List Nat} (h : l.drop s = c :: r) : l[s]? = some c ∧ l.drop (s + 1) = r ∧ s < l.length := by
  have h0 : (l.drop s)[0]? = some c := by rw [h]; rfl
  rw [List.getElem?_drop] at h0
  refine ⟨by simpa using h0, ?_, ?_⟩
  · rw [← List.tail_drop, h]; rfl
  · exact (List.getElem?_eq_some_iff.mp (by simpa using h0)).1

def nx1 (text : Array Nat) (s : Nat) : Option (Nat × Nat) := next1 text text.size (text.size - s) s
theorem nx1_hit {text : Array Nat} {s : Nat} (hs : s < text.size) (h : hit1 text text.size s = true) : nx1 text s = some (s, s + 1) := by
  unfold nx1
  rw [show text.size - s = (text.size - (s + 1)) + 1 by omega, next1, if_pos h]
theorem nx1_skip {text : Array Nat} {s : Nat} (hs : s < text.size) (h : hit1 text text.size s = false) : nx1 text s = nx1 text (s + 1) := by
  unfold nx1
  rw [show text.size - s = (text.size - (s + 1)) + 1 by omega, next1, if_neg (by rw [h]; exact Bool.false_ne_true)]
theorem out1 (text : Array Nat) : ∀ (l : List Nat) (s : Nat), s ≤ text.size → text.toList.drop s = l → Out (nx1 text) text.toList [46, 46] s (subDots (atS text s) l)
  | [], s, hs, h => by
    have hge : text.size ≤ s := by
      have := List.drop_eq_nil_iff.mp h
      simpa using this
    have : Out (nx1 text) text.toList [46, 46] s (text.toList.drop s) := .done (by unfold nx1; rw [show text.size - s = 0 by omega]; rfl)
    rw [h] at this
    exact this
  | c :: r, s, hs, h => by
    obtain ⟨hc, hr, hlt⟩ := drop_get h
    have hlt' : s < text.size := by simpa using hlt
    have hg := getD_of hc
    have hS : atS text (s + 1) = (c == 10) := by
      unfold atS
      rw [show s + 1 - 1 = s by omega, hg]
      simp
    have ih := out1 text r (s + 1) hlt' hr
    rw [hS] at ih
    unfold subDots
    cases hA : atS text s with
    | true =>
      by_cases hdot : c = 46
      · subst hdot
        rw [if_pos ⟨rfl, rfl⟩]
        have : hit1 text text.size s = true := by unfold hit1; rw [hA, hg]; simp [hlt']
        exact out_hit (nx1_hit hlt' this) (Nat.lt_succ_self _) (by rw [Array.length_toList]; exact hlt') ih
      · rw [if_neg (fun q => hdot q.2)]
        have : hit1 text text.size s = false := by unfold hit1; rw [hA, hg]; simp [hdot]
        exact out_skip (nx1_skip hlt' this) hc ih
    | false =>
      rw [if_neg (fun q => Bool.false_ne_true q.1)]
      have : hit1 text text.size s = false := by unfold hit1; rw [hA]; simp
      exact out_skip (nx1_skip hlt' this) hc ih

def nx3 (text : Array Nat) (s : Nat) : Option (Nat × Nat) := next3 text text.size s
theorem nx3_hit {text : Array Nat} {s : Nat} (hs : s < text.size) (h : isEnd (text.getD s 0) = true) : nx3 text s = some (s, end3 text text.size s) := by
  unfold nx3 next3
  rw [show text.size - s = (text.size - (s + 1)) + 1 by omega, scan3, if_pos h]; rfl
theorem nx3_skip {text : Array Nat} {s : Nat} (hs : s < text.size) (h : isEnd (text.getD s 0) = false) : nx3 text s = nx3 text (s + 1) := by
  unfold nx3 next3
  rw [show text.size - s = (text.size - (s + 1)) + 1 by omega, scan3, if_neg (by rw [h]; exact Bool.false_ne_true)]
theorem isEnd_iff (c : Nat) : isEnd c = true ↔ (c = 13 ∨ c = 10) := by
  unfold isEnd
  simp only [Bool.or_eq_true, beq_iff_eq]
  exact or_comm
theorem out3 (text : Array Nat) : ∀ (n : Nat) (l : List Nat) (s : Nat), l.length ≤ n → s ≤ text.size → text.toList.drop s = l → Out (nx3 text) text.toList [13, 10] s (subEnds l)
  | _, [], s, _, hs, h => by
    have hge : text.size ≤ s := by
      have := List.drop_eq_nil_iff.mp h
      simpa using this
    have : Out (nx3 text) text.toList [13, 10] s (text.toList.drop s) := .done (by unfold nx3 next3; rw [show text.size - s = 0 by omega]; rfl)
    rw [h] at this
    exact this
  | 0, _ :: _, _, hn, _, _ => by simp at hn
  | n + 1, [c], s, hn, hs, h => by
    obtain ⟨hc, hr, hlt⟩ := drop_get h
    have hlt' : s < text.size := by simpa using hlt
    have hg := getD_of hc
    have hsz : text.size = s + 1 := by
      have h1 := List.drop_eq_nil_iff.mp hr
      rw [Array.length_toList] at h1
      omega
    have ih := out3 text n [] (s + 1) (Nat.zero_le _) hlt' hr
    unfold subEnds
    by_cases he : c = 13 ∨ c = 10
    · rw [if_pos he]
      have hh := nx3_hit hlt' (by rw [hg]; exact (isEnd_iff c).mpr he)
      have e3 : end3 text text.size s = s + 1 := by unfold end3; rw [if_neg (fun q => by omega)]
      rw [e3] at hh
      exact out_hit hh (Nat.lt_succ_self _) (by rw [Array.length_toList]; exact hlt') ih
    · rw [if_neg he]
      exact out_skip (nx3_skip hlt' (by rw [hg]; exact Bool.eq_false_iff.mpr fun q => he ((isEnd_iff c).mp q))) hc ih
  | n + 1, c :: d :: r, s, hn, hs, h => by
    obtain ⟨hc, hr, hlt⟩ := drop_get h
    have hlt' : s < text.size := by simpa using hlt
    have hg := getD_of hc
    obtain ⟨hc2, hr2, hlt2⟩ := drop_get hr
    have hlt2' : s + 1 < text.size := by simpa using hlt2
    have hg2 := getD_of hc2
    unfold subEnds
    simp only [List.length_cons] at hn
    by_cases h2 : c = 13 ∧ d = 10
    · rw [if_pos h2]
      obtain ⟨rfl, rfl⟩ := h2
      have hh := nx3_hit hlt' (by rw [hg]; rfl)
      have e3 : end3 text text.size s = s + 2 := by unfold end3; rw [if_pos ⟨hg, hlt2', hg2⟩]
      rw [e3] at hh
      exact out_hit hh (by omega) (by rw [Array.length_toList]; omega) (out3 text n r (s + 2) (by omega) (by omega) hr2)
    · rw [if_neg h2]
      have ih := out3 text n (d :: r) (s + 1) (by simp only [List.length_cons]; omega) (by omega) hr
      by_cases he : c = 13 ∨ c = 10
      · rw [if_pos he]
        have hh := nx3_hit hlt' (by rw [hg]; exact (isEnd_iff c).mpr he)
        have e3 : end3 text text.size s = s + 1 := by unfold end3; rw [if_neg (fun q => h2 ⟨hg ▸ q.1, hg2 ▸ q.2.2⟩)]
        rw [e3] at hh
        exact out_hit hh (Nat.lt_succ_self _) (by rw [Array.length_toList]; omega) ih
      · rw [if_neg he]
        exact out_skip (nx3_skip hlt' (by rw [hg]; exact Bool.eq_false_iff.mpr fun q => he ((isEnd_iff c).mp q))) hc ih

theorem bear_strs {vs : List Value} {cs : List (List Nat)} (h : Bear TS vs cs) : StrsAre vs (cs.map ofL) := by
  induction h with
  | nil => exact .nil
  | cons h _ ih => obtain ⟨x, t, rfl, rfl⟩ := h; exact .cons _ _ ih

theorem join_nil_toL : ∀ cs : List (List Nat), toL (Str.join (ofL []) (cs.map ofL)) = cs.flatten
  | [] => rfl
  | [c] => by simp [Str.join, toL_ofL]
  | c :: d :: r => by
    have ih := join_nil_toL (d :: r)
    show toL (ofL c ++ ofL [] ++ Str.join (ofL []) ((d :: r).map ofL)) = _
    rw [List.flatten_cons, ← ih]
    show ((ofL c).cps ++ (ofL []).cps ++ (Str.join (ofL []) ((d :: r).map ofL)).cps).toList = _
    simp [ofL, toL]

variable {prog : Program} {w : World}
theorem sideS : Side prog w TS 0 where
  slice := by
    intro A E s text b e Q hz _ hQ
    show wpAny _ _ (mkStr ⟨text.extract b e⟩) _ _ _
    exact wpAny_mkStr (hQ _ _ ⟨_, _, rfl, rfl⟩) (by show (text.extract b e).size ≤ _; rw [Array.size_extract]; omega)
  join := by
    intro A E s D vs cs n j Q hj hv _ hlen _ hd hQ
    obtain ⟨x, t, rfl, hx⟩ := hj
    obtain rfl : x = ofL [] := toL_inj hx
    have hl : s.heap.IsList D vs.toArray := ⟨_, hd, rfl, n, rfl⟩
    have hsum : ((cs.map ofL).map (·.length)).sum = cs.flatten.length := by
      rw [List.length_flatten, List.map_map]
      congr 1
    have h24 := sizeLine_eq
    refine PyProof.Rows.join_list (ys := cs.map ofL) hl (by simpa using bear_strs hv) ?_ ?_
    · rw [hsum, ofL_length]
      simp only [List.length_nil, Nat.mul_zero, Nat.add_zero]
      omega
    · intro t' k
      refine hQ _ _ ⟨_, _, rfl, ?_⟩
      show toL (Builtin.Str.glued _ _) = _
      rw [StrLaws.glued_eq_join, join_nil_toL]
  some := by rintro v c ⟨x, t, rfl, _⟩; rfl
  literal := by rintro v c ⟨x, t, rfl, _⟩; rfl

theorem toUInt8_map (l : List Nat) (h : ∀ c ∈ l, c < 256) : (l.map (·.toUInt8)).map (·.toNat) = l := by
  rw [List.map_map]
  conv => rhs; rw [← List.map_id l]
  refine List.map_congr_left fun c hc => ?_
  have := h c hc
  show (c.toUInt8).toNat = c
  simp [Nat.toUInt8, UInt8.toNat_ofNat']
  omega

theorem sideB : Side prog w TB 1 where
  slice := by
    intro A E s text b e Q hz hb hQ
    show wpAny _ _ (mkBytes ((text.extract b e).map (·.toUInt8))) _ _ _
    refine wpAny_mkBytes (hQ _ _ ⟨_, _, rfl, ?_⟩) (by rw [Array.size_map, Array.size_extract]; omega)
    rw [Array.toList_map]
    refine toUInt8_map _ fun c hc => hb c ?_ rfl
    rw [Array.toList_extract] at hc
    exact List.mem_of_mem_drop (List.mem_of_mem_take hc)
  join := by
    intro A E s D vs cs n j Q hj hv _ hlen _ hd hQ
    exact bjoin_wp hj hv hlen hd hQ
  some := by rintro v c ⟨x, t, rfl, _⟩; rfl
  literal := by rintro v c ⟨x, t, rfl, _⟩; rfl
end Re
end Mine
end

section
namespace Mine
open PySem
namespace Re
open PySem.Builtin PySem.Builtin.Re PyProof.Rows

section
variable {prog : Program} {w : World} {A : Around} {s : Shared} {P : Addr} {E : Value → Shared → Prop} {Q : Value → Shared → Prop}
theorem Pat.typeIs {code : Array Nat} {kind : Nat} (p : Pat s.heap P code kind) : s.TypeIs (.ref P) "re.Pattern" := by
  obtain ⟨o, vs, C, oC, cs, n, h1, h2, _⟩ := p.is
  exact ⟨o, h1, h2⟩

theorem sub3 {x : List Nat} {t u : Tok} (p : Pat s.heap P code3 0) (hx : x.length ≤ 100000)
    (hQ : ∀ t' h' tk', (∀ b o, s.heap.get? b = some o → h'.get? b = some o) → Q (.str (ofL (subEnds x)) t') { s with heap := h', toks := tk' }) :
    wpAny (model prog w) A (call (.builtin "re.Pattern.sub") [.ref P, .str (ofL [13, 10]) t, .str (ofL x) u]) Q E s := by
  have h24 := sizeLine_eq
  have hle := subEnds_le x
  have hsz : (ofL x).cps.size = x.length := ofL_length x
  refine sub_T (text := (ofL x).cps) (rp := [13, 10]) (r := subEnds x) (next := nx3 (ofL x).cps) (B := 21) sideS p.typeIs (.str (by decide +kernel)) (fun c _ h => absurd h (by decide)) ⟨_, _, rfl, rfl⟩ (by rw [hsz]; omega) (by omega) (by decide)
    (fun {A E s' Q} hk hq => target_str (p.keeps hk) hq) (fun k hk => search3 _ _ k hk) (out3 _ _ _ 0 (Nat.le_refl _) (Nat.zero_le _) rfl) ?_
  rintro v h' tk' ⟨y, t', rfl, hy⟩ hk
  obtain rfl : y = ofL (subEnds x) := toL_inj hy
  exact hQ t' h' tk' hk
theorem sub1 {x : List Nat} {t u : Tok} (p : Pat s.heap P code1 0) (hx : x.length ≤ 100000)
    (hQ : ∀ t' h' tk', (∀ b o, s.heap.get? b = some o → h'.get? b = some o) → Q (.str (ofL (subDots true x)) t') { s with heap := h', toks := tk' }) :
    wpAny (model prog w) A (call (.builtin "re.Pattern.sub") [.ref P, .str (ofL [46, 46]) t, .str (ofL x) u]) Q E s := by
  have h24 := sizeLine_eq
  have hle := subDots_le x true
  have hsz : (ofL x).cps.size = x.length := ofL_length x
  refine sub_T (text := (ofL x).cps) (rp := [46, 46]) (r := subDots true x) (next := nx1 (ofL x).cps) (B := 3 * (ofL x).cps.size + 5) sideS p.typeIs (.str (by decide +kernel)) (fun c _ h => absurd h (by decide)) ⟨_, _, rfl, rfl⟩ (by rw [hsz]; omega) (by omega) (by rw [hsz]; omega)
    (fun {A E s' Q} hk hq => target_str (p.keeps hk) hq) (fun k hk => search1 _ _ k hk) (out1 _ _ 0 (Nat.zero_le _) rfl) ?_
  rintro v h' tk' ⟨y, t', rfl, hy⟩ hk
  obtain rfl : y = ofL (subDots true x) := toL_inj hy
  exact hQ t' h' tk' hk
theorem sub1b {x : List Nat} {b d : Array UInt8} {t u : Tok} (p : Pat s.heap P code1 1) (hx : x.length ≤ 100000) (hb : b.toList.map (·.toNat) = x) (hd : d.toList = [46, 46])
    (hQ : ∀ (b' : Array UInt8) t' h' tk', b'.toList.map (·.toNat) = subDots true x → (∀ b o, s.heap.get? b = some o → h'.get? b = some o) → Q (.bytes b' t') { s with heap := h', toks := tk' }) :
    wpAny (model prog w) A (call (.builtin "re.Pattern.sub") [.ref P, .bytes d t, .bytes b u]) Q E s := by
  have h24 := sizeLine_eq
  have hle := subDots_le x true
  have htl : (b.map (·.toNat)).toList = x := by rw [Array.toList_map, hb]
  have hsz : (b.map (·.toNat)).size = x.length := by rw [← htl, Array.length_toList]
  have hlit : d.contains 92 = false := by
    obtain ⟨l⟩ := d
    cases hd
    decide +kernel
  refine sub_T (text := b.map (·.toNat)) (rp := [46, 46]) (r := subDots true x) (next := nx1 (b.map (·.toNat))) (B := 3 * (b.map (·.toNat)).size + 5) sideB p.typeIs (.bytes hlit) ?_ ⟨_, _, rfl, by rw [hd]; rfl⟩ (by rw [hsz]; omega) (by omega) (by rw [hsz]; omega)
    (fun {A E s' Q} hk hq => target_bytes (p.keeps hk) hq) (fun k hk => search1 _ _ k hk) (by rw [← htl]; exact out1 _ _ 0 (Nat.zero_le _) rfl) ?_
  · intro c hc _
    rw [Array.toList_map] at hc
    obtain ⟨y, _, rfl⟩ := List.mem_map.mp hc
    exact y.toNat_lt
  · rintro v h' tk' ⟨y, t', rfl, hy⟩ hk
    exact hQ y t' h' tk' hy hk
end
end Re
end Mine
end

section
namespace Mine
open PySem PyProof.Rows
/-- the ten signs -/
def signs10 : List Nat := [97, 45, 92, 32, 9, 11, 12, 28, 133, 8232]
def firstOf (rest : Int) : Nat := ((rest.fdiv 2).fmod 10).toNat
def rotL (rest : Int) : List Nat := signs10.drop (firstOf rest) ++ signs10.take (firstOf rest)
theorem fmod10 (k : Int) : 0 ≤ k.fmod 10 ∧ k.fmod 10 < 10 := ⟨Int.fmod_nonneg_of_pos k (by decide), Int.fmod_lt_of_pos k (by decide)⟩
theorem rot_eq (rest : Int) : Txt.slice (Str.ofString "a-\\ \t\x0b\x0c\x1c\u0085\u2028") (some ((rest.fdiv 2).fmod 10)) none ++ Txt.slice (Str.ofString "a-\\ \t\x0b\x0c\x1c\u0085\u2028") none (some ((rest.fdiv 2).fmod 10)) = ofL (rotL rest) := by
  obtain ⟨h0, h1⟩ := fmod10 (rest.fdiv 2)
  unfold rotL firstOf
  generalize (rest.fdiv 2).fmod 10 = k at *
  have : k = 0 ∨ k = 1 ∨ k = 2 ∨ k = 3 ∨ k = 4 ∨ k = 5 ∨ k = 6 ∨ k = 7 ∨ k = 8 ∨ k = 9 := by omega
  rcases this with rfl | rfl | rfl | rfl | rfl | rfl | rfl | rfl | rfl | rfl <;> decide +kernel
theorem firstOf_lt (rest : Int) : firstOf rest < 10 := by
  have := fmod10 (rest.fdiv 2)
  unfold firstOf
  omega
theorem rotL_length (rest : Int) : (rotL rest).length = 10 := by
  have := firstOf_lt rest
  have h : signs10.length = 10 := rfl
  unfold rotL
  rw [List.length_append, List.length_drop, List.length_take, h]
  omega
theorem rotL_mem (rest : Int) : ∀ c ∈ rotL rest, c ∈ signs10 := by
  intro c hc
  unfold rotL at hc
  rcases List.mem_append.mp hc with h | h
  · exact List.mem_of_mem_drop h
  · exact List.mem_of_mem_take h
end Mine
namespace Mine
open PySem PyProof.Rows
/-- what the figures of an address come to -/
def figL (rest : Int) : List Nat → List Nat
  | [] => []
  | c :: a => (rotL rest).getD (c - 48) 0 :: List.replicate (c - 48) 46 ++ figL rest a
def rowL (rest : Int) (a : List Nat) : List Nat := figL rest a ++ (List.replicate (rest.fmod 2).toNat 46 ++ (rotL rest).take 7)
theorem figL_append (rest : Int) (a b : List Nat) : figL rest (a ++ b) = figL rest a ++ figL rest b := by
  induction a with
  | nil => rfl
  | cons c a ih => rw [List.cons_append, figL, ih, figL, List.append_assoc]
end Mine
namespace Mine
open PySem PyProof.Rows
theorem intText_digit {c : Nat} (h1 : 48 ≤ c) (h2 : c < 53) : PySem.intText? (ofL [c]) = some ((c - 48 : Nat) : Int) := by
  have : c = 48 ∨ c = 49 ∨ c = 50 ∨ c = 51 ∨ c = 52 := by omega
  rcases this with rfl | rfl | rfl | rfl | rfl <;> decide +kernel
theorem figL_le (rest : Int) : ∀ a : List Nat, (∀ c ∈ a, 48 ≤ c ∧ c < 53) → (figL rest a).length ≤ 5 * a.length
  | [], _ => by simp [figL]
  | c :: a, h => by
    have ih := figL_le rest a fun d hd => h d (.tail _ hd)
    have hc := h c (.head _)
    simp only [figL, List.cons_append, List.length_cons, List.length_append, List.length_replicate]
    omega
theorem figL_len (rest : Int) {a : List Nat} (n : Nat) (h : ∀ c ∈ a, 48 ≤ c ∧ c < 53) (hl : a.length ≤ 10) : (figL rest (a.take n)).length ≤ 100 := by
  have h1 := figL_le rest (a.take n) fun c hc => h c (List.mem_of_mem_take hc)
  have h2 : (a.take n).length ≤ a.length := by rw [List.length_take]; omega
  omega
end Mine
end

section
namespace Mine
open PySem PyProof.Rows
theorem item_ofL {l : List Nat} {k : Nat} (h : k < l.length) : Txt.item (ofL l) (k : Int) = ofL [l.getD k 0] := by
  have hs : (ofL l).length = l.length := ofL_length l
  unfold Txt.item Txt.charAt seqIndex?
  have h1 : ¬ ((k : Int) < 0) := by omega
  simp only [if_neg h1]
  rw [if_pos (by rw [Bool.and_eq_true, decide_eq_true_eq, decide_eq_true_eq, hs]; omega)]
  simp [ofL, h]
theorem mul_one (c : Nat) (k : Nat) : Txt.mul (ofL [c]) (k : Int) = ofL (List.replicate k c) := by
  unfold Txt.mul
  by_cases h0 : k = 0
  · subst h0; rfl
  · rw [if_neg (by omega)]
    by_cases h1 : k = 1
    · subst h1; rfl
    · have : ((k : Int) == 1 || (ofL [c]).length == 0) = false := by
        rw [Bool.or_eq_false_iff]
        refine ⟨by rw [beq_eq_false_iff_ne]; omega, rfl⟩
      rw [if_neg (by rw [this]; exact Bool.false_ne_true)]
      apply toL_inj
      rw [toL_ofL]
      show ((List.replicate (k : Int).toNat (ofL [c]).cps).foldl (· ++ ·) #[]).toList = _
      rw [Int.toNat_natCast]
      have key : ∀ (n : Nat) (a : Array Nat), ((List.replicate n (ofL [c]).cps).foldl (· ++ ·) a).toList = a.toList ++ List.replicate n c := by
        intro n
        induction n with
        | zero => intro a; simp
        | succ n ih => intro a; rw [List.replicate_succ, List.foldl_cons, ih]; simp [ofL, List.replicate_succ]
      simpa using key k #[]
theorem dot_is : Str.ofString "." = ofL [46] := by decide +kernel
theorem mul_dot (k : Nat) : Txt.mul (Str.ofString ".") (k : Int) = ofL (List.replicate k 46) := by rw [dot_is, mul_one]
theorem slice_take (l : List Nat) (n : Nat) : Txt.slice (ofL l) none (some (n : Int)) = ofL (l.take n) := by
  have hs : (ofL l).length = l.length := ofL_length l
  have hc : (ofL l).cps.toList = l := rfl
  by_cases h : n ≤ l.length
  · have := eq_of_beq (slice_closes_to (x := ofL l) (j := (n : Int)) ⟨by omega, by rw [hc]; omega⟩)
    rw [this, hc]
    simp [ofL]
  · rw [slice_to_beyond (by rw [hs]; omega)]
    have := eq_of_beq (slice_closes_to (x := ofL l) (j := ((ofL l).length : Int)) ⟨by omega, by rw [hc, hs]; omega⟩)
    rw [this, hc, hs, List.take_of_length_le (l := l) (i := n) (by omega)]
    simp [ofL]
theorem slice_drop (l : List Nat) (n : Nat) : Txt.slice (ofL l) (some (n : Int)) none = ofL (l.drop n) := by
  have hs : (ofL l).length = l.length := ofL_length l
  have hc : (ofL l).cps.toList = l := rfl
  by_cases h : n ≤ l.length
  · have := eq_of_beq (slice_closes_from (x := ofL l) (i := (n : Int)) ⟨by omega, by rw [hc]; omega⟩)
    rw [this, hc]
    have e : ((l.length : Int) - (n : Int)).toNat = l.length - n := by omega
    rw [Int.toNat_natCast, e, List.take_of_length_le (by rw [List.length_drop]; omega)]
    rfl
  · rw [slice_from_beyond (by rw [hs]; omega), List.drop_of_length_le (by omega)]
    rfl
theorem slice_mid (l : List Nat) {a b : Nat} (h : a ≤ b) (h2 : b ≤ l.length) : Txt.slice (ofL l) (some (a : Int)) (some (b : Int)) = ofL ((l.drop a).take (b - a)) := by
  have hc : (ofL l).cps.toList = l := rfl
  have := eq_of_beq (slice_closes (x := ofL l) (i := (a : Int)) (j := (b : Int)) ⟨by omega, by omega, by rw [hc]; omega⟩)
  rw [this, hc, Int.toNat_natCast, show ((b : Int) - (a : Int)).toNat = b - a by omega]
  rfl
theorem slice_last (l : List Nat) : Txt.slice (ofL l) none (some (-1)) = ofL l.dropLast := by
  have hs : (ofL l).length = l.length := ofL_length l
  rw [slice_to_neg (by decide), hs]
  have : max (0 : Int) ((l.length : Int) + -1) = ((l.length - 1 : Nat) : Int) := by omega
  rw [this, slice_take, List.dropLast_eq_take]

theorem row_step (rest : Int) (a : List Nat) (i c : Nat) (ha : a[i]? = some c) (h1 : 48 ≤ c) (h2 : c < 53) :
    ofL (figL rest (a.take i)) ++ (Txt.item (ofL (rotL rest)) ((c - 48 : Nat) : Int) ++ Txt.mul (Str.ofString ".") ((c - 48 : Nat) : Int)) = ofL (figL rest (a.take (i + 1))) := by
  have hr := rotL_length rest
  rw [item_ofL (by omega), mul_dot, ← ofL_append, ← ofL_append, List.take_add_one, ha, figL_append]
  simp [figL]
theorem row_end (rest : Int) (a : List Nat) : ofL (figL rest (List.take (toL (ofL a)).length a)) ++ Txt.mul (Str.ofString ".") (rest.fmod 2) ++ Txt.slice (ofL (rotL rest)) none (some 7) = ofL (rowL rest a) := by
  have hm0 := Int.fmod_nonneg_of_pos rest (show (0 : Int) < 2 by decide)
  have e : rest.fmod 2 = (((rest.fmod 2).toNat : Nat) : Int) := by omega
  rw [toL_ofL, List.take_length]
  rw [show Txt.mul (Str.ofString ".") (rest.fmod 2) = Txt.mul (Str.ofString ".") (((rest.fmod 2).toNat : Nat) : Int) by rw [← e]]
  rw [mul_dot, show (7 : Int) = ((7 : Nat) : Int) from rfl, slice_take, ← ofL_append, ← ofL_append, List.append_assoc]
  rfl
end Mine
end

section
namespace Mine
open PySem PyProof.Rows
structure Small (rows : List (List Nat)) : Prop where
  len : rows.length ≤ 20
  each : ∀ r ∈ rows, r.length ≤ 200
/-- the k-th end of a line -/
def endL (k : Int) : List Nat := if k.fmod 3 = 0 then [10] else if k.fmod 3 = 1 then [13] else [13, 10]
def typedF (rows : List (List Nat)) (count : Int) : Nat → List Nat
  | 0 => rows.getD 0 []
  | i + 1 => typedF rows count i ++ (endL (count + (1 + (i : Int))) ++ rows.getD (1 + i) [])
def typedL (rows : List (List Nat)) (count : Int) : List Nat := typedF rows count (rows.length - 1)
theorem endL_le (k : Int) : (endL k).length ≤ 2 := by unfold endL; (repeat' split) <;> simp
theorem getD_le {rows : List (List Nat)} (h : Small rows) (i : Nat) : (rows.getD i []).length ≤ 200 := by
  by_cases hi : i < rows.length
  · rw [List.getD_eq_getElem?_getD, List.getElem?_eq_getElem hi]; exact h.each _ (List.getElem_mem hi)
  · rw [List.getD_eq_getElem?_getD, List.getElem?_eq_none (by omega)]; simp
theorem typedF_le {rows : List (List Nat)} (h : Small rows) (count : Int) : ∀ i, (typedF rows count i).length ≤ 200 + 202 * i
  | 0 => by have := getD_le h 0; unfold typedF; omega
  | i + 1 => by
    have h1 := typedF_le h count i
    have h2 := endL_le (count + (1 + (i : Int)))
    have h3 := getD_le h (1 + i)
    simp only [typedF, List.length_append]
    omega
theorem getD_map {rows : List (List Nat)} (i : Nat) : (rows.map ofL).getD i Str.empty = ofL (rows.getD i []) := by
  rw [List.getD_eq_getElem?_getD, List.getD_eq_getElem?_getD, List.getElem?_map]
  cases rows[i]? <;> rfl
end Mine
namespace Mine
open PySem PyProof.Rows
theorem range_size {n : Nat} (h : 0 < n) : Builtin.Range.rangeSize 1 (n : Int) 1 = ((n - 1 : Nat) : Int) := by
  unfold Builtin.Range.rangeSize
  rw [if_pos (by decide), Int.ediv_one]
  split <;> omega
theorem range_small {n : Nat} (h : 0 < n) (h2 : n ≤ 1000) : Builtin.Range.small 1 (n : Int) 1 = true := by
  have fits : ∀ k : Int, -5 ≤ k → k ≤ 5000 → Builtin.Range.rangeFitsLong k = true := by
    intro k h0 h1
    unfold Builtin.Range.rangeFitsLong
    have h63 : (2 : Int) ^ 63 = 9223372036854775808 := by decide
    rw [h63, Bool.and_eq_true, decide_eq_true_eq, decide_eq_true_eq]
    omega
  unfold Builtin.Range.small
  rw [range_size h, if_pos (by decide), fits 1 (by decide) (by decide), fits n (by omega) (by omega), fits ((n - 1 : Nat) : Int) (by omega) (by omega), fits ((n : Int) + (1 - 1)) (by omega) (by omega), Bool.or_true]
  rfl
theorem nl_is : Str.ofString "\n" = ofL [10] := by decide +kernel
theorem cr_is : Str.ofString "\x0d" = ofL [13] := by decide +kernel
theorem crlf_is : Str.ofString "\x0d\n" = ofL [13, 10] := by decide +kernel
theorem one_plus (i : Nat) : (1 + (i : Int)).toNat = 1 + i := by omega
theorem typed_step0 {rows : List (List Nat)} {count : Int} {i : Nat} (h : (count + (1 + (i : Int))).fmod 3 = 0) :
    ofL (typedF rows count i) ++ (Str.ofString "\n" ++ (rows.map ofL).getD (1 + (i : Int)).toNat Str.empty) = ofL (typedF rows count (i + 1)) := by
  rw [one_plus, getD_map, nl_is, ← ofL_append, ← ofL_append, typedF, endL, if_pos h]
theorem typed_step1 {rows : List (List Nat)} {count : Int} {i : Nat} (h : (count + (1 + (i : Int))).fmod 3 = 1) :
    ofL (typedF rows count i) ++ (Str.ofString "\x0d" ++ (rows.map ofL).getD (1 + (i : Int)).toNat Str.empty) = ofL (typedF rows count (i + 1)) := by
  rw [one_plus, getD_map, cr_is, ← ofL_append, ← ofL_append, typedF, endL, if_neg (by omega), if_pos h]
theorem typed_step2 {rows : List (List Nat)} {count : Int} {i : Nat} (h : (count + (1 + (i : Int))).fmod 3 = 2) :
    ofL (typedF rows count i) ++ (Str.ofString "\x0d\n" ++ (rows.map ofL).getD (1 + (i : Int)).toNat Str.empty) = ofL (typedF rows count (i + 1)) := by
  rw [one_plus, getD_map, crlf_is, ← ofL_append, ← ofL_append, typedF, endL, if_neg (by omega), if_neg (by omega)]
end Mine
end

section
namespace Mine
open PySem PyProof.Rows
def joinL (sep : List Nat) : List (List Nat) → List Nat
  | [] => []
  | [x] => x
  | x :: y :: r => x ++ (sep ++ joinL sep (y :: r))
theorem join_toL (sep : List Nat) : ∀ ls : List (List Nat), toL (Str.join (ofL sep) (ls.map ofL)) = joinL sep ls
  | [] => rfl
  | [c] => rfl
  | c :: d :: r => by
    have ih := join_toL sep (d :: r)
    show toL (ofL c ++ ofL sep ++ Str.join (ofL sep) ((d :: r).map ofL)) = _
    rw [joinL, ← ih]
    show ((ofL c).cps ++ (ofL sep).cps ++ (Str.join (ofL sep) ((d :: r).map ofL)).cps).toList = _
    simp [ofL, toL]
theorem txt_join (sep : List Nat) (ls : List (List Nat)) : Txt.join (ofL sep) (ls.map ofL) = ofL (joinL sep ls) := by
  apply toL_inj
  rw [toL_ofL, ← join_toL]
  show toL (Builtin.Str.glued _ _) = _
  rw [StrLaws.glued_eq_join]
theorem joinL_le {sep : List Nat} {B : Nat} : ∀ ls : List (List Nat), (∀ r ∈ ls, r.length ≤ B) → (joinL sep ls).length ≤ ls.length * (B + sep.length)
  | [], _ => by simp [joinL]
  | [x], h => by have := h x (.head _); simp only [joinL, List.length_cons, List.length_nil]; omega
  | x :: y :: r, h => by
    have h1 := h x (.head _)
    have h2 := joinL_le (sep := sep) (y :: r) fun z hz => h z (.tail _ hz)
    rw [joinL, List.length_append, List.length_append, List.length_cons, Nat.succ_mul]
    omega
end Mine
namespace Mine
open PySem PyProof.Rows
theorem sp_is : Str.ofString " " = ofL [32] := by decide +kernel
theorem signs_ofL (l : List Nat) : signs (ofL l) = l.map fun c => ofL [c] := rfl
/-- the first sign that is no blank -/
theorem find_blank {p c : Nat} {r : List Nat} (hc : c ≠ 32) {a : Str} {i : Nat} (h : (signs (ofL (List.replicate p 32 ++ c :: r))).zipIdx.find? (fun q => q.1 != Str.ofString " ") = some (a, i)) : i = p := by
  rw [signs_ofL, List.map_append, List.map_replicate, List.map_cons, sp_is] at h
  have key : ∀ (p k : Nat), ((List.replicate p (ofL [32]) ++ ofL [c] :: r.map fun c => ofL [c]).zipIdx k).find? (fun q => q.1 != ofL [32]) = some (ofL [c], k + p) := by
    intro p
    induction p with
    | zero =>
      intro k
      rw [List.replicate_zero, List.nil_append, List.zipIdx_cons, List.find?_cons_of_pos]
      · rfl
      · show (ofL [c] != ofL [32]) = true
        rw [bne_iff_ne]
        intro e
        exact hc (List.cons.inj (ofL_inj e)).1
    | succ p ih =>
      intro k
      rw [List.replicate_succ, List.cons_append, List.zipIdx_cons, List.find?_cons_of_neg]
      · rw [ih]; congr 2; omega
      · show ¬ (ofL [32] != ofL [32]) = true
        rw [bne_self_eq_false]; exact Bool.false_ne_true
  rw [key] at h
  have := Option.some.inj h
  have := (Prod.mk.inj this).2
  omega
theorem no_blank {p c : Nat} {r : List Nat} (hc : c ≠ 32) (h : ∀ q ∈ (signs (ofL (List.replicate p 32 ++ c :: r))).zipIdx, (q.1 != Str.ofString " ") = false) : False := by
  have hm : ofL [c] ∈ signs (ofL (List.replicate p 32 ++ c :: r)) := by
    rw [signs_ofL]
    exact List.mem_map.mpr ⟨c, by simp, rfl⟩
  obtain ⟨i, hi⟩ := List.getElem?_of_mem hm
  have := h (ofL [c], i) (List.mk_mem_zipIdx_iff_getElem?.mpr hi)
  rw [sp_is] at this
  have e : ofL [c] = ofL [32] := by simpa using this
  exact hc (List.cons.inj (ofL_inj e)).1
end Mine
namespace Mine
open PySem PyProof.Rows
theorem sum_le {B : Nat} : ∀ ls : List (List Nat), (∀ r ∈ ls, r.length ≤ B) → ((ls.map ofL).map (·.length)).sum ≤ ls.length * B
  | [], _ => by simp
  | x :: r, h => by
    have h1 := h x (.head _)
    have h2 := sum_le r fun z hz => h z (.tail _ hz)
    simp only [List.map_cons, List.sum_cons, List.length_cons, ofL_length, Nat.succ_mul] at *
    omega
theorem drop_le {B p : Nat} {ls : List (List Nat)} (h : ∀ r ∈ ls, r.length ≤ B) : ∀ r ∈ ls.map (·.drop p), r.length ≤ B := by
  intro r hr
  obtain ⟨q, hq, rfl⟩ := List.mem_map.mp hr
  have := h q hq
  rw [List.length_drop]
  omega
theorem join_fits {sep : List Nat} {ls : List (List Nat)} {B n : Nat} (hl : ls.length ≤ n) (h : ∀ r ∈ ls, r.length ≤ B) (hb : n * B + n * sep.length ≤ 16777216) :
    ((ls.map ofL).map (·.length)).sum + (ls.map ofL).length * (ofL sep).length ≤ 16777216 := by
  have h1 := sum_le ls h
  have h2 : ls.length * B ≤ n * B := Nat.mul_le_mul_right _ hl
  have h3 : ls.length * sep.length ≤ n * sep.length := Nat.mul_le_mul_right _ hl
  rw [List.length_map, ofL_length]
  omega
end Mine
end

section
open PySem PySem.W PyProof.Rows PySem.Calls
set_option maxHeartbeats 4000000
namespace Mine
theorem fill : PySem.Challenge.rw_sc0022_01 = PySem.Challenge.rw_sc0022_01 ∧ hd.heap_39 = hd.heap_39 := by
  k_fill
  w_on
  exact ⟨rfl, rfl⟩

theorem pat43 {P : Params} {h : Heap} (X : (hd.heap_39 P).In h) : Re.Pat h 43 Re.code1 0 := by
  have h1 := X 43 _ (by k_is)
  have h2 := X 42 _ (by k_is)
  exact ⟨_, _, _, _, _, _, h1, rfl, rfl, rfl, rfl, rfl, rfl, h2, rfl, by decide +kernel⟩
theorem pat48 {P : Params} {h : Heap} (X : (hd.heap_39 P).In h) : Re.Pat h 48 Re.code1 1 := by
  have h1 := X 48 _ (by k_is)
  have h2 := X 47 _ (by k_is)
  exact ⟨_, _, _, _, _, _, h1, rfl, rfl, rfl, rfl, rfl, rfl, h2, rfl, by decide +kernel⟩
theorem pat53 {P : Params} {h : Heap} (X : (hd.heap_39 P).In h) : Re.Pat h 53 Re.code3 0 := by
  have h1 := X 53 _ (by k_is)
  have h2 := X 52 _ (by k_is)
  exact ⟨_, _, _, _, _, _, h1, rfl, rfl, rfl, rfl, rfl, rfl, h2, rfl, by decide +kernel⟩
theorem getMethod_pat {M : Model} {A : Around} {E : Value → Shared → Prop} {s : Shared} {P : Addr} {code : Array Nat} {kind : Nat} {pl : Sem Bool} {Q : Value × List Value → Shared → Prop} (p : Re.Pat s.heap P code kind)
    (h : Q (.builtin "re.Pattern.sub", [.ref P]) s) : wpAny M A (getMethod (.ref P) "sub" pl) Q E s := by
  refine getMethod_builtin p.typeIs Re.plainAttrs_pat Re.slot_sub Re.type_sub (fun a e => ?_) h
  cases e
  obtain ⟨o, vs, C, oC, cs, n, h1, h2, h3, _⟩ := p.is
  exact ⟨o, h1, h3⟩
end Mine
namespace Mine
section
variable {prog : Program} {w : World} {A : Around} {s : Shared} {P : Addr} {E : Value → Shared → Prop} {Q : Value → Shared → Prop}
theorem sub3' {x : List Nat} {y : Str} {t u : Tok} (p : Re.Pat s.heap P Re.code3 0) (hy : y = ofL [13, 10]) (hx : x.length ≤ 100000)
    (hQ : ∀ t' h' tk', Mine.Keeps s.heap h' → Q (.str (ofL (subEnds x)) t') { s with heap := h', toks := tk' }) :
    wpAny (model prog w) A (call (.builtin "re.Pattern.sub") ([.ref P] ++ [.str y t, .str (ofL x) u])) Q E s := hy ▸ Re.sub3 p hx hQ
theorem sub1' {x : List Nat} {y : Str} {t u : Tok} (p : Re.Pat s.heap P Re.code1 0) (hy : y = ofL [46, 46]) (hx : x.length ≤ 100000)
    (hQ : ∀ t' h' tk', Mine.Keeps s.heap h' → Q (.str (ofL (subDots true x)) t') { s with heap := h', toks := tk' }) :
    wpAny (model prog w) A (call (.builtin "re.Pattern.sub") ([.ref P] ++ [.str y t, .str (ofL x) u])) Q E s := hy ▸ Re.sub1 p hx hQ
theorem sub1b' {b d : Array UInt8} {t u : Tok} (p : Re.Pat s.heap P Re.code1 1) (hx : b.toList.length ≤ 100000) (hd : d.toList = [46, 46])
    (hQ : ∀ (b' : Array UInt8) t' h' tk', b'.toList.map (·.toNat) = subDots true (b.toList.map (·.toNat)) → Mine.Keeps s.heap h' → Q (.bytes b' t') { s with heap := h', toks := tk' }) :
    wpAny (model prog w) A (call (.builtin "re.Pattern.sub") ([.ref P] ++ [.bytes d t, .bytes b u])) Q E s := Re.sub1b p (by rw [List.length_map]; exact hx) rfl hd hQ
end
end Mine
end

section
open PySem PySem.W PyProof.Rows PySem.Calls
set_option maxHeartbeats 4000000
namespace Mine

local macro_rules | `(tactic| walk_at "getMethod ref") => `(tactic| (k_here; (with_reducible show wpAny _ _ (getMethod (Value.ref _) (PySem.Str.ofString "sub") _) _ _ _); k_dflt (first | refine getMethod_pat (pat43 (by k_in)) ?_ | refine getMethod_pat (pat53 (by k_in)) ?_ | refine getMethod_pat (pat48 (by k_in)) ?_)))
local macro_rules | `(tactic| walk_at "mine kept") => `(tactic| ((with_reducible rename Mine.Keeps _ _ => kk0); (with_reducible rename Fr _ _ _ _ => kF0); (with_reducible rename News _ _ _ _ => kN0); (have F' := Fr.keeps kF0 kk0); (have N' := News.grown kN0 kk0); clear kk0; (try k_sweep)))

local macro_rules | `(tactic| walk_at "mine side") => `(tactic| ((case X => exact Rdy.X (by assumption)); (case hl => exact Rdy.nolimit (by assumption)); (case ho => k_is); (case hcd => k_is); (case hr => omega); (case hb => exact BindsTo.of_eq rfl); (case c5 => decide); (case hloc => exact locs rfl); (case c2 => exact rfl); (case c3 => exact rfl); (case c4 => exact rfl)))
local macro_rules | `(tactic| walk_at "mine go") => `(tactic| repeat' (first | (k_unfold; (try dsimp only)) | (walk1; (try dsimp only)) | fail "no step"))
section
variable {prog : Program} {w : World} {A : Around} {s : Shared} {E : Value → Shared → Prop} {Q : Value → Shared → Prop}

local macro_rules | `(tactic| walk_at "call builtin:re.Pattern.sub") => `(tactic| (k_here; k_dflt (first
  | (refine' sub3' (pat53 (by k_in)) ?y ?x ?_; (case y => decide +kernel); (case x => assumption); intro t' h' tk' kk')
  | (refine' sub1' (pat43 (by k_in)) ?y ?x ?_; (case y => decide +kernel); (case x => assumption); intro t' h' tk' kk')
  | (refine' sub1b' (pat48 (by k_in)) ?x ?y ?_; (case y => decide +kernel); (case x => assumption); intro b' t' h' tk' hb' kk')); walk_at "mine kept"))
theorem quotedata_spec {x : List Nat} {t : Tok} (R : Rdy w s.heap) (hd : A.depth + 10 < recursionLimit) (hx : x.length ≤ 20000)
   (hQ : ∀ t' h' tk', Keeps s.heap h' → Q (.str (ofL (subDots true (subEnds x))) t') { s with heap := h', toks := tk' }) :
   wpAny (model prog w) A (call (.ref 60) [.str (ofL x) t]) Q E s := by
  k_dflt (refine' enter (K := Mine.hd.heap_39 _) (binds := [(Str.ofString "data", .str (ofL x) t)]) ?X ?hl ?ho ?hcd ?hr ?hb ?hloc ?_ ?c2 ?c3 ?c4 ?c5)
  walk_at "mine side"
  obtain ⟨X, T⟩ := R
  obtain ⟨mean, mg, mb, T⟩ := T
  intro h₁ tk F
  have N : News s.heap s.heap.objs.size h₁ [] := News.nil
  generalize hQ' : (fun (fl : Flow) (s' : Shared) => Q (match fl with | .ret v => v | _ => .none) s') = Q'
  have hx1 : x.length ≤ 100000 := by omega
  have hx2 : (subEnds x).length ≤ 100000 := by have := subEnds_le x; omega
  walk_at "mine go"
  first | subst hQ' | skip
  exact hQ _ _ _ (Fr.keep (by assumption))
theorem fix_eols_spec {x : List Nat} {t : Tok} (R : Rdy w s.heap) (hd : A.depth + 10 < recursionLimit) (hx : x.length ≤ 20000)
   (hQ : ∀ t' h' tk', Keeps s.heap h' → Q (.str (ofL (subEnds x)) t') { s with heap := h', toks := tk' }) :
   wpAny (model prog w) A (call (.ref 74) [.str (ofL x) t]) Q E s := by
  k_dflt (refine' enter (K := Mine.hd.heap_39 _) (binds := [(Str.ofString "data", .str (ofL x) t)]) ?X ?hl ?ho ?hcd ?hr ?hb ?hloc ?_ ?c2 ?c3 ?c4 ?c5)
  walk_at "mine side"
  obtain ⟨X, T⟩ := R
  obtain ⟨mean, mg, mb, T⟩ := T
  intro h₁ tk F
  have N : News s.heap s.heap.objs.size h₁ [] := News.nil
  generalize hQ' : (fun (fl : Flow) (s' : Shared) => Q (match fl with | .ret v => v | _ => .none) s') = Q'
  have hx1 : x.length ≤ 100000 := by omega
  have hx2 : (subEnds x).length ≤ 100000 := by have := subEnds_le x; omega
  walk_at "mine go"
  first | subst hQ' | skip
  exact hQ _ _ _ (Fr.keep (by assumption))
theorem quote_periods_spec {b : Array UInt8} {t : Tok} (R : Rdy w s.heap) (hd : A.depth + 10 < recursionLimit) (hx : b.toList.length ≤ 100000)
   (hQ : ∀ b' t' h' tk', b'.toList.map (·.toNat) = subDots true (b.toList.map (·.toNat)) → Keeps s.heap h' → Q (.bytes b' t') { s with heap := h', toks := tk' }) :
   wpAny (model prog w) A (call (.ref 67) [.bytes b t]) Q E s := by
  k_dflt (refine' enter (K := Mine.hd.heap_39 _) (binds := [(Str.ofString "bindata", .bytes b t)]) ?X ?hl ?ho ?hcd ?hr ?hb ?hloc ?_ ?c2 ?c3 ?c4 ?c5)
  walk_at "mine side"
  obtain ⟨X, T⟩ := R
  obtain ⟨mean, mg, mb, T⟩ := T
  intro h₁ tk F
  have N : News s.heap s.heap.objs.size h₁ [] := News.nil
  generalize hQ' : (fun (fl : Flow) (s' : Shared) => Q (match fl with | .ret v => v | _ => .none) s') = Q'
  walk_at "mine go"
  first | subst hQ' | skip
  exact hQ _ _ _ _ (by assumption) (Fr.keep (by assumption))
end
end Mine
end

section
open PySem PySem.W PyProof.Rows PySem.Calls
namespace Mine
/-- here the walk stands still -/
def Stop (p : Prop) : Prop := p
theorem stop {p : Prop} (h : Stop p) : p := h

/-- a turn's end -/
def TurnJ (h₀ : Heap) (L : Addr) (wr : List Addr) (own : List (Addr × Obj)) (J : (Str → Option Value) → List (Addr × Obj) → Prop) (Q : Flow → Shared → Prop) (s₁ : Shared) (f : Flow) (s₂ : Shared) : Prop :=
  match f with
  | .ret v => Q (.ret v) s₂
  | .brk => Q .next s₂
  | _ => ∃ h' tk m' news', s₂ = { s₁ with heap := h', toks := tk } ∧ Fr h₀ L h' m' ∧ News h₀ L h' (own ++ news') ∧ (∀ p ∈ news', p.1 ∉ wr) ∧ J m' news'
theorem TurnJ.next {h₀ : Heap} {L : Addr} {wr : List Addr} {own news' : List (Addr × Obj)} {J : (Str → Option Value) → List (Addr × Obj) → Prop} {Q : Flow → Shared → Prop} {s₁ : Shared} {h' : Heap} {tk : Nat} {m' : Str → Option Value}
    (F : Fr h₀ L h' m') (N : News h₀ L h' (own ++ news')) (hw : ∀ p ∈ news', p.1 ∉ wr) (hJ : J m' news') : TurnJ h₀ L wr own J Q s₁ .next { s₁ with heap := h', toks := tk } :=
  ⟨h', tk, m', news', rfl, F, N, hw, hJ⟩

section
variable {prog : Program} {w : World} {A : Around} {E : Value → Shared → Prop} {s : Shared} {env : Env} {h₀ : Heap} {x : Str} {body : List Stmt} {Q : Flow → Shared → Prop}

theorem loopJ {I : Addr} {fp wr : List Addr} {n : Nat} {P : Nat → Value → Prop} {St : Nat → Heap → Prop} {m₀ : Str → Option Value} {news : List (Addr × Obj)} (J : Nat → (Str → Option Value) → List (Addr × Obj) → Prop)
    (W : Walks prog w A I fp wr n P St) (hLf : env.locals ∉ fp) (hwr : ∀ b ∈ wr, h₀.get? b = none) (hnw : ∀ p ∈ news, p.1 ∉ wr) (hst : St 0 s.heap) (hlive : ∀ i h, St i h → ∀ b ∈ wr, ∃ o, h.get? b = some o)
    (F : Fr h₀ env.locals s.heap m₀) (N : News h₀ env.locals s.heap news) (h0 : J 0 m₀ news)
    (turn : ∀ i v h tk m₁ news₁ own, i < n → P i v → J i m₁ news₁ → (∀ p ∈ news₁, p.1 ∉ wr) → (∀ b ∈ wr, ∃ o, h.get? b = some o) → Fr h₀ env.locals h (fun y => if y = x then some v else m₁ y) → News h₀ env.locals h (own ++ news₁) →
      wpAny (model prog w) A (execs body env) (TurnJ h₀ env.locals wr own (J (i + 1)) Q { s with heap := h, toks := tk }) E { s with heap := h, toks := tk })
    (done : ∀ h tk m' news', Fr h₀ env.locals h m' → News h₀ env.locals h news' → J n m' news' → Q .next { s with heap := h, toks := tk }) :
    LoopAtV prog w A h₀ env x body Q E (.ref I) s := by
  refine ⟨I, fp, wr, n, P, St, m₀, news, J, rfl, W, hLf, hwr, hnw, hst, F, N, h0, ?_, fun h' tk m' news' F' N' _ hJ => done h' tk m' news' F' N' hJ⟩
  rintro i v m₁ news₁ s₁ own ⟨hh', tk', rfl⟩ hin hP hJ hoff _ _ _ hSt F₁ N₁
  refine wpAny_mono (turn i v hh' tk' m₁ news₁ own hin hP hJ hoff (hlive _ _ hSt) F₁ N₁) (fun f s₂ p => ?_) fun _ _ e => e
  cases f with
  | ret v => exact .ret p
  | brk => exact .brk p
  | next => obtain ⟨h', tk, m', news', e, F', N', hn, hm⟩ := p; exact .next ⟨rfl, h', tk, m', news', e, F', N', hn, hm⟩
  | cont => obtain ⟨h', tk, m', news', e, F', N', hn, hm⟩ := p; exact .cont ⟨rfl, h', tk, m', news', e, F', N', hn, hm⟩

theorem iter_strJ {y : Str} {t : Tok} {m₀ : Str → Option Value} {news : List (Addr × Obj)} (J : Nat → (Str → Option Value) → List (Addr × Obj) → Prop)
    (hh : A.handled = none) (F : Fr h₀ env.locals s.heap m₀) (N : News h₀ env.locals s.heap news) (h0 : J 0 m₀ news)
    (turn : ∀ I i c u h tk m₁ news₁ own, (toL y)[i]? = some c → J i m₁ news₁ → (∀ p ∈ news₁, p.1 ∉ [I]) → (∃ o, h.get? I = some o) → Fr h₀ env.locals h (fun z => if z = x then some (.str (ofL [c]) u) else m₁ z) → News h₀ env.locals h (own ++ news₁) →
      wpAny (model prog w) A (execs body env) (TurnJ h₀ env.locals [I] own (J (i + 1)) Q { s with heap := h, toks := tk }) E { s with heap := h, toks := tk })
    (done : ∀ h tk m' news', Fr h₀ env.locals h m' → News h₀ env.locals h news' → J (toL y).length m' news' → Q .next { s with heap := h, toks := tk }) :
    wpAny (model prog w) A (pyIter (.str y t)) (fun it s₂ => LoopAtV prog w A h₀ env x body Q E it s₂) E s := by
  have hsize : y.cps.size = (toL y).length := by simp [toL]
  have key : ∀ (T : String) (o : Obj), Walks prog w A s.heap.objs.size [s.heap.objs.size] [s.heap.objs.size] y.cps.size (SignAt y) (fun i h => h.IsStrIter s.heap.objs.size T y t i) → (s.heap.push o).IsStrIter s.heap.objs.size T y t 0 →
      LoopAtV prog w A h₀ env x body Q E (.ref s.heap.objs.size) { s with heap := s.heap.push o } := by
    intro T o W hst
    refine loopJ J W ?_ ?_ ?_ hst ?_ (F.push _) (fun p hp => ⟨Heap.get?_push_of_some _ (N p hp).1, (N p hp).2⟩) h0 ?_ ?_
    · intro hm
      exact absurd F.ns.lt ((List.mem_singleton.mp hm) ▸ Nat.lt_irrefl _)
    · intro b hb
      rw [List.mem_singleton.mp hb]
      exact next_is_new F
    · intro p hp hI
      exact absurd (Heap.lt_size (N p hp).1) ((List.mem_singleton.mp hI) ▸ Nat.lt_irrefl _)
    · intro i h hs b hb
      rw [List.mem_singleton.mp hb]
      obtain ⟨o, ho, _⟩ := hs
      exact ⟨o, ho⟩
    · rintro i v h tk m₁ news₁ own hi ⟨c, u, hc, rfl⟩ hJ hw hl F₁ N₁
      exact turn _ i c u h tk m₁ news₁ own (by rw [← hc]; simp [toL]) hJ hw (hl _ (.head _)) F₁ N₁
    · intro h tk m' news' F' N' hJ
      rw [hsize] at hJ
      exact done h tk m' news' F' N' hJ
  cases ha : y.cps.all (· < 128)
  · exact wpAny_pyIter_wide ha (key "str_iterator" _ (Walks.strWide hh _ y t) ⟨_, Heap.get?_push_size _ rfl, rfl, rfl⟩)
  · exact wpAny_pyIter_ascii ha (key "str_ascii_iterator" _ (Walks.strAscii hh _ y t) ⟨_, Heap.get?_push_size _ rfl, rfl, rfl⟩)

theorem iter_rangeJ {r : Addr} {a₀ b₀ : Int} {t₀ u₀ v₀ : Tok} {n : Nat} {m₀ : Str → Option Value} {news : List (Addr × Obj)} (J : Nat → (Str → Option Value) → List (Addr × Obj) → Prop)
    (hh : A.handled = none) (hr : IsRange s.heap r a₀ b₀ 1 t₀ u₀ v₀) (hsmall : Builtin.Range.small a₀ b₀ 1 = true) (hn : Builtin.Range.rangeSize a₀ b₀ 1 = (n : Int)) (F : Fr h₀ env.locals s.heap m₀) (N : News h₀ env.locals s.heap news) (h0 : J 0 m₀ news)
    (turn : ∀ I i u h tk m₁ news₁ own, i < n → J i m₁ news₁ → (∀ p ∈ news₁, p.1 ∉ [I]) → (∃ o, h.get? I = some o) → Fr h₀ env.locals h (fun z => if z = x then some (.int (a₀ + (i : Nat)) u) else m₁ z) → News h₀ env.locals h (own ++ news₁) →
      wpAny (model prog w) A (execs body env) (TurnJ h₀ env.locals [I] own (J (i + 1)) Q { s with heap := h, toks := tk }) E { s with heap := h, toks := tk })
    (done : ∀ h tk m' news', Fr h₀ env.locals h m' → News h₀ env.locals h news' → J n m' news' → Q .next { s with heap := h, toks := tk }) :
    wpAny (model prog w) A (pyIter (.ref r)) (fun it s₂ => LoopAtV prog w A h₀ env x body Q E it s₂) E s := by
  refine wpAny_pyIter_range hr hsmall ?_
  have W : Walks prog w A s.heap.objs.size [s.heap.objs.size] [s.heap.objs.size] n (fun i v => i < n ∧ ∃ t, v = .int (a₀ + i * 1) t)
      (fun i h => IsRangeIter h s.heap.objs.size (a₀ + (i : Nat) * 1) ((n : Int) - (i : Nat)) 1) := (Walks.range hh _ a₀ 1 n).bound
  refine loopJ J W ?_ ?_ ?_ (by show IsRangeIter _ _ _ _ _; rw [hn]; simpa using Heap.get?_push_size _ rfl) ?_ (F.push _) (fun p hp => ⟨Heap.get?_push_of_some _ (N p hp).1, (N p hp).2⟩) h0 ?_ done
  · intro hm
    exact absurd F.ns.lt ((List.mem_singleton.mp hm) ▸ Nat.lt_irrefl _)
  · intro b hb
    rw [List.mem_singleton.mp hb]
    exact next_is_new F
  · intro p hp hI
    exact absurd (Heap.lt_size (N p hp).1) ((List.mem_singleton.mp hI) ▸ Nat.lt_irrefl _)
  · intro i h hs b hb
    rw [List.mem_singleton.mp hb]
    exact ⟨_, hs⟩
  · rintro i v h tk m₁ news₁ own hi ⟨_, t, rfl⟩ hJ hw hl F₁ N₁
    rw [Int.mul_one] at F₁
    exact turn _ i t h tk m₁ news₁ own hi hJ hw (hl _ (.head _)) F₁ N₁

theorem iter_listJ {l : Addr} {items : Array Value} {m₀ : Str → Option Value} {news : List (Addr × Obj)} (J : Nat → (Str → Option Value) → List (Addr × Obj) → Prop)
    (hh : A.handled = none) (hl : s.heap.IsList l items) (hlL : l ≠ env.locals) (F : Fr h₀ env.locals s.heap m₀) (N : News h₀ env.locals s.heap news) (h0 : J 0 m₀ news)
    (turn : ∀ I i v h tk m₁ news₁ own, items[i]? = some v → J i m₁ news₁ → (∀ p ∈ news₁, p.1 ∉ [I]) → (∃ o, h.get? I = some o) → Fr h₀ env.locals h (fun z => if z = x then some v else m₁ z) → News h₀ env.locals h (own ++ news₁) →
      wpAny (model prog w) A (execs body env) (TurnJ h₀ env.locals [I] own (J (i + 1)) Q { s with heap := h, toks := tk }) E { s with heap := h, toks := tk })
    (done : ∀ h tk m' news', Fr h₀ env.locals h m' → News h₀ env.locals h news' → J items.size m' news' → Q .next { s with heap := h, toks := tk }) :
    wpAny (model prog w) A (pyIter (.ref l)) (fun it s₂ => LoopAtV prog w A h₀ env x body Q E it s₂) E s := by
  obtain ⟨ol, hol, _⟩ := id hl
  have hne : l ≠ s.heap.objs.size := Nat.ne_of_lt (Heap.lt_size hol)
  refine wpAny_pyIter_list hl ?_
  have W := Walks.list (prog := prog) (w := w) hh s.heap.objs.size l hne items
  refine loopJ J W ?_ ?_ ?_ ⟨⟨_, Heap.get?_push_size _ rfl, rfl, rfl⟩, hl.at fun o e => Heap.get?_push_of_some _ e⟩ ?_ (F.push _) (fun p hp => ⟨Heap.get?_push_of_some _ (N p hp).1, (N p hp).2⟩) h0 ?_ done
  · intro hm
    rcases List.mem_cons.mp hm with e | hm
    · exact absurd F.ns.lt (e ▸ Nat.lt_irrefl _)
    · exact hlL (List.mem_singleton.mp hm).symm
  · intro b hb
    rw [List.mem_singleton.mp hb]
    exact next_is_new F
  · intro p hp hI
    exact absurd (Heap.lt_size (N p hp).1) ((List.mem_singleton.mp hI) ▸ Nat.lt_irrefl _)
  · intro i h hs b hb
    rw [List.mem_singleton.mp hb]
    obtain ⟨⟨o, ho, _⟩, _⟩ := hs
    exact ⟨o, ho⟩
  · rintro i v h tk m₁ news₁ own hi hP hJ hw hl F₁ N₁
    exact turn _ i v h tk m₁ news₁ own hP hJ hw (hl _ (.head _)) F₁ N₁
end
end Mine
end

section
open PySem PySem.W PyProof.Rows PySem.Calls
namespace Mine
/-- a turn that stores the one text r -/
def Turn1 (h₀ : Heap) (L : Addr) (own : List (Addr × Obj)) (x r : Str) (m₀ : Str → Option Value) (l : List Nat) (s₁ : Shared) (f : Flow) (s₂ : Shared) : Prop :=
  f = .next ∧ ∃ h' tk m' t, s₂ = { s₁ with heap := h', toks := tk } ∧ Fr h₀ L h' m' ∧ News h₀ L h' own ∧ m' r = some (.str (ofL l) t) ∧ ∀ z, z ≠ x → z ≠ r → m' z = m₀ z
theorem Turn1.intro {h₀ : Heap} {L : Addr} {own : List (Addr × Obj)} {x r : Str} {m₀ m' : Str → Option Value} {l : List Nat} {s₁ : Shared} {h' : Heap} {tk : Nat} {t : Tok} {X : Str}
    (F : Fr h₀ L h' m') (N : News h₀ L h' own) (hr : m' r = some (.str X t)) (hX : X = ofL l) (hz : ∀ z, z ≠ x → z ≠ r → m' z = m₀ z) : Turn1 h₀ L own x r m₀ l s₁ .next { s₁ with heap := h', toks := tk } :=
  ⟨rfl, h', tk, m', t, rfl, F, N, hX ▸ hr, hz⟩
section
variable {prog : Program} {w : World} {A : Around} {E : Value → Shared → Prop} {s : Shared} {env : Env} {h₀ : Heap} {x : Str} {body : List Stmt} {Q : Flow → Shared → Prop}

theorem iter_str1 {y : Str} {t t0 : Tok} {X0 : Str} {m₀ : Str → Option Value} {news : List (Addr × Obj)} (r : Str) (f : Nat → List Nat)
    (hh : A.handled = none) (F : Fr h₀ env.locals s.heap m₀) (N : News h₀ env.locals s.heap news) (hrx : r ≠ x) (h0 : m₀ r = some (.str X0 t0)) (hX0 : X0 = ofL (f 0))
    (turn : ∀ i c u h tk t own, (toL y)[i]? = some c → Fr h₀ env.locals h (fun z => if z = x then some (.str (ofL [c]) u) else if z = r then some (.str (ofL (f i)) t) else m₀ z) → News h₀ env.locals h (own ++ news) →
      wpAny (model prog w) A (execs body env) (Turn1 h₀ env.locals (own ++ news) x r m₀ (f (i + 1)) { s with heap := h, toks := tk }) E { s with heap := h, toks := tk })
    (done : ∀ h tk t u, Fr h₀ env.locals h (fun z => if z = r then some (.str (ofL (f (toL y).length)) t) else if z = x then u else m₀ z) → News h₀ env.locals h news → Q .next { s with heap := h, toks := tk }) :
    wpAny (model prog w) A (pyIter (.str y t)) (fun it s₂ => LoopAtV prog w A h₀ env x body Q E it s₂) E s := by
  refine iter_strJ (fun i m nw => nw = news ∧ (∃ t, m r = some (.str (ofL (f i)) t)) ∧ ∀ z, z ≠ x → z ≠ r → m z = m₀ z) hh F N ⟨rfl, ⟨t0, hX0 ▸ h0⟩, fun _ _ _ => rfl⟩ ?_ ?_
  · rintro I i c u h tk m₁ news₁ own hc ⟨rfl, ⟨t, hr⟩, hz⟩ hw _ F₁ N₁
    have e : (fun z => if z = x then some (Value.str (ofL [c]) u) else m₁ z) = fun z => if z = x then some (Value.str (ofL [c]) u) else if z = r then some (.str (ofL (f i)) t) else m₀ z := by
      funext z
      by_cases h1 : z = x
      · rw [if_pos h1, if_pos h1]
      · rw [if_neg h1, if_neg h1]
        by_cases h2 : z = r
        · rw [if_pos h2, h2, hr]
        · rw [if_neg h2, hz z h1 h2]
    rw [e] at F₁
    refine wpAny_mono (turn i c u h tk t own hc F₁ N₁) ?_ fun _ _ e => e
    rintro fl s₂ ⟨rfl, h', tk', m', t', rfl, F', N', hr', hz'⟩
    exact ⟨h', tk', m', news₁, rfl, F', N', hw, rfl, ⟨t', hr'⟩, hz'⟩
  · rintro h tk m' news' F' N' ⟨rfl, ⟨t, hr⟩, hz⟩
    refine done h tk t (m' x) ?_ N'
    have e : m' = fun z => if z = r then some (.str (ofL (f (toL y).length)) t) else if z = x then m' x else m₀ z := by
      funext z
      by_cases h2 : z = r
      · rw [if_pos h2, h2, hr]
      · rw [if_neg h2]
        by_cases h1 : z = x
        · rw [if_pos h1, h1]
        · rw [if_neg h1, hz z h1 h2]
    rw [← e]; exact F'

theorem iter_range1 {R : Addr} {a₀ b₀ : Int} {t₁ u₁ v₁ t0 : Tok} {n : Nat} {X0 : Str} {m₀ : Str → Option Value} {news : List (Addr × Obj)} (r : Str) (f : Nat → List Nat)
    (hh : A.handled = none) (hr : IsRange s.heap R a₀ b₀ 1 t₁ u₁ v₁) (hsmall : Builtin.Range.small a₀ b₀ 1 = true) (hn : Builtin.Range.rangeSize a₀ b₀ 1 = (n : Int))
    (F : Fr h₀ env.locals s.heap m₀) (N : News h₀ env.locals s.heap news) (hrx : r ≠ x) (h0 : m₀ r = some (.str X0 t0)) (hX0 : X0 = ofL (f 0))
    (turn : ∀ i u h tk t own, i < n → Fr h₀ env.locals h (fun z => if z = x then some (.int (a₀ + (i : Nat)) u) else if z = r then some (.str (ofL (f i)) t) else m₀ z) → News h₀ env.locals h (own ++ news) →
      wpAny (model prog w) A (execs body env) (Turn1 h₀ env.locals (own ++ news) x r m₀ (f (i + 1)) { s with heap := h, toks := tk }) E { s with heap := h, toks := tk })
    (done : ∀ h tk t u, Fr h₀ env.locals h (fun z => if z = r then some (.str (ofL (f n)) t) else if z = x then u else m₀ z) → News h₀ env.locals h news → Q .next { s with heap := h, toks := tk }) :
    wpAny (model prog w) A (pyIter (.ref R)) (fun it s₂ => LoopAtV prog w A h₀ env x body Q E it s₂) E s := by
  refine iter_rangeJ (fun i m nw => nw = news ∧ (∃ t, m r = some (.str (ofL (f i)) t)) ∧ ∀ z, z ≠ x → z ≠ r → m z = m₀ z) hh hr hsmall hn F N ⟨rfl, ⟨t0, hX0 ▸ h0⟩, fun _ _ _ => rfl⟩ ?_ ?_
  · rintro I i u h tk m₁ news₁ own hc ⟨rfl, ⟨t, hr⟩, hz⟩ hw _ F₁ N₁
    have e : (fun z => if z = x then some (Value.int (a₀ + (i : Nat)) u) else m₁ z) = fun z => if z = x then some (Value.int (a₀ + (i : Nat)) u) else if z = r then some (.str (ofL (f i)) t) else m₀ z := by
      funext z
      by_cases h1 : z = x
      · rw [if_pos h1, if_pos h1]
      · rw [if_neg h1, if_neg h1]
        by_cases h2 : z = r
        · rw [if_pos h2, h2, hr]
        · rw [if_neg h2, hz z h1 h2]
    rw [e] at F₁
    refine wpAny_mono (turn i u h tk t own hc F₁ N₁) ?_ fun _ _ e => e
    rintro fl s₂ ⟨rfl, h', tk', m', t', rfl, F', N', hr', hz'⟩
    exact ⟨h', tk', m', news₁, rfl, F', N', hw, rfl, ⟨t', hr'⟩, hz'⟩
  · rintro h tk m' news' F' N' ⟨rfl, ⟨t, hr⟩, hz⟩
    refine done h tk t (m' x) ?_ N'
    have e : m' = fun z => if z = r then some (.str (ofL (f n)) t) else if z = x then m' x else m₀ z := by
      funext z
      by_cases h2 : z = r
      · rw [if_pos h2, h2, hr]
      · rw [if_neg h2]
        by_cases h1 : z = x
        · rw [if_pos h1, h1]
        · rw [if_neg h1, hz z h1 h2]
    rw [← e]; exact F'
end
end Mine
end

section
open PySem PySem.W PyProof.Rows PySem.Calls
set_option maxHeartbeats 4000000
namespace Mine

local macro_rules | `(tactic| walk_at "getMethod ref") => `(tactic| (k_here; (with_reducible show wpAny _ _ (getMethod (Value.ref _) (PySem.Str.ofString "sub") _) _ _ _); k_dflt (first | refine getMethod_pat (pat43 (by k_in)) ?_ | refine getMethod_pat (pat53 (by k_in)) ?_ | refine getMethod_pat (pat48 (by k_in)) ?_)))
local macro_rules | `(tactic| walk_at "mine kept") => `(tactic| ((with_reducible rename Mine.Keeps _ _ => kk0); (with_reducible rename Fr _ _ _ _ => kF0); (with_reducible rename News _ _ _ _ => kN0); k_dflt ((have F' := Fr.keeps kF0 kk0); (have N' := News.grown kN0 kk0)); clear kk0; (try k_sweep)))

local macro_rules | `(tactic| walk_at "exec For") => `(tactic| (k_here; refine stop ?_))
local macro_rules | `(tactic| walk_at "exec For Name") => `(tactic| (k_here; refine stop ?_))
local macro_rules | `(tactic| walk_at "exec For Name Call cons nil") => `(tactic| (k_here; refine stop ?_))
local macro_rules | `(tactic| walk_at "exec For Tuple") => `(tactic| (k_here; refine stop ?_))
local macro_rules | `(tactic| walk_at "pyIter") => `(tactic| (k_here; refine stop ?_))
local macro_rules | `(tactic| walk_at "pyIter str") => `(tactic| (k_here; refine stop ?_))
local macro_rules | `(tactic| walk_at "pyIter ref") => `(tactic| (k_here; refine stop ?_))
local macro_rules | `(tactic| walk_at "eval ListComp") => `(tactic| (k_here; refine stop ?_))
local macro_rules | `(tactic| walk_at "call ref") => `(tactic| (k_here; plain_pass; refine stop ?_))

local macro_rules | `(tactic| walk_at "mine side") => `(tactic| ((case X => exact Rdy.X (by assumption)); (case hl => exact Rdy.nolimit (by assumption)); (case ho => k_is); (case hcd => k_is); (case hr => omega); (case hb => exact BindsTo.of_eq rfl); (case c5 => decide); (case hloc => exact locs rfl); (case c2 => exact rfl); (case c3 => exact rfl); (case c4 => exact rfl)))
local macro_rules | `(tactic| walk_at "mine go") => `(tactic| repeat' (first | (k_unfold; (try dsimp only)) | (walk1; (try dsimp only)) | fail "no step"))
section
variable {prog : Program} {w : World} {A : Around} {s : Shared} {E : Value → Shared → Prop} {Q : Value → Shared → Prop}
theorem signs_spec {rest : Int} {t : Tok} (R : Rdy w s.heap) (hdp : A.depth + 10 < recursionLimit) 
   (hQ : ∀ t' h' tk', Keeps s.heap h' → Q (.str (ofL (rotL rest)) t') { s with heap := h', toks := tk' }) :
   wpAny (model prog w) A (call (.ref 93) [.int rest t]) Q E s := by
  k_dflt (refine' enter (K := Mine.hd.heap_39 _) (binds := [(Str.ofString "rest", .int rest t)]) ?X ?hl ?ho ?hcd ?hr ?hb ?hloc ?_ ?c2 ?c3 ?c4 ?c5)
  walk_at "mine side"
  obtain ⟨X, T⟩ := R
  obtain ⟨mean, mg, mb, T⟩ := T
  intro h₁ tk F
  have N : News s.heap s.heap.objs.size h₁ [] := News.nil
  generalize hQ' : (fun (fl : Flow) (s' : Shared) => Q (match fl with | .ret v => v | _ => .none) s') = Q'
  walk_at "mine go"
  subst hQ'
  rw [rot_eq]
  exact hQ _ _ _ (Fr.keep (by assumption))

local macro_rules | `(tactic| walk_at "mine ready") => `(tactic| exact ⟨by k_in, _, _, _, Top.keeps (by k_asm) (Fr.keep (by k_asm))⟩)
local macro_rules | `(tactic| walk_at "mine depth") => `(tactic| (simp only [depth_deeper]; omega))
local macro_rules | `(tactic| walk_at "call ref") => `(tactic| (k_here; (with_reducible show wpAny _ _ (call (Value.ref 93) _) _ _ _); k_dflt (refine' signs_spec ?r ?d ?_; (case r => walk_at "mine ready"); (case d => walk_at "mine depth")); intro t' h' tk' kk'; walk_at "mine kept"))

local macro_rules | `(tactic| walk_at "call type:int") => `(tactic| (k_here; k_dflt (refine' PySem.W.KIN.call_text ?n ?l ?_; (case n => assumption); (case l => with_unfolding_all exact Nat.le_of_ble_eq_true rfl))))

local macro_rules | `(tactic| walk_at "subscriptTail Name Call str int") => `(tactic| (k_here; refine item_str (fitsSsize_of (N := 9223372036854775808) (by omega) (by omega) (Int.le_refl _)) (by omega) (by omega) ?_; intro _))
theorem row_spec {rest : Int} {t u : Tok} {a : List Nat} (R : Rdy w s.heap) (hdp : A.depth + 20 < recursionLimit) (hh : A.handled = none) (ha : ∀ c ∈ a, 48 ≤ c ∧ c < 53) (hl : a.length ≤ 10)
   (hQ : ∀ t' h' tk', Keeps s.heap h' → Q (.str (ofL (rowL rest a)) t') { s with heap := h', toks := tk' }) :
   wpAny (model prog w) A (call (.ref 100) [.int rest t, .str (ofL a) u]) Q E s := by
  k_dflt (refine' enter (K := Mine.hd.heap_39 _) (binds := [(Str.ofString "rest", .int rest t), (Str.ofString "address", .str (ofL a) u)]) ?X ?hl ?ho ?hcd ?hr ?hb ?hloc ?_ ?c2 ?c3 ?c4 ?c5)
  walk_at "mine side"
  obtain ⟨X, T⟩ := R
  obtain ⟨mean, mg, mb, T⟩ := T
  intro h₁ tk F
  have N : News s.heap s.heap.objs.size h₁ [] := News.nil
  generalize hQ' : (fun (fl : Flow) (s' : Shared) => Q (match fl with | .ret v => v | _ => .none) s') = Q'
  walk_at "mine go"
  refine For_invV s.heap rfl rfl ?_
  walk_at "mine go"
  with_reducible rename Fr _ _ _ _ => F0
  with_reducible rename News _ _ _ _ => N0
  refine iter_str1 (Str.ofString "row") (fun i => figL rest (a.take i)) hh F0 N0 (by decide) rfl (by rfl) ?_ ?_
  · intro i c u h tk t own hc F N
    have hca : c ∈ a := List.mem_of_getElem? hc
    obtain ⟨hc1, hc2⟩ := ha c hca
    have hn : PySem.intText? (ofL [c]) = some ((c - 48 : Nat) : Int) := intText_digit hc1 hc2
    have hlr : (ofL (rotL rest)).length = 10 := by rw [ofL_length]; exact rotL_length rest
    have hb0 : (0 : Int) ≤ ((c - 48 : Nat) : Int) := Int.natCast_nonneg _
    have hb1 : ((c - 48 : Nat) : Int) < 5 := by omega
    have hfl : (ofL (figL rest (a.take i))).length ≤ 100 := by rw [ofL_length]; exact figL_len rest _ ha hl
    walk_at "mine go"
    with_reducible rename Fr _ _ _ _ => F1
    with_reducible rename News _ _ _ _ => N1
    refine Turn1.intro F1 N1 (if_pos rfl) (row_step rest a i c hc hc1 hc2) ?_
    intro z h1 h2
    show (if z = _ then _ else if z = _ then _ else if z = _ then _ else _) = _
    rw [if_neg h2, if_neg h1, if_neg h2]
  · intro h tk t u F N
    have hfl : (ofL (figL rest (List.take (toL (ofL a)).length a))).length ≤ 100 := by rw [ofL_length]; exact figL_len rest _ ha hl
    have hlr : (ofL (rotL rest)).length = 10 := by rw [ofL_length]; exact rotL_length rest
    have hm0 := Int.fmod_nonneg_of_pos rest (show (0 : Int) < 2 by decide)
    have hm1 := Int.fmod_lt_of_pos rest (show (0 : Int) < 2 by decide)
    walk_at "mine go"
    subst hQ'
    rw [row_end]
    exact hQ _ _ _ (Fr.keep (by assumption))
end
end Mine
end

section
open PySem PySem.W PyProof.Rows PySem.Calls
set_option maxHeartbeats 4000000
namespace Mine

local macro_rules | `(tactic| walk_at "getMethod ref") => `(tactic| (k_here; (with_reducible show wpAny _ _ (getMethod (Value.ref _) (PySem.Str.ofString "sub") _) _ _ _); k_dflt (first | refine getMethod_pat (pat43 (by k_in)) ?_ | refine getMethod_pat (pat53 (by k_in)) ?_ | refine getMethod_pat (pat48 (by k_in)) ?_)))
local macro_rules | `(tactic| walk_at "mine kept") => `(tactic| ((with_reducible rename Mine.Keeps _ _ => kk0); (with_reducible rename Fr _ _ _ _ => kF0); (with_reducible rename News _ _ _ _ => kN0); k_dflt ((have F' := Fr.keeps kF0 kk0); (have N' := News.grown kN0 kk0)); clear kk0; (try k_sweep)))

local macro_rules | `(tactic| walk_at "exec For") => `(tactic| (k_here; refine stop ?_))
local macro_rules | `(tactic| walk_at "exec For Name") => `(tactic| (k_here; refine stop ?_))
local macro_rules | `(tactic| walk_at "exec For Name Call cons nil") => `(tactic| (k_here; refine stop ?_))
local macro_rules | `(tactic| walk_at "exec For Tuple") => `(tactic| (k_here; refine stop ?_))
local macro_rules | `(tactic| walk_at "pyIter") => `(tactic| (k_here; refine stop ?_))
local macro_rules | `(tactic| walk_at "pyIter str") => `(tactic| (k_here; refine stop ?_))
local macro_rules | `(tactic| walk_at "pyIter ref") => `(tactic| (k_here; refine stop ?_))
local macro_rules | `(tactic| walk_at "eval ListComp") => `(tactic| (k_here; refine stop ?_))
local macro_rules | `(tactic| walk_at "call ref") => `(tactic| (k_here; plain_pass; refine stop ?_))

local macro_rules | `(tactic| walk_at "mine side") => `(tactic| ((case X => exact Rdy.X (by assumption)); (case hl => exact Rdy.nolimit (by assumption)); (case ho => k_is); (case hcd => k_is); (case hr => omega); (case hb => exact BindsTo.of_eq rfl); (case c5 => decide); (case hloc => exact locs rfl); (case c2 => exact rfl); (case c3 => exact rfl); (case c4 => exact rfl)))
local macro_rules | `(tactic| walk_at "mine go") => `(tactic| repeat' (first | (k_unfold; (try dsimp only)) | (walk1; (try dsimp only)) | fail "no step"))
section
variable {prog : Program} {w : World} {A : Around} {s : Shared} {E : Value → Shared → Prop} {Q : Value → Shared → Prop}
theorem typed_spec {l : Addr} {u : Tok} {count : Int} {items : Array Value} {rows : List (List Nat)} (R : Rdy w s.heap) (hdp : A.depth + 20 < recursionLimit) (hh : A.handled = none) (hlist : s.heap.IsList l items) (hstrs : StrsAre items.toList (rows.map ofL)) (hsm : Small rows) (hne : 0 < rows.length)
   (hQ : ∀ t' h' tk', Keeps s.heap h' → Q (.str (ofL (typedL rows count)) t') { s with heap := h', toks := tk' }) :
   wpAny (model prog w) A (call (.ref 107) [.ref l, .int count u]) Q E s := by
  k_dflt (refine' enter (K := Mine.hd.heap_39 _) (binds := [(Str.ofString "rows", .ref l), (Str.ofString "count", .int count u)]) ?X ?hl ?ho ?hcd ?hr ?hb ?hloc ?_ ?c2 ?c3 ?c4 ?c5)
  walk_at "mine side"
  obtain ⟨X, T⟩ := R
  obtain ⟨mean, mg, mb, T⟩ := T
  intro h₁ tk F
  have N : News s.heap s.heap.objs.size h₁ [] := News.nil
  generalize hQ' : (fun (fl : Flow) (s' : Shared) => Q (match fl with | .ret v => v | _ => .none) s') = Q'
  have hlen : (rows.map ofL).length = rows.length := List.length_map ..
  have hle : (rows.map ofL).length ≤ 20 := hlen ▸ hsm.len
  have hne' : 0 < (rows.map ofL).length := hlen.symm ▸ hne
  walk_at "mine go"
  refine For_invV s.heap rfl rfl ?_
  walk_at "mine go"
  with_reducible rename Fr _ _ _ _ => F0
  with_reducible rename News _ _ _ _ => N0
  with_reducible rename IsRange _ _ _ _ _ _ _ _ => hR
  refine iter_range1 (n := rows.length - 1) (Str.ofString "text") (fun i => typedF rows count i) hh hR ?_ ?_ F0 N0 (by decide) rfl (getD_map _) ?_ ?_
  · rw [hlen]; exact range_small hne (by have := hsm.len; omega)
  · rw [hlen]; exact range_size hne
  · intro i u h tk t own hi F N
    have hf := typedF_le hsm count i
    have hfl : (ofL (typedF rows count i)).length ≤ 20000 := by rw [ofL_length]; have := hsm.len; omega
    have hi0 : (0 : Int) ≤ 1 + (i : Int) := by omega
    have hi1 : (1 : Int) + (i : Int) < ((rows.map ofL).length : Int) := by rw [hlen]; omega
    have hg : ((rows.map ofL).getD (1 + (i : Int)).toNat Str.empty).length ≤ 200 := by
      rw [getD_map, ofL_length]; exact getD_le hsm _
    walk_at "mine go"
    all_goals (
      with_reducible rename Fr _ _ _ _ => F1
      with_reducible rename News _ _ _ _ => N1
      refine Turn1.intro F1 N1 (if_pos rfl) (by first | exact typed_step0 (by assumption) | exact typed_step1 (by assumption) | exact typed_step2 (by assumption)) ?_
      intro z h1 h2
      show (if z = _ then _ else if z = _ then _ else if z = _ then _ else _) = _
      rw [if_neg h2, if_neg h1, if_neg h2])
  · intro h tk t u F N
    walk_at "mine go"
    subst hQ'
    exact hQ _ _ _ (Fr.keep (by assumption))
end
end Mine
end

section
open PySem PySem.W PyProof.Rows PySem.Calls
namespace Mine
abbrev lobj (vs : List Value) (k : Nat) : Obj := { cls := .type "list", data := .seq vs.toArray k }
section
variable {prog : Program} {w : World} {A : Around} {E : Value → Shared → Prop} {s : Shared} {env : Env} {h₀ : Heap} {body : List Stmt}

def MutEnd (h₀ : Heap) (L l : Addr) (n : Nat) (own news : List (Addr × Obj)) (J : List Value → (Str → Option Value) → Prop) (s₁ : Shared) (f : Flow) (s₂ : Shared) : Prop :=
  f = .next ∧ ∃ h' tk' m' vs' k', s₂ = { s₁ with heap := h', toks := tk' } ∧ Fr h₀ L h' m' ∧ News h₀ L h' (own ++ (l, lobj vs' k') :: news) ∧ vs'.length = n ∧ J vs' m'

theorem forLoop_enum_mut {R : Result → Shared → Prop} {xi xv : Str} {pi pv pt : Pos} {x1 : Nat} {e it l : Addr} {n k₀ : Nat} {vs₀ : List Value} {m : Str → Option Value} {news : List (Addr × Obj)}
    (hh : A.handled = none) (hxi : env.kindOf xi = some .local) (hxv : env.kindOf xv = some .local)
    (hp : (env.scope.kind == .class || (env.scope.kind == .module && env.locals != env.globals)) = false)
    (hei : e ≠ it) (heL : e ≠ env.locals) (hiL : it ≠ env.locals) (hle : l ≠ e) (hli : l ≠ it) (he₀ : h₀.get? e = none) (hi₀ : h₀.get? it = none) (hoff : ∀ p ∈ news, p.1 ≠ e ∧ p.1 ≠ it)
    (he : IsEnum s.heap e it 0 .none) (hit : s.heap.IsListIter it l 0) (F : Fr h₀ env.locals s.heap m) (N : News h₀ env.locals s.heap ((l, lobj vs₀ k₀) :: news)) (hn : vs₀.length = n)
    (J : Nat → List Value → (Str → Option Value) → Prop) (h0 : J 0 vs₀ m)
    (step : ∀ i v t tk m₁ vs k h own, J i vs m₁ → vs[i]? = some v → vs.length = n → i < n → (∀ p ∈ own, p.1 ≠ l) → Fr h₀ env.locals h (fun y => if y = xv then some v else if y = xi then some (.int i t) else m₁ y) → News h₀ env.locals h (own ++ (l, lobj vs k) :: news) →
      wpAny (model prog w) A (execs body env) (MutEnd h₀ env.locals l n own news (J (i + 1)) { s with heap := h, toks := tk }) (notedBy (model prog w) A env fun e s' => R (.error e) s') { s with heap := h, toks := tk })
    (hR : ∀ h' tk m' vs' k', Fr h₀ env.locals h' m' → News h₀ env.locals h' ((l, lobj vs' k') :: news) → J n vs' m' → R (.ok .next) { s with heap := h', toks := tk }) :
    codeAny (model prog w) A (.forLoop (.Tuple [.Name xi pi, .Name xv pv] x1 pt) (.ref e) body [] env) R s := by
  have old₀ : ∀ b o, h₀.get? b = some o → b ≠ e ∧ b ≠ it := fun b o q => ⟨fun z => (by rw [z, he₀] at q; cases q), fun z => (by rw [z, hi₀] at q; cases q)⟩
  refine codeAny_forLoop_any
    (fun q s' => ∃ H tk m' vs kk i old, s' = { s with heap := H, toks := tk } ∧ IsEnum H e it ((i : Nat) : Int) old ∧ H.IsListIter it l i ∧ Fr h₀ env.locals H m' ∧ News h₀ env.locals H ((l, lobj vs kk) :: news) ∧ vs.length = n ∧ J i vs m' ∧ i ≤ n ∧ q = n + 1 - i) ?_ (n + 1)
    ⟨s.heap, s.toks, m, vs₀, k₀, 0, .none, rfl, he, hit, F, N, hn, h0, Nat.zero_le _, rfl⟩
  rintro q s' ⟨H, tk, m', vs, kk, i, old, rfl, he', hit', F', N', hlen, hJ, hi, rfl⟩
  have hl' : H.IsList l vs.toArray := ⟨_, (N' _ (.head _)).1, rfl, kk, rfl⟩
  cases hv : vs.toArray[i]? with
  | none =>
    have hsz : i = n := Nat.le_antisymm hi (by
      have := Array.getElem?_eq_none_iff.mp hv
      rw [List.size_toArray] at this
      omega)
    subst hsz
    refine wpAny_pyNext_enum_end hh he' hit' hl' hv fun h₁ he₁ => wpAny_execs_nil ?_
    refine hR h₁ tk m' vs kk ⟨F'.ns.extBut he₁ (Ne.symm hiL), fun b o x => he₁ b o (old₀ b o x).2 (F'.keep b o x), F'.above⟩ (fun p hp => ⟨he₁ _ _ ?_ (N' p hp).1, (N' p hp).2⟩) hJ
    rcases List.mem_cons.mp hp with rfl | hp
    · exact hli
    · exact (hoff p hp).2
  | some v =>
    have hlt : i < n := by
      have := (Array.getElem?_eq_some_iff.mp hv).1
      rw [List.size_toArray] at this
      omega
    have hv' : vs[i]? = some v := by simpa using hv
    have heH : e < H.objs.size := Heap.lt_size he'
    have hLH : env.locals < H.objs.size := F'.ns.lt
    obtain ⟨oi, hoi, _⟩ := id hit'
    have hiH : it < H.objs.size := Heap.lt_size hoi
    refine wpAny_pyNext_enum_item he' hit' hl' hv hei fun h₁ heo hit₁ ht₁ hz₁ hk₁ => ?_
    refine wpAny_letOwnedTupleGo_enum heo fun h₂ he₂ hs₂ => ?_
    replace hs₂ : Heap.SameBut e h₁ h₂ := hs₂
    have ht₂ : h₂.IsTuple H.objs.size #[.int i tk, v] := ⟨_, (hs₂.2 _ (Nat.ne_of_gt heH)).trans ht₁, rfl, _, rfl⟩
    have hz₂ : h₂.objs.size = H.objs.size + 1 := hs₂.1.trans hz₁
    refine wpAny_assign_Tuple hh ht₂ rfl rfl fun h₃ hx₃ => ?_
    replace hx₃ : Heap.ExtBut h₂.objs.size h₂ h₃ := hx₃
    have old₃ : ∀ b o, b < H.objs.size → h₂.get? b = some o → h₃.get? b = some o := fun b o hb x => hx₃ b o (by rw [hz₂]; exact Nat.ne_of_lt (Nat.lt_succ_of_lt hb)) x
    have up : ∀ b o, b ≠ e → b ≠ it → H.get? b = some o → h₃.get? b = some o := fun b o h1 h2 x => old₃ b o (Heap.lt_size x) ((hs₂.2 b h1).trans (hk₁ b o h1 h2 x))
    have F₃ : Fr h₀ env.locals h₃ m' := ⟨F'.ns.at' fun o x => up _ o (Ne.symm heL) (Ne.symm hiL) x, fun b o x => up b o (old₀ b o x).1 (old₀ b o x).2 (F'.keep b o x), F'.above⟩
    have N₃ : News h₀ env.locals h₃ ((l, lobj vs kk) :: news) := fun p hp => by
      refine ⟨up _ _ ?_ ?_ (N' p hp).1, (N' p hp).2⟩
      · rcases List.mem_cons.mp hp with rfl | hp
        · exact hle
        · exact (hoff p hp).1
      · rcases List.mem_cons.mp hp with rfl | hp
        · exact hli
        · exact (hoff p hp).2
    have he₃ : IsEnum h₃ e it ((i : Int) + 1) v := old₃ e _ heH he₂
    have hit₂ : h₃.IsListIter it l (i + 1) := by
      obtain ⟨o, ho, r⟩ := hit₁
      exact ⟨o, old₃ it o hiH ((hs₂.2 it (Ne.symm hei)).trans ho), r⟩
    obtain ⟨oI, hoI, hrI⟩ := hit₂
    have Nown : News h₀ env.locals h₃ [(e, _), (it, oI)] := fun p hp => by
      rcases List.mem_cons.mp hp with rfl | hp
      · exact ⟨he₃, heL, he₀⟩
      · rw [List.mem_singleton.mp hp]
        exact ⟨hoI, hiL, hi₀⟩
    have NN := Nown.append N₃
    show wpAny _ A (do holding [v] (assign (.Name xi pi) env (.int i tk)); do holding [] (assign (.Name xv pv) env v); pure ()) _ _ _
    refine wpAny_bind (wpAny_holding (wpAny_assign_Name (wpAny_storeName_local hxi F₃.ns (fun h₄ hn₄ hs₄ => ?_) hp)))
    replace hs₄ : Heap.SameBut env.locals h₃ h₄ := hs₄
    have F₄ := F₃.set hn₄ hs₄
    refine wpAny_bind (wpAny_holding (wpAny_assign_Name (wpAny_storeName_local hxv F₄.ns (fun h₅ hn₅ hs₅ => wpAny_pure ?_) hp)))
    replace hs₅ : Heap.SameBut env.locals h₄ h₅ := hs₅
    have F₅ := F₄.set hn₅ hs₅
    refine wpAny_mono (step i v tk _ m' vs kk h₅ _ hJ hv' hlen hlt (fun p hp => by
      rcases List.mem_cons.mp hp with rfl | hp
      · exact Ne.symm hle
      · rw [List.mem_singleton.mp hp]; exact Ne.symm hli) F₅ ((NN.set hs₄).set hs₅)) (fun f s₃ h₆ => ?_) fun _ _ x => x
    obtain ⟨rfl, h₆, tk₆, m₆, vs₆, k₆, rfl, F₆, N₆, hl₆, hJ₆⟩ := h₆
    have zE := (N₆ _ (.head _)).1
    have zI := (N₆ _ (.tail _ (.head _))).1
    refine ⟨n + 1 - (i + 1), by omega, h₆, tk₆, m₆, vs₆, k₆, i + 1, v, rfl, ?_, ⟨oI, zI, hrI⟩, F₆, fun p hp => N₆ p (.tail _ (.tail _ hp)), hl₆, hJ₆, hlt, rfl⟩
    have : ((i + 1 : Nat) : Int) = (i : Int) + 1 := by push_cast; rfl
    rw [this]
    exact zE

/-- what a walk of an enumerated list, its items set turn by turn, wants -/
def EnumMutAt (prog : Program) (w : World) (A : Around) (h₀ : Heap) (env : Env) (xi xv : Str) (body : List Stmt) (Q : Flow → Shared → Prop) (E : Value → Shared → Prop) (v : Value) (s : Shared) : Prop :=
  ∃ (e it l : Addr) (n k₀ : Nat) (vs₀ : List Value) (m : Str → Option Value) (news : List (Addr × Obj)) (J : Nat → List Value → (Str → Option Value) → Prop),
    v = .ref e ∧ e ≠ it ∧ e ≠ env.locals ∧ it ≠ env.locals ∧ l ≠ e ∧ l ≠ it ∧ h₀.get? e = none ∧ h₀.get? it = none ∧ (∀ p ∈ news, p.1 ≠ e ∧ p.1 ≠ it) ∧ IsEnum s.heap e it 0 .none ∧ s.heap.IsListIter it l 0 ∧ Fr h₀ env.locals s.heap m ∧
    News h₀ env.locals s.heap ((l, lobj vs₀ k₀) :: news) ∧ vs₀.length = n ∧ J 0 vs₀ m ∧
    (∀ i v t tk m₁ vs k h own, J i vs m₁ → vs[i]? = some v → vs.length = n → i < n → (∀ p ∈ own, p.1 ≠ l) → Fr h₀ env.locals h (fun y => if y = xv then some v else if y = xi then some (.int i t) else m₁ y) → News h₀ env.locals h (own ++ (l, lobj vs k) :: news) →
      wpAny (model prog w) A (execs body env) (MutEnd h₀ env.locals l n own news (J (i + 1)) { s with heap := h, toks := tk }) E { s with heap := h, toks := tk }) ∧
    (∀ h' tk m' vs' k', Fr h₀ env.locals h' m' → News h₀ env.locals h' ((l, lobj vs' k') :: news) → J n vs' m' → Q .next { s with heap := h', toks := tk })

theorem For_enum_mut {Q : Flow → Shared → Prop} {xi xv : Str} {pi pv pt pos : Pos} {x1 : Nat} {iter : PySem.Expr} (h₀ : Heap)
    (hh : A.handled = none) (hxi : env.kindOf xi = some .local) (hxv : env.kindOf xv = some .local)
    (hp : (env.scope.kind == .class || (env.scope.kind == .module && env.locals != env.globals)) = false)
    (h : wpAny (model prog w) A (eval iter env) (EnumMutAt prog w A h₀ env xi xv body Q E) E s)
    (hs : ∀ x, foldedSetIterable iter env x = pure x)
    (hE : PassesOwn (model prog w) A env E := by passes_own) :
    wpAny (model prog w) A (exec (.For (.Tuple [.Name xi pi, .Name xv pv] x1 pt) iter body [] pos) env) Q E s := by
  refine wpAny_For (wpAny_mono h (fun v s₁ h₁ => ?_) fun _ _ e => e) hs
  obtain ⟨e, it, l, n, k₀, vs₀, m, news, J, rfl, hei, heL, hiL, hle, hli, he₀, hi₀, hoff, he, hit, F, N, hn, h0, step, done⟩ := h₁
  refine wpAny_pyIter_enum he ?_
  exact forLoop_enum_mut (R := fun r s' => match r with | .ok f => Q f s' | .error e => cameBackBy (model prog w) A env E e s') hh hxi hxv hp hei heL hiL hle hli he₀ hi₀ hoff he hit F N hn J h0
    (fun i v t tk m₁ vs k h own a b c d e f g => wpAny_passesOwn hE (step i v t tk m₁ vs k h own a b c d e f g)) done

theorem call_enum_mut {Q : Flow → Shared → Prop} {xi xv : Str} {l : Addr} {k₀ : Nat} {vs₀ : List Value} {m : Str → Option Value} {news : List (Addr × Obj)} (J : Nat → List Value → (Str → Option Value) → Prop)
    (F : Fr h₀ env.locals s.heap m) (N : News h₀ env.locals s.heap ((l, lobj vs₀ k₀) :: news)) (h0 : J 0 vs₀ m)
    (step : ∀ i v t tk m₁ vs k h own, J i vs m₁ → vs[i]? = some v → vs.length = vs₀.length → i < vs₀.length → (∀ p ∈ own, p.1 ≠ l) → Fr h₀ env.locals h (fun y => if y = xv then some v else if y = xi then some (.int i t) else m₁ y) → News h₀ env.locals h (own ++ (l, lobj vs k) :: news) →
      wpAny (model prog w) A (execs body env) (MutEnd h₀ env.locals l vs₀.length own news (J (i + 1)) { s with heap := h, toks := tk }) E { s with heap := h, toks := tk })
    (done : ∀ h' tk m' vs' k', Fr h₀ env.locals h' m' → News h₀ env.locals h' ((l, lobj vs' k') :: news) → J vs₀.length vs' m' → Q .next { s with heap := h', toks := tk }) :
    wpAny (model prog w) A (call (.type "enumerate") [.ref l]) (EnumMutAt prog w A h₀ env xi xv body Q E) E s := by
  have hl := (N _ (.head _)).1
  refine call_enumerate_list (items := vs₀.toArray) ⟨_, hl, rfl, k₀, rfl⟩ fun h' he hit hsz hk => ?_
  have hlt : l < s.heap.objs.size := Heap.lt_size hl
  have hLt : env.locals < s.heap.objs.size := F.ns.lt
  have hs1 : s.heap.objs.size < s.heap.objs.size + 1 := Nat.lt_succ_self _
  have h0le : h₀.objs.size ≤ s.heap.objs.size := Nat.le_trans F.above (Nat.le_of_lt hLt)
  refine ⟨s.heap.objs.size + 1, s.heap.objs.size, l, vs₀.length, k₀, vs₀, m, news, J, rfl, Nat.succ_ne_self _, Nat.ne_of_gt (Nat.lt_trans hLt hs1), Nat.ne_of_gt hLt, Nat.ne_of_lt (Nat.lt_trans hlt hs1), Nat.ne_of_lt hlt,
    Heap.get?_none_of_le (Nat.le_trans h0le (Nat.le_succ _)), Heap.get?_none_of_le h0le, fun p hp => ?_, he, hit, F.keeps hk, N.grown hk, rfl, h0, step, done⟩
  have := Heap.lt_size (N p (.tail _ hp)).1
  exact ⟨Nat.ne_of_lt (Nat.lt_trans this hs1), Nat.ne_of_lt this⟩

theorem setItem_L {Q : Unit → Shared → Prop} {L l : Addr} {vs : List Value} {k j : Nat} {t : Tok} {v : Value} {own news : List (Addr × Obj)} {m : Str → Option Value} (F : Fr h₀ L s.heap m) (N : News h₀ L s.heap (own ++ (l, lobj vs k) :: news))
    (h1 : ∀ p ∈ own, p.1 ≠ l) (h2 : ∀ p ∈ news, p.1 ≠ l) (hj : j < vs.length) (hsz : vs.length ≤ 1000)
    (h : ∀ h' k', Fr h₀ L h' m → News h₀ L h' (own ++ (l, lobj (vs.set j v) k') :: news) → Q () { s with heap := h' }) : wpAny (model prog w) A (setItem (.ref l) (.int (j : Nat) t) v) Q E s := by
  have z := N (l, lobj vs k) (List.mem_append_right _ (.head _))
  refine ki_setAt (items := vs.toArray) z.1 (by omega) (by omega) (by rw [List.size_toArray]; omega) ?_
  rw [Int.toNat_natCast]
  have hs : Heap.SameBut l s.heap (s.heap.update l (Obj.mapSeq (·.setIfInBounds j v))) := Heap.SameBut.update ..
  obtain ⟨k', hk'⟩ : ∃ k', (s.heap.update l (Obj.mapSeq (·.setIfInBounds j v))).get? l = some (lobj (vs.set j v) k') := by
    refine ⟨k, (Heap.get?_update_self _ z.1 rfl).trans ?_⟩
    simp [Obj.mapSeq]
  refine h _ k' (F.change hs z.2.1 z.2.2) (fun p hp => ?_)
  rcases List.mem_append.mp hp with hp' | hp'
  · have q := N p (List.mem_append_left _ hp')
    exact ⟨(hs.2 _ (h1 p hp')).trans q.1, q.2⟩
  · rcases List.mem_cons.mp hp' with rfl | hp'
    · exact ⟨hk', z.2⟩
    · have q := N p (List.mem_append_right _ (.tail _ hp'))
      exact ⟨(hs.2 _ (h2 p hp')).trans q.1, q.2⟩
end
end Mine
end

section
open PySem PySem.W PyProof.Rows PySem.Calls
namespace Mine
theorem map2 {m M : Str → Option Value} {a b : Str} (h : ∀ y, y ≠ a → y ≠ b → m y = M y) : m = fun y => if y = a then m a else if y = b then m b else M y := by
  funext y
  by_cases h1 : y = a
  · rw [if_pos h1, h1]
  · rw [if_neg h1]
    by_cases h2 : y = b
    · rw [if_pos h2, h2]
    · rw [if_neg h2, h y h1 h2]
theorem map2u {m M : Str → Option Value} {a b : Str} {va vb : Option Value} (h : ∀ y, y ≠ a → y ≠ b → m y = M y) : (fun y => if y = a then va else if y = b then vb else m y) = fun y => if y = a then va else if y = b then vb else M y := by
  funext y
  by_cases h1 : y = a
  · rw [if_pos h1, if_pos h1]
  · rw [if_neg h1, if_neg h1]
    by_cases h2 : y = b
    · rw [if_pos h2, if_pos h2]
    · rw [if_neg h2, if_neg h2, h y h1 h2]
theorem map2e {m M : Str → Option Value} {a b : Str} {va vb : Option Value} (h : ∀ y, y ≠ a → y ≠ b → m y = M y) : ∀ y, y ≠ b → y ≠ a → (if y = a then va else if y = b then vb else m y) = M y :=
  fun y h2 h1 => by rw [if_neg h1, if_neg h2, h y h1 h2]

def mixL (p i : Nat) (ls : List (List Nat)) : List (List Nat) := (ls.take i).map (·.drop p) ++ ls.drop i
theorem mix_get {p i : Nat} {ls : List (List Nat)} (hi : i < ls.length) : (mixL p i ls)[i]? = ls[i]? := by
  unfold mixL
  rw [List.getElem?_append_right (by simp; omega)]
  simp
  congr 1
  omega
theorem mix_set {p i : Nat} {ls : List (List Nat)} {a : List Nat} (ha : ls[i]? = some a) : (mixL p i ls).set i (a.drop p) = mixL p (i + 1) ls := by
  have hi : i < ls.length := (List.getElem?_eq_some_iff.mp ha).1
  unfold mixL
  rw [List.take_add_one, ha, List.map_append, List.append_assoc, List.set_append_right _ _ (by simp; omega)]
  congr 1
  have hd : ls.drop i = a :: ls.drop (i + 1) := by
    rw [List.drop_eq_getElem_cons hi]
    congr 1
    exact (List.getElem?_eq_some_iff.mp ha).2
  rw [hd]
  simp
  rw [show i - min i ls.length = 0 by omega]
  rfl
theorem mix_all (p : Nat) (ls : List (List Nat)) : mixL p ls.length ls = ls.map (·.drop p) := by
  unfold mixL
  rw [List.take_length, List.drop_length, List.append_nil]
theorem strs_get {vs : List Value} {ys : List Str} (h : StrsAre vs ys) : ∀ {i : Nat} {v : Value}, vs[i]? = some v → ∃ y t, ys[i]? = some y ∧ v = .str y t := by
  induction h with
  | nil => intro i v hv; simp at hv
  | cons y t _ ih =>
    intro i v hv
    cases i with
    | zero => simp at hv; exact ⟨y, t, rfl, hv.symm⟩
    | succ i => simpa using ih (by simpa using hv)
theorem strs_set {vs : List Value} {ys : List Str} (h : StrsAre vs ys) : ∀ (i : Nat) (y : Str) (t : Tok), StrsAre (vs.set i (.str y t)) (ys.set i y) := by
  induction h with
  | nil => intro i y t; exact .nil
  | cons y t h ih =>
    intro i z u
    cases i with
    | zero => exact .cons z u h
    | succ i => exact .cons y t (ih i z u)
theorem strs_len {vs : List Value} {ys : List Str} (h : StrsAre vs ys) : vs.length = ys.length := by
  induction h with
  | nil => rfl
  | cons y t _ ih => rw [List.length_cons, List.length_cons, ih]
end Mine
namespace Mine
theorem frame_named {h₀ h : Heap} {L : Addr} {m : Str → Option Value} (_ : Fr h₀ L h m) : ∃ M, M = m := ⟨m, rfl⟩
end Mine
end

section
open PySem PySem.W PyProof.Rows PySem.Calls
set_option maxHeartbeats 4000000
namespace Mine

local macro_rules | `(tactic| walk_at "getMethod ref") => `(tactic| (k_here; (with_reducible show wpAny _ _ (getMethod (Value.ref _) (PySem.Str.ofString "sub") _) _ _ _); k_dflt (first | refine getMethod_pat (pat43 (by k_in)) ?_ | refine getMethod_pat (pat53 (by k_in)) ?_ | refine getMethod_pat (pat48 (by k_in)) ?_)))
local macro_rules | `(tactic| walk_at "mine kept") => `(tactic| ((with_reducible rename Mine.Keeps _ _ => kk0); (with_reducible rename Fr _ _ _ _ => kF0); (with_reducible rename News _ _ _ _ => kN0); k_dflt ((have F' := Fr.keeps kF0 kk0); (have N' := News.grown kN0 kk0)); clear kk0; (try k_sweep)))

local macro_rules | `(tactic| walk_at "exec For") => `(tactic| (k_here; refine stop ?_))
local macro_rules | `(tactic| walk_at "exec For Name") => `(tactic| (k_here; refine stop ?_))
local macro_rules | `(tactic| walk_at "exec For Name Call cons nil") => `(tactic| (k_here; refine stop ?_))
local macro_rules | `(tactic| walk_at "exec For Tuple") => `(tactic| (k_here; refine stop ?_))
local macro_rules | `(tactic| walk_at "pyIter") => `(tactic| (k_here; refine stop ?_))
local macro_rules | `(tactic| walk_at "pyIter str") => `(tactic| (k_here; refine stop ?_))
local macro_rules | `(tactic| walk_at "pyIter ref") => `(tactic| (k_here; refine stop ?_))
local macro_rules | `(tactic| walk_at "eval ListComp") => `(tactic| (k_here; refine stop ?_))
local macro_rules | `(tactic| walk_at "call ref") => `(tactic| (k_here; plain_pass; refine stop ?_))

local macro_rules | `(tactic| walk_at "call type:enumerate") => `(tactic| (k_here; refine stop ?_))
local macro_rules | `(tactic| walk_at "exec For Tuple Call cons nil") => `(tactic| (k_here; refine stop ?_))
local macro_rules | `(tactic| walk_at "exec For Tuple Call") => `(tactic| (k_here; refine stop ?_))

local macro_rules | `(tactic| walk_at "setItem ref int") => `(tactic| (k_here; refine stop ?_))

local macro_rules | `(tactic| walk_at "mine side") => `(tactic| ((case X => exact Rdy.X (by assumption)); (case hl => exact Rdy.nolimit (by assumption)); (case ho => k_is); (case hcd => k_is); (case hr => omega); (case hb => exact BindsTo.of_eq rfl); (case c5 => decide); (case hloc => exact locs rfl); (case c2 => exact rfl); (case c3 => exact rfl); (case c4 => exact rfl)))
local macro_rules | `(tactic| walk_at "mine go") => `(tactic| repeat' (first | (k_unfold; (try dsimp only)) | (walk1; (try dsimp only)) | fail "no step"))
section
variable {prog : Program} {w : World} {A : Around} {s : Shared} {E : Value → Shared → Prop} {Q : Value → Shared → Prop}
theorem dedent_spec {x : List Nat} {t : Tok} {p c : Nat} {r : List Nat} {rest : List (List Nat)} (R : Rdy w s.heap) (hdp : A.depth + 20 < recursionLimit) (hh : A.handled = none) (hx : x.length ≤ 20000)
   (hsplit : Txt.split (ofL x) (Str.ofString "\n") = ((List.replicate p 32 ++ c :: r) :: rest).map ofL) (hc : c ≠ 32) (hlen : rest.length ≤ 50) (hsm : ∀ y ∈ (List.replicate p 32 ++ c :: r) :: rest, y.length ≤ 300)
   (hQ : ∀ t' h' tk', Keeps s.heap h' → Q (.str (ofL (joinL [10] (((List.replicate p 32 ++ c :: r) :: rest).map (·.drop p)))) t') { s with heap := h', toks := tk' }) :
   wpAny (model prog w) A (call (.ref 38) [.str (ofL x) t]) Q E s := by
  k_dflt (refine' enter (K := Mine.hd.heap_39 _) (binds := [(Str.ofString "text", .str (ofL x) t)]) ?X ?hl ?ho ?hcd ?hr ?hb ?hloc ?_ ?c2 ?c3 ?c4 ?c5)
  walk_at "mine side"
  obtain ⟨X, T⟩ := R
  obtain ⟨mean, mg, mb, T⟩ := T
  intro h₁ tk F
  have N : News s.heap s.heap.objs.size h₁ [] := News.nil
  generalize hQ' : (fun (fl : Flow) (s' : Shared) => Q (match fl with | .ret v => v | _ => .none) s') = Q'
  have hxl : (ofL x).length + 2 ≤ sizeLine := by rw [ofL_length, sizeLine_eq]; omega
  walk_at "mine go"
  refine For_pair3 s.heap hh rfl rfl rfl ?_ (fun _ => rfl)
  walk_at "mine go"
  with_reducible rename Fr _ _ _ _ => F0
  with_reducible rename News _ _ _ _ => N0
  with_reducible rename (List.map _ _ = Txt.split _ _) => hl
  with_reducible rename StrsAre _ _ => hst
  with_reducible rename (_ = some _) => hy
  rw [hl, hsplit] at hy hst
  cases hy
  obtain ⟨lines, hlines⟩ : ∃ ls, ls = (List.replicate p 32 ++ c :: r) :: rest := ⟨_, rfl⟩
  rw [← hlines] at hsplit hst hsm hQ
  have hll : lines.length ≤ 51 := by rw [hlines, List.length_cons]; omega
  clear hsplit hl
  refine call_enum_str hh F0 N0 ?_
  intro h' e F1 N1 S
  refine Pair_leave (pz := fun a _ => a != Str.ofString " ") (S.at _ rfl) rfl ?_ ?_ ?_
  · intro i a t v s₁ own ha hk F N
    obtain ⟨u, rfl⟩ := hk
    walk_at "mine go"
    exact ⟨s₁.heap, _, rfl, fun _ _ e => e⟩
  · intro i a t v own h₄ tk₄ ha hpz hf hk F N
    obtain ⟨u, rfl⟩ := hk
    have hip := find_blank hc hf
    subst hip
    replace N := N.right
    clear S N0 N1 F0 F1 ha hpz hf
    walk_at "mine go"
    refine For_enum_mut s.heap hh rfl rfl rfl ?_ (fun _ => rfl)
    walk_at "mine go"
    obtain ⟨M, hM⟩ := frame_named F
    refine call_enum_mut (fun k vs m => StrsAre vs ((mixL i k lines).map ofL) ∧ ∀ y, y ≠ Str.ofString "l" → y ≠ Str.ofString "j" → m y = M y) F N ⟨hst, fun _ _ _ => by rw [hM]⟩ ?_ ?_
    · rintro k v t tk m₁ vs kk h own ⟨hs, hm⟩ hv hlen hk hown F N
      subst hM
      obtain ⟨y, u2, hy, rfl⟩ := strs_get hs hv
      have hvl := strs_len hst
      rw [List.length_map] at hvl
      rw [map2u hm] at F
      have hk' : k < lines.length := by omega
      rw [List.getElem?_map, mix_get hk', List.getElem?_eq_getElem hk'] at hy
      obtain rfl : ofL lines[k] = y := by simpa using hy
      have hb : (ofL lines[k]).length ≤ 300 := by rw [ofL_length]; exact hsm _ (List.getElem_mem hk')
      have hi0 : (0 : Int) ≤ (i : Int) := by omega
      walk_at "mine go"
      with_reducible rename Fr _ _ _ _ => F2
      with_reducible rename News _ _ _ _ => N2
      refine setItem_L F2 N2 hown (fun p hp => nomatch hp) (by omega) (by omega) ?_
      intro h' k' F3 N3
      walk_at "mine go"
      refine ⟨rfl, _, _, _, _, k', rfl, F3, N3, by rw [List.length_set]; exact hlen, ?_, fun y h1 h2 => (if_neg h1).trans (if_neg h2)⟩
      rw [slice_drop, ← mix_set (List.getElem?_eq_getElem hk'), List.map_set]
      exact strs_set hs _ _ _
    · rintro h' tk m' vs' k' F N ⟨hs, hm⟩
      subst hM
      rw [map2 hm] at F
      walk_at "mine go"
      have hvl := strs_len hst
      rw [List.length_map] at hvl
      rw [hvl, mix_all] at hs
      rw [nl_is]
      refine join_list (items := vs'.toArray) ⟨_, (N _ (.head _)).1, rfl, k', rfl⟩ (by simpa using hs) (join_fits (n := 51) (B := 300) (by rw [List.length_map]; exact hll) (drop_le hsm) (by decide)) ?_
      intro t' k
      rw [txt_join]
      subst hQ'
      exact hQ _ _ _ (Fr.keep F)
  · intro h' tk vi vl F N hno
    exact (no_blank hc hno).elim
end
end Mine
end

section
namespace Mine.Co
open PySem PySem.Builtin PySem.Builtin._codecs
/-- the signs of these texts -/
def okC (c : Nat) : Bool := decide (c < 128) || c == 133 || c == 8232
def enc (l : List Nat) : List UInt8 := l.flatMap Str.utf8Of

theorem dropG {α : Type} {l : List α} {s : Nat} {c : α} {r : List α} (h : l.drop s = c :: r) : l[s]? = some c ∧ l.drop (s + 1) = r ∧ s < l.length := by
  have h0 : (l.drop s)[0]? = some c := by rw [h]; rfl
  rw [List.getElem?_drop] at h0
  refine ⟨by simpa using h0, ?_, ?_⟩
  · rw [← List.tail_drop, h]; rfl
  · exact (List.getElem?_eq_some_iff.mp (by simpa using h0)).1
theorem getD_drop {b : Array UInt8} {p : Nat} {x : UInt8} {r : List UInt8} (h : b.toList.drop p = x :: r) : b.getD p 0 = x ∧ b[p]? = some x ∧ b.toList.drop (p + 1) = r ∧ p < b.size := by
  obtain ⟨h1, h2, h3⟩ := dropG h
  have h1' : b[p]? = some x := by rw [← Array.getElem?_toList]; exact h1
  refine ⟨?_, h1', h2, by simpa using h3⟩
  rw [Array.getD_eq_getD_getElem?, h1']; rfl

theorem at_ascii {b : Array UInt8} {p c : Nat} {r : List UInt8} (hc : c < 128) (h : b.toList.drop p = c.toUInt8 :: r) : Bytes.utf8At b p = (.char c, p + 1) := by
  obtain ⟨h1, _, _, _⟩ := getD_drop h
  have e : (c.toUInt8).toNat = c := by simp [Nat.toUInt8, UInt8.toNat_ofNat']; omega
  unfold Bytes.utf8At
  rw [h1, e]
  simp only []
  rw [if_pos hc]
theorem at_133 {b : Array UInt8} {p : Nat} {r : List UInt8} (h : b.toList.drop p = 0xC2 :: 0x85 :: r) : Bytes.utf8At b p = (.char 133, p + 2) := by
  obtain ⟨h1, _, h3, _⟩ := getD_drop h
  obtain ⟨_, h5, _, _⟩ := getD_drop h3
  unfold Bytes.utf8At
  rw [h1]
  simp [h5, List.range_succ]
  rfl
theorem at_8232 {b : Array UInt8} {p : Nat} {r : List UInt8} (h : b.toList.drop p = 0xE2 :: 0x80 :: 0xA8 :: r) : Bytes.utf8At b p = (.char 8232, p + 3) := by
  obtain ⟨h1, _, h3, _⟩ := getD_drop h
  obtain ⟨_, h5, h6, _⟩ := getD_drop h3
  obtain ⟨_, h8, _, _⟩ := getD_drop h6
  unfold Bytes.utf8At
  rw [h1]
  simp [h5, h8, List.range_succ, Nat.add_assoc]
  rfl

theorem utf8_of (c : Nat) (h : okC c = true) : (c < 128 ∧ Str.utf8Of c = [c.toUInt8]) ∨ (c = 133 ∧ Str.utf8Of c = [0xC2, 0x85]) ∨ (c = 8232 ∧ Str.utf8Of c = [0xE2, 0x80, 0xA8]) := by
  unfold okC at h
  simp only [Bool.or_eq_true, decide_eq_true_eq, beq_iff_eq] at h
  rcases h with (h | rfl) | rfl
  · exact .inl ⟨h, by unfold Str.utf8Of; rw [if_pos h]⟩
  · exact .inr (.inl ⟨rfl, rfl⟩)
  · exact .inr (.inr ⟨rfl, rfl⟩)

theorem at_enc {b : Array UInt8} {p c : Nat} {r : List UInt8} (hc : okC c = true) (h : b.toList.drop p = Str.utf8Of c ++ r) : ∃ q, Bytes.utf8At b p = (.char c, q) ∧ b.toList.drop q = r ∧ p < q ∧ q ≤ b.size := by
  rcases utf8_of c hc with ⟨h1, e⟩ | ⟨rfl, e⟩ | ⟨rfl, e⟩
  · rw [e] at h
    exact ⟨p + 1, at_ascii h1 h, (getD_drop h).2.2.1, Nat.lt_succ_self _, (getD_drop h).2.2.2⟩
  · rw [e] at h
    exact ⟨p + 2, at_133 h, (getD_drop (getD_drop h).2.2.1).2.2.1, by omega, (getD_drop (getD_drop h).2.2.1).2.2.2⟩
  · rw [e] at h
    exact ⟨p + 3, at_8232 h, (getD_drop (getD_drop (getD_drop h).2.2.1).2.2.1).2.2.1, by omega, (getD_drop (getD_drop (getD_drop h).2.2.1).2.2.1).2.2.2⟩

theorem find_enc {b : Array UInt8} {p c : Nat} {r : List UInt8} (hc : okC c = true) (h : b.toList.drop p = Str.utf8Of c ++ r) : ∃ q, utf8Decoder.find true b p = .text [c] q ∧ b.toList.drop q = r ∧ p < q ∧ q ≤ b.size := by
  obtain ⟨q, h1, h2⟩ := at_enc hc h
  refine ⟨q, ?_, h2⟩
  show (match Bytes.utf8At b p with | (.char c, next) => Found.char c next | (.bad _ stop reason, _) => _) = _
  rw [h1]
  rfl

theorem bind_left {α β : Type} {m m' : Sem α} {g : α → Sem β} (h : m = m') : m >>= g = m' >>= g := by rw [h]
theorem forIn_steps {α β γ : Type} {f : α → β → Sem (ForInStep β)} (R : List γ → β → Prop) (fin : β) (h1 : ∀ b, R [] b → b = fin ∧ ∀ x, f x b = pure (.done b)) (h2 : ∀ c rest b, R (c :: rest) b → ∃ b', (∀ x, f x b = pure (.yield b')) ∧ R rest b') :
    ∀ (rest : List γ) (l : List α) (b : β), R rest b → rest.length ≤ l.length → forIn l b f = pure fin
  | [], [], b, h, _ => by rw [List.forIn_nil, (h1 b h).1]
  | [], x :: l, b, h, _ => by
    rw [List.forIn_cons, (h1 b h).2, pure_bind, (h1 b h).1]
  | c :: rest, [], b, h, hl => by simp at hl
  | c :: rest, x :: l, b, h, hl => by
    obtain ⟨b', hb, h'⟩ := h2 c rest b h
    rw [List.forIn_cons, hb, pure_bind]
    exact forIn_steps R fin h1 h2 rest l b' h' (by simpa using hl)

theorem enc_len : ∀ (cs : List Nat), (∀ c ∈ cs, okC c = true) → cs.length ≤ (enc cs).length ∧ (enc cs).length ≤ 3 * cs.length
  | [], _ => by simp [enc]
  | c :: r, h => by
    obtain ⟨h1, h2⟩ := enc_len r fun d hd => h d (.tail _ hd)
    have e : enc (c :: r) = Str.utf8Of c ++ enc r := rfl
    rw [e, List.length_append, List.length_cons]
    rcases utf8_of c (h c (.head _)) with ⟨_, e⟩ | ⟨_, e⟩ | ⟨_, e⟩ <;> (rw [e]; simp only [List.length_cons, List.length_nil]; omega)

theorem decode_eq (id : String) (b : Array UInt8) (cs : List Nat) (hb : b.toList = enc cs) (hc : ∀ c ∈ cs, okC c = true) (hl : cs.length ≤ sizeLine) :
    runDecoder id utf8Decoder none true b 0 [] = pure (cs.toArray, b.size) := by
  unfold runDecoder
  dsimp only
  rw [Std.Legacy.Range.forIn_eq_forIn_range']
  have hsz : (Std.Legacy.Range.size [:b.size]) = b.size := by simp [Std.Legacy.Range.size]
  rw [hsz]
  refine (bind_left (forIn_steps (γ := Nat) (fun rest st => ∃ done p, st = (p, done.toArray, ({} : Faults)) ∧ done ++ rest = cs ∧ b.toList.drop p = enc rest ∧ p ≤ b.size) (b.size, cs.toArray, {}) ?_ ?_ cs _ _ ⟨[], 0, rfl, rfl, hb, Nat.zero_le _⟩ ?_)).trans ?_
  · rintro st ⟨done, p, rfl, rfl, hd, hp⟩
    have hpe : b.size ≤ p := by
      have := List.drop_eq_nil_iff.mp hd
      simpa using this
    obtain rfl : p = b.size := Nat.le_antisymm hp hpe
    refine ⟨by rw [List.append_nil], fun x => ?_⟩
    dsimp only
    rw [if_neg (by rw [List.size_toArray]; rw [List.append_nil] at hl; omega), if_pos (Nat.le_refl _)]
  · rintro c rest st ⟨done, p, rfl, rfl, hd, hp⟩
    have hok := hc c (by simp)
    obtain ⟨q, h1, h2, h3, h4⟩ := find_enc (r := enc rest) hok hd
    have hplt : p < b.size := by
      apply Nat.lt_of_not_le
      intro hge
      rw [List.drop_of_length_le (by simpa using hge)] at hd
      have : (enc (c :: rest)).length = 0 := by rw [← hd]; rfl
      rcases utf8_of c hok with ⟨_, e⟩ | ⟨_, e⟩ | ⟨_, e⟩ <;> simp [enc, e] at this
    refine ⟨(q, (done ++ [c]).toArray, {}), fun x => ?_, done ++ [c], q, rfl, by simp, h2, ?_⟩
    · dsimp only
      rw [if_neg (by rw [List.size_toArray]; simp at hl; omega), if_neg (by omega), h1]
      dsimp only
      simp
    · exact h4
  · rw [List.length_range', ← Array.length_toList, hb]
    exact (enc_len cs hc).1
  · rw [pure_bind]

theorem fold_enc : ∀ (l : List Nat) (a : Array UInt8), (l.foldl (fun acc y => acc ++ (Str.utf8Of y).toArray) a).toList = a.toList ++ enc l
  | [], a => by simp [enc]
  | c :: r, a => by
    rw [List.foldl_cons, fold_enc r]
    simp [enc]

theorem encode_eq (id : String) (v : Value) (l : List Nat) (hne : 0 < l.length) (hl : l.length ≤ 100000) (hc : ∀ c ∈ l, okC c = true) : encodeNarrow id utf8Codec none v (ofL l) = pure (enc l).toArray := by
  unfold encodeNarrow
  dsimp only
  rw [Std.Legacy.Range.forIn_eq_forIn_range']
  have hbad : ∀ c ∈ l, utf8Codec.bad c = false := by
    intro c h
    have := hc c h
    unfold okC at this
    simp only [Bool.or_eq_true, decide_eq_true_eq, beq_iff_eq] at this
    show Str.isSurrogate c = false
    unfold Str.isSurrogate
    rw [Bool.and_eq_false_iff, decide_eq_false_iff_not, decide_eq_false_iff_not]
    omega
  obtain ⟨c, r, rfl⟩ : ∃ c r, l = c :: r := by
    cases l with
    | nil => simp at hne
    | cons c r => exact ⟨c, r, rfl⟩
  refine (bind_left (forIn_steps (γ := Unit) (fun rest st => (rest = [()] ∧ st = (0, #[], ({} : Faults))) ∨ (rest = [] ∧ st = ((c :: r).length, (enc (c :: r)).toArray, {}))) ((c :: r).length, (enc (c :: r)).toArray, {}) ?_ ?_ [()] _ _ (.inl ⟨rfl, rfl⟩) ?_)).trans ?_
  · rintro st (⟨h, _⟩ | ⟨_, rfl⟩)
    · cases h
    · refine ⟨rfl, fun x => ?_⟩
      dsimp only
      have h24 := sizeLine_eq
      have hle := (enc_len (c :: r) hc).2
      rw [if_neg (by rw [List.size_toArray]; omega)]
      rw [show (ofL (c :: r)).cps[(c :: r).length]? = none by simp [ofL]]
  · rintro u rest st (⟨h, rfl⟩ | ⟨h, _⟩)
    · obtain ⟨rfl, rfl⟩ := List.cons.inj h
      refine ⟨_, fun x => ?_, .inr ⟨rfl, rfl⟩⟩
      dsimp only
      rw [if_neg (by simp)]
      rw [show (ofL (c :: r)).cps[0]? = some c by simp [ofL]]
      dsimp only
      rw [if_pos (by rw [hbad c (.head _)]; rfl)]
      have hex : (ofL (c :: r)).cps.extract 0 = (c :: r).toArray := by simp [ofL]
      rw [hex]
      have hfi : Array.findIdx? utf8Codec.bad (c :: r).toArray = none := by
        rw [Array.findIdx?_eq_none_iff]
        intro d hd
        exact hbad d (by simpa using hd)
      rw [hfi]
      have hsz : ((c :: r).toArray.extract 0 (Option.getD none (c :: r).toArray.size)) = (c :: r).toArray := by simp
      rw [hsz]
      have hf : Array.foldl (fun acc y => acc ++ (utf8Codec.bytesOf y).toArray) #[] (c :: r).toArray = (enc (c :: r)).toArray := by
        rw [← Array.foldl_toList]
        apply Array.toList_inj.mp
        exact fold_enc (c :: r) #[]
      rw [hf]
      simp
    · cases h
  · simp [Std.Legacy.Range.size, ofL_length]
  · rw [pure_bind]
end Mine.Co
end

section
namespace Mine.Co
open PySem PySem.Builtin PySem.Builtin._codecs PyProof.Rows
theorem road (v : Value) (s : Str) : _codecs.encodeRoad "str.encode" v s (Str.ofString "utf-8") none = (_codecs.encodeNarrow "str.encode" utf8Codec none v s >>= fun b => mkBytes b) := by kernel_rfl
section
variable {prog : Program} {w : World} {A : Around} {s : Shared} {E : Value → Shared → Prop} {Q : Value → Shared → Prop}
theorem getMethod_enc {M : Model} {x : Str} {t : Tok} {pl : Sem Bool} {Q : Value × List Value → Shared → Prop} (h : Q (.builtin "str.encode", [.str x t]) s) : wpAny M A (getMethod (.str x t) "encode" pl) Q E s :=
  GM.of (.str x t) (typeIs_str _ _ _) F.slot_str_encode F.type_str_encode GM.noRef h
theorem encode_wp {l : List Nat} {t : Tok} (hne : 0 < l.length) (hl : l.length ≤ 100000) (hc : ∀ c ∈ l, okC c = true)
    (hQ : ∀ t' tk', Q (.bytes (enc l).toArray t') { s with toks := tk' }) : wpAny (model prog w) A (call (.builtin "str.encode") [.str (ofL l) t]) Q E s := by
  refine wpAny_call (codeAny_call_builtin F.slot_str_encode.plain F.entry_str_encode (F.slot_str_encode.check _ _ _ _ _ _ _ _ (typeIs_str _ _ _) (F.args_str_encode_1 _) ?_))
  have h24 := sizeLine_eq
  have hle := (enc_len l hc).2
  unfold Builtin.«str.encode»
  dsimp only
  refine wpAny_bind (m := Str.strSelf _) (wpAny_pure ?_)
  dsimp only
  refine wpAny_bind (m := Str.bindOptional _ _ _ _ _ _) (wpAny_pure ?_)
  refine wpAny_bind (m := Str.codecArg _ _ _ _) (wpAny_pure ?_)
  refine wpAny_bind (m := Str.codecArg _ _ _ _) (wpAny_pure ?_)
  show wpAny _ _ (_codecs.encodeRoad "str.encode" (.str (ofL l) t) (ofL l) (Str.ofString "utf-8") none >>= _) _ _ _
  rw [road, encode_eq _ _ l hne hl hc, pure_bind]
  refine wpAny_bind (wpAny_mkBytes (wpAny_pure (hQ _ _)) ?_)
  rw [List.size_toArray]; omega

theorem decode_wp {l : List Nat} {b : Array UInt8} {t : Tok} (hb : b.toList = enc l) (hne : 0 < l.length) (hl : l.length ≤ 100000) (hc : ∀ c ∈ l, okC c = true)
    (hQ : ∀ t' tk', Q (.str (ofL l) t') { s with toks := tk' }) : wpAny (model prog w) A (call (.builtin "bytes.decode") [.bytes b t]) Q E s := by
  have h24 := sizeLine_eq
  have hle := (enc_len l hc).1
  obtain ⟨bl⟩ := b
  cases bl with
  | nil =>
    simp only at hb
    rw [← hb] at hle
    have h0 : l.length = 0 := Nat.le_zero.mp hle
    omega
  | cons c cs =>
    exact PySem.W.KBd.decode (x := ofL l) (n := (c :: cs).length) (fun id => decode_eq id (c :: cs).toArray l hb hc (by omega)) (by rw [ofL_length]; omega) hQ
end

/-- the dots of the octets -/
theorem subDots_enc : ∀ (l : List Nat) (b : Bool), (∀ c ∈ l, okC c = true) → subDots b ((enc l).map (·.toNat)) = (enc (subDots b l)).map (·.toNat)
  | [], _, _ => rfl
  | c :: r, b, h => by
    have e : enc (c :: r) = Str.utf8Of c ++ enc r := rfl
    have ih := fun b => subDots_enc r b fun d hd => h d (.tail _ hd)
    rcases utf8_of c (h c (.head _)) with ⟨h1, e1⟩ | ⟨rfl, e1⟩ | ⟨rfl, e1⟩
    · have hn : (c.toUInt8).toNat = c := by simp [Nat.toUInt8, UInt8.toNat_ofNat']; omega
      rw [e, e1, List.singleton_append, List.map_cons, hn, subDots, subDots]
      by_cases hd : b = true ∧ c = 46
      · rw [if_pos hd, if_pos hd, ih]
        rfl
      · rw [if_neg hd, if_neg hd, ih]
        show _ = (Str.utf8Of c ++ enc (subDots (c == 10) r)).map (·.toNat)
        rw [e1]
        simp [hn]
    · rw [e, e1]
      show subDots b (0xC2 :: 0x85 :: (enc r).map (·.toNat)) = _
      rw [subDots, if_neg (by omega), subDots, if_neg (by omega)]
      show _ :: _ :: subDots false _ = _
      rw [ih, subDots, if_neg (by omega)]
      rfl
    · rw [e, e1]
      show subDots b (0xE2 :: 0x80 :: 0xA8 :: (enc r).map (·.toNat)) = _
      rw [subDots, if_neg (by omega), subDots, if_neg (by omega), subDots, if_neg (by omega)]
      show _ :: _ :: _ :: subDots false _ = _
      rw [ih, subDots, if_neg (by omega)]
      rfl
end Mine.Co
end

section
namespace Mine
open PySem PyProof.Rows
/-- rows without ends -/
def Free (rows : List (List Nat)) : Prop := ∀ r ∈ rows, ∀ c ∈ r, c ≠ 13 ∧ c ≠ 10

def typedR : List (List Nat) → Int → List Nat
  | [], _ => []
  | r :: rs, k => endL k ++ (r ++ typedR rs (k + 1))
theorem typedR_snoc : ∀ (rs : List (List Nat)) (r : List Nat) (k : Int), typedR (rs ++ [r]) k = typedR rs k ++ (endL (k + (rs.length : Int)) ++ r)
  | [], r, k => by simp [typedR]
  | q :: rs, r, k => by
    rw [List.cons_append, typedR, typedR, typedR_snoc rs r (k + 1), List.length_cons]
    have e : k + 1 + (rs.length : Int) = k + ((rs.length + 1 : Nat) : Int) := by omega
    rw [e]
    simp [List.append_assoc]
theorem typedF_eq (r0 : List Nat) (rs : List (List Nat)) (count : Int) : ∀ i, i ≤ rs.length → typedF (r0 :: rs) count i = r0 ++ typedR (rs.take i) (count + 1)
  | 0, _ => by simp [typedF, typedR]
  | i + 1, h => by
    have hi : i < rs.length := by omega
    rw [typedF, typedF_eq r0 rs count i (by omega), List.take_add_one, List.getElem?_eq_getElem hi]
    show _ = r0 ++ typedR (rs.take i ++ [rs[i]]) (count + 1)
    rw [typedR_snoc, List.length_take, Nat.min_eq_left (by omega)]
    have e : count + (1 + (i : Int)) = count + 1 + (i : Int) := by omega
    have e2 : (r0 :: rs).getD (1 + i) [] = rs[i] := by
      rw [Nat.add_comm 1 i, List.getD_eq_getElem?_getD, List.getElem?_cons_succ, List.getElem?_eq_getElem hi]; rfl
    rw [e, e2, List.append_assoc]
theorem typedL_eq (r0 : List Nat) (rs : List (List Nat)) (count : Int) : typedL (r0 :: rs) count = r0 ++ typedR rs (count + 1) := by
  unfold typedL
  rw [List.length_cons, Nat.add_sub_cancel, typedF_eq _ _ _ _ (Nat.le_refl _), List.take_length]

theorem subEnds_plain : ∀ (r rest : List Nat), (∀ c ∈ r, c ≠ 13 ∧ c ≠ 10) → subEnds (r ++ rest) = r ++ subEnds rest
  | [], _, _ => rfl
  | c :: r, rest, h => by
    have hc := h c (.head _)
    have ih := subEnds_plain r rest fun d hd => h d (.tail _ hd)
    cases hr : r ++ rest with
    | nil =>
      rw [List.cons_append, hr]
      rw [hr] at ih
      have hn : ¬ (c = 13 ∨ c = 10) := fun q => q.elim hc.1 hc.2
      have e1 : subEnds [c] = [c] := by unfold subEnds; rw [if_neg hn]
      rw [e1, List.cons_append, ← ih]
      rfl
    | cons d q =>
      rw [List.cons_append, hr]
      rw [hr] at ih
      have e1 : subEnds (c :: d :: q) = c :: subEnds (d :: q) := by
        conv => lhs; unfold subEnds
        rw [if_neg (fun z => hc.1 z.1), if_neg (fun z => z.elim hc.1 hc.2)]
      rw [e1, ih]; rfl
theorem subEnds_end {k : Int} {y : List Nat} (hy : (endL k = [13] → y.head? ≠ some 10)) : subEnds (endL k ++ y) = [13, 10] ++ subEnds y := by
  unfold endL at *
  by_cases h0 : k.fmod 3 = 0
  · rw [if_pos h0]
    cases y with
    | nil => rfl
    | cons d q =>
      show subEnds (10 :: d :: q) = _
      conv => lhs; unfold subEnds
      rw [if_neg (by omega), if_pos (by omega)]; rfl
  · rw [if_neg h0] at hy ⊢
    by_cases h1 : k.fmod 3 = 1
    · rw [if_pos h1] at hy ⊢
      cases y with
      | nil => rfl
      | cons d q =>
        have hd : d ≠ 10 := fun e => hy rfl (by rw [e]; rfl)
        show subEnds (13 :: d :: q) = _
        conv => lhs; unfold subEnds
        rw [if_neg (fun z => hd z.2), if_pos (by omega)]; rfl
    · rw [if_neg h1]
      show subEnds (13 :: 10 :: y) = _
      conv => lhs; unfold subEnds
      rw [if_pos ⟨rfl, rfl⟩]; rfl
theorem fmod3_next {k : Int} (h : endL k = [13]) : endL (k + 1) = [13, 10] := by
  have h1 : k.fmod 3 = 1 := by
    unfold endL at h
    by_cases h0 : k.fmod 3 = 0
    · rw [if_pos h0] at h; simp at h
    · rw [if_neg h0] at h
      by_cases h1 : k.fmod 3 = 1
      · exact h1
      · rw [if_neg h1] at h; simp at h
  have e : (k + 1).fmod 3 = 2 := by
    rw [Int.fmod_eq_emod_of_nonneg _ (by decide)] at h1 ⊢
    omega
  unfold endL
  rw [e]; rfl
theorem subEnds_typedR : ∀ (rs : List (List Nat)) (k : Int), Free rs → subEnds (typedR rs k) = (rs.map fun r => [13, 10] ++ r).flatten
  | [], _, _ => rfl
  | r :: rs, k, h => by
    have ih := subEnds_typedR rs (k + 1) fun q hq => h q (.tail _ hq)
    rw [typedR, subEnds_end, subEnds_plain _ _ (h r (.head _)), ih]
    · simp
    · intro he hy
      cases r with
      | cons d q =>
        have := (h (d :: q) (.head _) d (.head _)).2
        exact this (Option.some.inj hy)
      | nil =>
        cases rs with
        | nil => cases hy
        | cons r' rs =>
          rw [List.nil_append, typedR, fmod3_next he] at hy
          exact absurd (Option.some.inj hy) (by decide)
theorem joinL_flat (sep : List Nat) : ∀ (r : List Nat) (rs : List (List Nat)), joinL sep (r :: rs) = r ++ (rs.map fun q => sep ++ q).flatten
  | r, [] => by simp [joinL]
  | r, q :: rs => by
    rw [joinL, joinL_flat sep q rs]
    simp
theorem subEnds_typed {rows : List (List Nat)} (count : Int) (h : Free rows) (hne : 0 < rows.length) : subEnds (typedL rows count) = joinL [13, 10] rows := by
  cases rows with
  | nil => simp at hne
  | cons r rs =>
    rw [typedL_eq, subEnds_plain _ _ (h r (.head _)), subEnds_typedR _ _ fun q hq => h q (.tail _ hq), joinL_flat]

/-- the dot ahead of a row that opens with one -/
def dotL : List Nat → List Nat
  | [] => []
  | c :: r => if c = 46 then 46 :: 46 :: r else c :: r
theorem subDots_in : ∀ (r rest : List Nat), (∀ c ∈ r, c ≠ 10) → subDots false (r ++ rest) = r ++ subDots false rest
  | [], _, _ => rfl
  | c :: r, rest, h => by
    have hc : (c == 10) = false := by simpa using h c (.head _)
    rw [List.cons_append, subDots, if_neg (fun z => Bool.false_ne_true z.1), hc, subDots_in r rest fun d hd => h d (.tail _ hd)]
    rfl
/-- an end of a line: its last sign is a feed, and no sign is a dot -/
def IsSep (sep : List Nat) : Prop := ∀ (b : Bool) (rest : List Nat), subDots b (sep ++ rest) = sep ++ subDots true rest
theorem sep_crlf : IsSep [13, 10] := fun b rest => by
  show subDots b (13 :: 10 :: rest) = _
  rw [subDots, if_neg (by omega), subDots, if_neg (by omega)]; rfl
theorem sep_lf : IsSep [10] := fun b rest => by
  show subDots b (10 :: rest) = _
  rw [subDots, if_neg (by omega)]; rfl
theorem subDots_row {sep r rest : List Nat} (hs : IsSep sep) (h : ∀ c ∈ r, c ≠ 10) : subDots true (r ++ (sep ++ rest)) = dotL r ++ (sep ++ subDots true rest) := by
  cases r with
  | nil => exact hs true rest
  | cons c r =>
    have hr : ∀ d ∈ r, d ≠ 10 := fun d hd => h d (.tail _ hd)
    rw [List.cons_append, subDots, dotL]
    by_cases hc : c = 46
    · rw [if_pos ⟨rfl, hc⟩, if_pos hc, subDots_in _ _ hr, hs]; rfl
    · have hc10 : (c == 10) = false := by simpa using h c (.head _)
      rw [if_neg (fun z => hc z.2), if_neg hc, hc10, subDots_in _ _ hr, hs]; rfl
theorem subDots_end {r : List Nat} (h : ∀ c ∈ r, c ≠ 10) : subDots true r = dotL r := by
  cases r with
  | nil => rfl
  | cons c r =>
    have hr : ∀ d ∈ r, d ≠ 10 := fun d hd => h d (.tail _ hd)
    have e : subDots false r = r := by have := subDots_in r [] hr; simpa [subDots] using this
    rw [subDots, dotL]
    by_cases hc : c = 46
    · rw [if_pos ⟨rfl, hc⟩, if_pos hc, e]
    · have hc10 : (c == 10) = false := by simpa using h c (.head _)
      rw [if_neg (fun z => hc z.2), if_neg hc, hc10, e]
theorem subDots_join {sep : List Nat} (hs : IsSep sep) : ∀ rows : List (List Nat), Free rows → subDots true (joinL sep rows) = joinL sep (rows.map dotL)
  | [], _ => rfl
  | [r], h => subDots_end fun c hc => (h r (.head _) c hc).2
  | r :: q :: rs, h => by
    rw [joinL, subDots_row hs fun c hc => (h r (.head _) c hc).2, subDots_join hs (q :: rs) fun z hz => h z (.tail _ hz)]
    rfl
theorem dot_free {rows : List (List Nat)} (h : Free rows) : Free (rows.map dotL) := by
  intro r hr c hc
  obtain ⟨q, hq, rfl⟩ := List.mem_map.mp hr
  cases q with
  | nil => cases hc
  | cons d q =>
    rw [dotL] at hc
    split at hc
    · rename_i h46
      rcases List.mem_cons.mp hc with rfl | hc
      · exact ⟨by decide, by decide⟩
      · rcases List.mem_cons.mp hc with rfl | hc
        · exact ⟨by decide, by decide⟩
        · exact h _ hq c (.tail _ hc)
    · exact h _ hq c hc
end Mine
end

section
namespace Mine
open PySem PySem.Builtin PySem.Builtin.Str PyProof.Rows
open PySem.StrLaws (At ChainG partsFrom occ_tight partsBetween_eq)

theorem at_iff {x y : Str} {k : Nat} : At x y x.length k ↔ k + y.length ≤ x.length ∧ (toL x).drop k = toL y ++ (toL x).drop (k + y.length) := by
  have hx : (toL x).length = x.length := by simp [toL, Str.length]
  have hy : (toL y).length = y.length := by simp [toL, Str.length]
  have hsub : subAt x y k = true ↔ ((toL x).drop k).take y.length = toL y := by
    rw [StrLaws.subAt_eq]
    exact beq_iff_eq
  constructor
  · rintro ⟨h1, h2⟩
    refine ⟨h1, ?_⟩
    have := hsub.mp h2
    rw [← this, ← List.drop_drop, List.take_append_drop]
  · rintro ⟨h1, h2⟩
    refine ⟨h1, hsub.mpr ?_⟩
    rw [h2, List.take_append_of_le_length (by omega), List.take_of_length_le (by omega)]

theorem strSub_toL (x : Str) (a b : Nat) : toL (strSub x a b) = ((toL x).drop a).take (b - a) := by
  show (x.cps.extract a b).toList = _
  rw [Array.toList_extract]
  simp [toL]

/-- the cut text's parts are the rows -/
theorem parts_rows {x : Str} {c : Nat} {y' : List Nat} : ∀ (rows : List (List Nat)) (a : Nat) (cuts : List Nat) (f : Nat), rows ≠ [] → (∀ r ∈ rows, c ∉ r) → a ≤ x.length → (toL x).drop a = joinL (c :: y') rows →
    ChainG x (ofL (c :: y')) x.length a cuts f → (∀ k, f ≤ k → ¬ At x (ofL (c :: y')) x.length k) → partsFrom x (ofL (c :: y')).length a cuts = rows.map ofL
  | [], _, _, _, h, _, _, _, _, _ => absurd rfl h
  | [r], a, cuts, f, _, hc, ha, hd, hG, hn => by
    have hx : (toL x).length = x.length := by simp [toL, Str.length]
    have hno : ∀ k, a ≤ k → ¬ At x (ofL (c :: y')) x.length k := by
      intro k hk hA
      obtain ⟨h1, h2⟩ := at_iff.mp hA
      have h3 : (toL x).drop k = r.drop (k - a) := by
        have : (toL x).drop k = ((toL x).drop a).drop (k - a) := by rw [List.drop_drop]; congr 1; omega
        rw [this, hd]; rfl
      rw [h3, toL_ofL] at h2
      have : c ∈ r.drop (k - a) := by rw [h2]; simp
      exact hc r (.head _) (List.mem_of_mem_drop this)
    cases cuts with
    | nil =>
      show [strSub x a x.length] = [ofL r]
      congr 1
      apply toL_inj
      rw [strSub_toL, toL_ofL, hd]
      show (joinL _ [r]).take _ = r
      have : r.length = x.length - a := by
        have := congrArg List.length hd
        rw [List.length_drop, hx] at this
        exact this.symm
      rw [joinL, List.take_of_length_le (by omega)]
    | cons d cuts => exact absurd hG.2.1 (hno d hG.1)
  | r :: q :: rs, a, cuts, f, _, hc, ha, hd, hG, hn => by
    have hx : (toL x).length = x.length := by simp [toL, Str.length]
    have hy : (ofL (c :: y')).length = y'.length + 1 := by rw [ofL_length]; rfl
    rw [joinL] at hd
    have hlen : r.length + (y'.length + 1) ≤ x.length - a := by
      have := congrArg List.length hd
      rw [List.length_drop, hx, List.length_append, List.length_append, List.length_cons] at this
      omega
    have hdk : ∀ j, j ≤ r.length → (toL x).drop (a + j) = r.drop j ++ ((c :: y') ++ joinL (c :: y') (q :: rs)) := by
      intro j hj
      rw [← List.drop_drop, hd, List.drop_append_of_le_length hj]
    have hno : ∀ k, a ≤ k → k < a + r.length → ¬ At x (ofL (c :: y')) x.length k := by
      intro k hk hk2 hA
      obtain ⟨h1, h2⟩ := at_iff.mp hA
      have h3 := hdk (k - a) (by omega)
      rw [show a + (k - a) = k by omega, h2, toL_ofL] at h3
      cases hr : r.drop (k - a) with
      | nil =>
        have := congrArg List.length hr
        rw [List.length_drop] at this
        simp at this
        omega
      | cons d r' =>
        rw [hr] at h3
        have e := (List.cons.inj h3).1
        have : c ∈ r.drop (k - a) := by rw [hr, e]; exact .head _
        exact hc r (.head _) (List.mem_of_mem_drop this)
    have hyes : At x (ofL (c :: y')) x.length (a + r.length) := by
      refine at_iff.mpr ⟨by rw [hy]; omega, ?_⟩
      have h1 := hdk r.length (Nat.le_refl _)
      rw [List.drop_length, List.nil_append] at h1
      have h2 : (toL x).drop (a + r.length + (ofL (c :: y')).length) = joinL (c :: y') (q :: rs) := by
        rw [← List.drop_drop, h1, hy]
        show ((c :: y') ++ _).drop ((c :: y').length) = _
        rw [List.drop_left]
      rw [h1, h2, toL_ofL]
    cases cuts with
    | nil =>
      have e : f = a := hG
      exact absurd hyes (hn _ (by omega))
    | cons d cuts =>
      obtain ⟨g1, g2, g3, g4⟩ := hG
      have hd1 : a + r.length ≤ d := by
        apply Nat.le_of_not_lt
        intro h
        exact hno d g1 h g2
      have hd2 : d ≤ a + r.length := by
        apply Nat.le_of_not_lt
        intro h
        exact g3 _ (by omega) h hyes
      obtain rfl : d = a + r.length := by omega
      have h1 := hdk r.length (Nat.le_refl _)
      rw [List.drop_length, List.nil_append] at h1
      have h2 : (toL x).drop (a + r.length + (ofL (c :: y')).length) = joinL (c :: y') (q :: rs) := by
        rw [← List.drop_drop, h1, hy]
        show ((c :: y') ++ _).drop ((c :: y').length) = _
        rw [List.drop_left]
      show strSub x a (a + r.length) :: partsFrom x _ (a + r.length + (ofL (c :: y')).length) cuts = ofL r :: (q :: rs).map ofL
      rw [parts_rows (q :: rs) _ cuts f (by simp) (fun z hz => hc z (.tail _ hz)) (by rw [hy]; omega) h2 g4 hn]
      congr 1
      apply toL_inj
      rw [strSub_toL, toL_ofL, show a + r.length - a = r.length by omega, hd, List.take_append_of_le_length (Nat.le_refl _), List.take_length]

theorem kind_one {l : List Nat} (h : ∀ c ∈ l, c < 256) : Builtin.Str.strKind (ofL l) = 1 := by
  unfold Builtin.Str.strKind
  rw [if_pos]
  rw [← Array.all_toList, List.all_eq_true]
  intro c hc
  exact decide_eq_true (h c hc)
theorem kind_pos (x : Str) : 1 ≤ Builtin.Str.strKind x := by unfold Builtin.Str.strKind; (repeat' split) <;> omega

theorem split_join_rows {c : Nat} {y' : List Nat} {rows : List (List Nat)} (hne : rows ≠ []) (hc : ∀ r ∈ rows, c ∉ r) (hk : ∀ d ∈ c :: y', d < 256) :
    Txt.split (ofL (joinL (c :: y') rows)) (ofL (c :: y')) = rows.map ofL := by
  obtain ⟨f, hG, hn⟩ := occ_tight (ofL (joinL (c :: y') rows)) (ofL (c :: y')) (by rw [ofL_length]; simp)
  have key := parts_rows (x := ofL (joinL (c :: y') rows)) rows 0 _ f hne hc (Nat.zero_le _) (by rw [toL_ofL, List.drop_zero]) hG hn
  have e0 : ∀ x : Str, strSub x 0 x.length = x := StrLaws.sub_whole
  unfold Txt.split
  split
  · rename_i h
    rw [Bool.or_eq_true, decide_eq_true_eq, decide_eq_true_eq, kind_one hk] at h
    have hkp := kind_pos (ofL (joinL (c :: y') rows))
    have hlt : (ofL (joinL (c :: y') rows)).length < (ofL (c :: y')).length := h.resolve_right (by omega)
    cases hcuts : occurrences (ofL (joinL (c :: y') rows)) (ofL (c :: y')) 0 (ofL (joinL (c :: y') rows)).length ((ofL (joinL (c :: y') rows)).length + 1) with
    | nil =>
      rw [hcuts] at key
      rw [← key]
      show [_] = [strSub _ 0 _]
      rw [e0]
    | cons d cuts =>
      rw [hcuts] at hG
      have := hG.2.1.1
      omega
  · split
    · rename_i h
      rw [List.isEmpty_iff] at h
      rw [h] at key
      rw [← key]
      show [_] = [strSub _ 0 _]
      rw [e0]
    · rw [partsBetween_eq]
      exact key
end Mine
namespace Mine
open PySem PyProof.Rows
theorem typedL_le {rows : List (List Nat)} (h : Small rows) (count : Int) : (typedL rows count).length ≤ 5000 := by
  have h1 := typedF_le h count (rows.length - 1)
  have h2 := h.len
  unfold typedL
  omega
theorem joinSmall {sep : List Nat} {rows : List (List Nat)} (h : Small rows) (hs : sep.length ≤ 2) : (joinL sep rows).length ≤ 4040 := by
  have h1 := joinL_le (sep := sep) rows h.each
  have h2 := h.len
  have h3 : rows.length * (200 + sep.length) ≤ 20 * 202 := Nat.mul_le_mul h2 (by omega)
  omega
theorem joinL_mem {sep : List Nat} {c : Nat} : ∀ rows : List (List Nat), c ∈ joinL sep rows → c ∈ sep ∨ ∃ r ∈ rows, c ∈ r
  | [], h => by cases h
  | [x], h => .inr ⟨x, .head _, h⟩
  | x :: y :: r, h => by
    rw [joinL] at h
    rcases List.mem_append.mp h with h | h
    · exact .inr ⟨x, .head _, h⟩
    · rcases List.mem_append.mp h with h | h
      · exact .inl h
      · rcases joinL_mem (y :: r) h with h | ⟨z, hz, h⟩
        · exact .inl h
        · exact .inr ⟨z, .tail _ hz, h⟩
/-- rows of the texts' signs -/
def OkRows (rows : List (List Nat)) : Prop := ∀ r ∈ rows, ∀ c ∈ r, Co.okC c = true
theorem joinL_ok {sep : List Nat} {rows : List (List Nat)} (h : OkRows rows) (hs : ∀ c ∈ sep, Co.okC c = true) : ∀ c ∈ joinL sep rows, Co.okC c = true := by
  intro c hc
  rcases joinL_mem rows hc with h1 | ⟨r, hr, h1⟩
  · exact hs c h1
  · exact h r hr c h1
theorem dot_ok {rows : List (List Nat)} (h : OkRows rows) : OkRows (rows.map dotL) := by
  intro r hr c hc
  obtain ⟨q, hq, rfl⟩ := List.mem_map.mp hr
  cases q with
  | nil => cases hc
  | cons d q =>
    rw [dotL] at hc
    split at hc
    · rename_i h46
      rcases List.mem_cons.mp hc with rfl | hc
      · rfl
      · rcases List.mem_cons.mp hc with rfl | hc
        · rfl
        · exact h _ hq c (.tail _ hc)
    · exact h _ hq c hc
theorem joinL_pos {sep : List Nat} {r : List Nat} {rs : List (List Nat)} (h : 0 < r.length) : 0 < (joinL sep (r :: rs)).length := by
  rw [joinL_flat, List.length_append]; omega
theorem crlf_ok : ∀ c ∈ ([13, 10] : List Nat), Co.okC c = true := by decide
theorem lf_ok : ∀ c ∈ ([10] : List Nat), Co.okC c = true := by decide
theorem free13 {rows : List (List Nat)} (h : Free rows) : ∀ r ∈ rows, 13 ∉ r := fun r hr hc => (h r hr 13 hc).1 rfl
theorem free10 {rows : List (List Nat)} (h : Free rows) : ∀ r ∈ rows, 10 ∉ r := fun r hr hc => (h r hr 10 hc).2 rfl
end Mine
namespace Mine
open PySem PyProof.Rows
theorem toNat_inj : ∀ {a b : List UInt8}, a.map (·.toNat) = b.map (·.toNat) → a = b
  | [], [], _ => rfl
  | [], _ :: _, h => by cases h
  | _ :: _, [], h => by cases h
  | x :: a, y :: b, h => by
    rw [List.map_cons, List.map_cons] at h
    obtain ⟨h1, h2⟩ := List.cons.inj h
    rw [UInt8.toNat_inj.mp h1, toNat_inj h2]
theorem octets_dots {b : Array UInt8} {l : List Nat} (hl : ∀ c ∈ l, Co.okC c = true) (h : b.toList.map (·.toNat) = subDots true ((Co.enc l).toArray.toList.map (·.toNat))) : b.toList = Co.enc (subDots true l) := by
  apply toNat_inj
  rw [h]
  exact Co.subDots_enc l true hl
end Mine
namespace Mine
theorem dot_pos {r : List Nat} (h : 0 < r.length) : 0 < (dotL r).length := by
  cases r with
  | nil => simp at h
  | cons c r => rw [dotL]; split <;> simp
end Mine
end

section
open PySem PySem.W PyProof.Rows PySem.Calls
set_option maxHeartbeats 4000000
namespace Mine

local macro_rules | `(tactic| walk_at "getMethod ref") => `(tactic| (k_here; (with_reducible show wpAny _ _ (getMethod (Value.ref _) (PySem.Str.ofString "sub") _) _ _ _); k_dflt (first | refine getMethod_pat (pat43 (by k_in)) ?_ | refine getMethod_pat (pat53 (by k_in)) ?_ | refine getMethod_pat (pat48 (by k_in)) ?_)))
local macro_rules | `(tactic| walk_at "mine kept") => `(tactic| ((with_reducible rename Mine.Keeps _ _ => kk0); (with_reducible rename Fr _ _ _ _ => kF0); (with_reducible rename News _ _ _ _ => kN0); k_dflt ((have F' := Fr.keeps kF0 kk0); (have N' := News.grown kN0 kk0)); clear kk0; (try k_sweep)))

local macro_rules | `(tactic| walk_at "exec For") => `(tactic| (k_here; refine stop ?_))
local macro_rules | `(tactic| walk_at "exec For Name") => `(tactic| (k_here; refine stop ?_))
local macro_rules | `(tactic| walk_at "exec For Name Call cons nil") => `(tactic| (k_here; refine stop ?_))
local macro_rules | `(tactic| walk_at "exec For Tuple") => `(tactic| (k_here; refine stop ?_))
local macro_rules | `(tactic| walk_at "pyIter") => `(tactic| (k_here; refine stop ?_))
local macro_rules | `(tactic| walk_at "pyIter str") => `(tactic| (k_here; refine stop ?_))
local macro_rules | `(tactic| walk_at "pyIter ref") => `(tactic| (k_here; refine stop ?_))
local macro_rules | `(tactic| walk_at "eval ListComp") => `(tactic| (k_here; refine stop ?_))
local macro_rules | `(tactic| walk_at "call ref") => `(tactic| (k_here; plain_pass; refine stop ?_))

local macro_rules | `(tactic| walk_at "call type:enumerate") => `(tactic| (k_here; refine stop ?_))
local macro_rules | `(tactic| walk_at "exec For Tuple Call cons nil") => `(tactic| (k_here; refine stop ?_))
local macro_rules | `(tactic| walk_at "exec For Tuple Call") => `(tactic| (k_here; refine stop ?_))

local macro_rules | `(tactic| walk_at "setItem ref int") => `(tactic| (k_here; refine stop ?_))

local macro_rules | `(tactic| walk_at "call builtin:str.encode") => `(tactic| (k_here; refine stop ?_))
local macro_rules | `(tactic| walk_at "call builtin:bytes.decode") => `(tactic| (k_here; refine stop ?_))
local macro_rules | `(tactic| walk_at "call builtin:str.join") => `(tactic| (k_here; refine stop ?_))
local macro_rules | `(tactic| walk_at "getMethod str") => `(tactic| (k_here; k_dflt (with_reducible refine Co.getMethod_enc ?_)))

local macro_rules | `(tactic| walk_at "mine side") => `(tactic| ((case X => exact Rdy.X (by assumption)); (case hl => exact Rdy.nolimit (by assumption)); (case ho => k_is); (case hcd => k_is); (case hr => omega); (case hb => exact BindsTo.of_eq rfl); (case c5 => decide); (case hloc => exact locs rfl); (case c2 => exact rfl); (case c3 => exact rfl); (case c4 => exact rfl)))
local macro_rules | `(tactic| walk_at "mine go") => `(tactic| repeat' (first | (k_unfold; (try dsimp only)) | (walk1; (try dsimp only)) | fail "no step"))
section
variable {prog : Program} {w : World} {A : Around} {s : Shared} {E : Value → Shared → Prop} {Q : Value → Shared → Prop}

local macro_rules | `(tactic| walk_at "mine ready") => `(tactic| exact ⟨by k_in, _, _, _, Top.keeps (by k_asm) (Fr.keep (by k_asm))⟩)
local macro_rules | `(tactic| walk_at "mine depth") => `(tactic| (simp only [depth_deeper]; omega))
local macro_rules | `(tactic| walk_at "mine list") => `(tactic| exact Heap.IsList.at (by assumption) (fun o e => Fr.keep (by assumption) _ _ e))

local macro_rules | `(tactic| walk_at "call ref") => `(tactic| (k_here; k_dflt ((with_reducible show wpAny _ _ (call (Value.ref 107) _) _ _ _); (refine' typed_spec ?r ?d ?hh ?a ?b ?c ?e ?_); (case r => walk_at "mine ready"); (case d => walk_at "mine depth"); (case hh => assumption); (case a => walk_at "mine list"); (case b => assumption); (case c => assumption); (case e => assumption); intro t' h' tk' kk'; walk_at "mine kept")))
local macro_rules | `(tactic| walk_at "call ref") => `(tactic| (k_here; k_dflt ((with_reducible show wpAny _ _ (call (Value.ref 60) _) _ _ _); (refine' quotedata_spec ?r ?d ?a ?_); (case r => walk_at "mine ready"); (case d => walk_at "mine depth"); (case a => assumption); intro t' h' tk' kk'; walk_at "mine kept")))
local macro_rules | `(tactic| walk_at "call ref") => `(tactic| (k_here; k_dflt ((with_reducible show wpAny _ _ (call (Value.ref 74) _) _ _ _); (refine' fix_eols_spec ?r ?d ?a ?_); (case r => walk_at "mine ready"); (case d => walk_at "mine depth"); (case a => assumption); intro t' h' tk' kk'; walk_at "mine kept")))
local macro_rules | `(tactic| walk_at "call ref") => `(tactic| (k_here; k_dflt ((with_reducible show wpAny _ _ (call (Value.ref 67) _) _ _ _); (refine' quote_periods_spec ?r ?d ?a ?_); (case r => walk_at "mine ready"); (case d => walk_at "mine depth"); (case a => assumption); intro b' t' h' tk' hb' kk'; walk_at "mine kept")))
theorem sent_spec {l : Addr} {u : Tok} {count : Int} {items : Array Value} {r : List Nat} {rs rows : List (List Nat)} (R : Rdy w s.heap) (hdp : A.depth + 40 < recursionLimit) (hh : A.handled = none) (hlist : s.heap.IsList l items) (hstrs : StrsAre items.toList (rows.map ofL)) (hsm : Small rows) (hrows : rows = r :: rs) (hpos : 0 < r.length) (hfree : Free rows) (hok : OkRows rows)
   (hQ : ∀ D vs k h' tk', Keeps s.heap h' → s.heap.get? D = none → h'.get? D = some (lobj vs k) → StrsAre vs ((rows.map dotL).map ofL) → Q (.ref D) { s with heap := h', toks := tk' }) :
   wpAny (model prog w) A (call (.ref 114) [.ref l, .int count u]) Q E s := by
  k_dflt (refine' enter (K := Mine.hd.heap_39 _) (binds := [(Str.ofString "rows", .ref l), (Str.ofString "count", .int count u)]) ?X ?hl ?ho ?hcd ?hr ?hb ?hloc ?_ ?c2 ?c3 ?c4 ?c5)
  walk_at "mine side"
  obtain ⟨X, T⟩ := R
  obtain ⟨mean, mg, mb, T⟩ := T
  intro h₁ tk F
  have N : News s.heap s.heap.objs.size h₁ [] := News.nil
  generalize hQ' : (fun (fl : Flow) (s' : Shared) => Q (match fl with | .ret v => v | _ => .none) s') = Q'
  have hne : 0 < rows.length := by rw [hrows]; exact Nat.succ_pos _
  have hnn : rows.map dotL ≠ [] := by rw [hrows]; exact List.cons_ne_nil _ _
  have htl : (typedL rows count).length ≤ 20000 := by have := typedL_le hsm count; omega
  have e1 := subEnds_typed count hfree hne
  have e2 := subDots_join sep_crlf rows hfree
  have e3 := subDots_join sep_lf rows hfree
  have hj1 := joinSmall (sep := [13, 10]) hsm (Nat.le_refl _)
  have hj2 := joinSmall (sep := [10]) hsm (by decide)
  have hd1 := subDots_le (joinL [13, 10] rows) true
  have hd2 := subDots_le (joinL [10] rows) true
  have hsp1 := split_join_rows hnn (free13 (dot_free hfree)) (by decide : ∀ d ∈ ([13, 10] : List Nat), d < 256)
  have hsp2 := split_join_rows hnn (free10 (dot_free hfree)) (by decide : ∀ d ∈ ([10] : List Nat), d < 256)
  have hx1 : (ofL (subDots true (subEnds (typedL rows count)))).length ≤ 100000 := by rw [ofL_length, e1]; omega
  walk_at "mine go"
  · with_reducible rename Fr _ _ _ _ => F1
    with_reducible rename News _ _ _ _ => N1
    with_reducible rename (List.map _ _ = Txt.split _ _) => hl
    with_reducible rename StrsAre (strValues _) _ => hst
    rw [hl, e1, e2, crlf_is, hsp1] at hst
    subst hQ'
    exact hQ _ _ 0 _ _ F1.keep (N1 _ (.head _)).2.2 (N1 _ (.head _)).1 hst
  · rw [e1]
    have hp1 : 0 < (joinL [13, 10] rows).length := by rw [hrows]; exact joinL_pos hpos
    have hok1 := joinL_ok (sep := [13, 10]) hok crlf_ok
    have hb1 : (Co.enc (joinL [13, 10] rows)).toArray.toList.length ≤ 100000 := by
      have := (Co.enc_len _ hok1).2
      show (Co.enc (joinL [13, 10] rows)).length ≤ _
      omega
    refine Co.encode_wp hp1 (by omega) hok1 ?_
    intro t' tk'
    walk_at "mine go"
    with_reducible rename (List.map _ _ = subDots true _) => hb
    have hb2 := octets_dots hok1 hb
    rw [e2] at hb2
    have hok2 := joinL_ok (sep := [13, 10]) (dot_ok hok) crlf_ok
    rw [e2] at hd1
    refine Co.decode_wp hb2 ?_ (by omega) hok2 ?_
    · rw [hrows, List.map_cons]; exact joinL_pos (dot_pos hpos)
    have hx2 : (ofL (joinL [13, 10] (rows.map dotL))).length ≤ 100000 := by rw [ofL_length]; omega
    intro t' tk'
    walk_at "mine go"
    with_reducible rename Fr _ _ _ _ => F1
    with_reducible rename News _ _ _ _ => N1
    with_reducible rename (List.map _ _ = Txt.split _ _) => hl
    with_reducible rename StrsAre (strValues _) _ => hst
    rw [hl, crlf_is, hsp1] at hst
    subst hQ'
    exact hQ _ _ 0 _ _ F1.keep (N1 _ (.head _)).2.2 (N1 _ (.head _)).1 hst
  · rw [nl_is]
    have hp1 : 0 < (joinL [10] rows).length := by rw [hrows]; exact joinL_pos hpos
    have hok1 := joinL_ok (sep := [10]) hok lf_ok
    have hb1 : (Co.enc (joinL [10] rows)).toArray.toList.length ≤ 100000 := by
      have := (Co.enc_len _ hok1).2
      show (Co.enc (joinL [10] rows)).length ≤ _
      omega
    with_reducible rename Fr _ _ _ _ => F0
    refine join_list (items := items) (hlist.at fun o e => F0.keep _ _ e) hstrs (join_fits (n := 20) (B := 200) hsm.len hsm.each (by decide)) ?_
    rw [txt_join]
    intro t' tk'
    walk_at "mine go"
    refine Co.encode_wp hp1 (by omega) hok1 ?_
    intro t' tk'
    walk_at "mine go"
    with_reducible rename (List.map _ _ = subDots true _) => hb
    have hb2 := octets_dots hok1 hb
    rw [e3] at hb2
    have hok2 := joinL_ok (sep := [10]) (dot_ok hok) lf_ok
    rw [e3] at hd2
    refine Co.decode_wp hb2 ?_ (by omega) hok2 ?_
    · rw [hrows, List.map_cons]; exact joinL_pos (dot_pos hpos)
    have hx2 : (ofL (joinL [10] (rows.map dotL))).length ≤ 100000 := by rw [ofL_length]; omega
    intro t' tk'
    walk_at "mine go"
    with_reducible rename Fr _ _ _ _ => F1
    with_reducible rename News _ _ _ _ => N1
    with_reducible rename (List.map _ _ = Txt.split _ _) => hl
    with_reducible rename StrsAre (strValues _) _ => hst
    rw [hl, hsp2] at hst
    subst hQ'
    exact hQ _ _ 0 _ _ F1.keep (N1 _ (.head _)).2.2 (N1 _ (.head _)).1 hst
end
end Mine
end

section
open PySem PySem.W PyProof.Rows PySem.Calls
namespace Mine

inductive All2 {α β : Type} (F : α → β → Prop) : List α → List β → Prop
  | nil : All2 F [] []
  | cons {a b l₁ l₂} : F a b → All2 F l₁ l₂ → All2 F (a :: l₁) (b :: l₂)
theorem All2.snoc {α β : Type} {F : α → β → Prop} {a : α} {b : β} : ∀ {l₁ : List α} {l₂ : List β}, All2 F l₁ l₂ → F a b → All2 F (l₁ ++ [a]) (l₂ ++ [b])
  | _, _, .nil, h => .cons h .nil
  | _, _, .cons h₁ t, h => .cons h₁ (All2.snoc t h)
theorem All2.length {α β : Type} {F : α → β → Prop} : ∀ {l₁ : List α} {l₂ : List β}, All2 F l₁ l₂ → l₁.length = l₂.length
  | _, _, .nil => rfl
  | _, _, .cons _ t => by simp [All2.length t]
theorem All2.get {α β : Type} {F : α → β → Prop} : ∀ {l₁ : List α} {l₂ : List β}, All2 F l₁ l₂ → ∀ {i : Nat} {b : β}, l₂[i]? = some b → ∃ a, l₁[i]? = some a ∧ F a b
  | _, _, .nil, i, b, h => by simp at h
  | _, _, .cons h₁ t, 0, b, h => by simp at h; exact ⟨_, rfl, h ▸ h₁⟩
  | _, _, .cons h₁ t, i + 1, b, h => by simpa using All2.get t (by simpa using h)
theorem All2.mono {α β : Type} {F G : α → β → Prop} (hf : ∀ a b, F a b → G a b) : ∀ {l₁ : List α} {l₂ : List β}, All2 F l₁ l₂ → All2 G l₁ l₂
  | _, _, .nil => .nil
  | _, _, .cons h₁ t => .cons (hf _ _ h₁) (All2.mono hf t)

def SV (l : List Nat) (v : Value) : Prop := ∃ t, v = .str (ofL l) t
def IV (i : Int) (v : Value) : Prop := ∃ t, v = .int i t
theorem strs_all2 {vs : List Value} : ∀ {rows : List (List Nat)}, All2 SV rows vs → StrsAre vs (rows.map ofL) := by
  intro rows h
  induction h with
  | nil => exact .nil
  | cons h _ ih => obtain ⟨t, rfl⟩ := h; exact .cons _ _ ih
theorem all2_strs : ∀ {rows : List (List Nat)} {vs : List Value}, StrsAre vs (rows.map ofL) → All2 SV rows vs
  | [], _, h => by cases h; exact .nil
  | r :: rows, _, h => by
    rw [List.map_cons] at h
    cases h with
    | cons y t h => exact .cons ⟨t, rfl⟩ (all2_strs h)

section
variable {prog : Program} {w : World} {A : Around} {E : Value → Shared → Prop} {s : Shared} {env : Env}

theorem codeAny_compLoop_own {elt target iter : PySem.Expr} {ifs : List PySem.Expr} {scope : Scope} {pos : Pos} {it acc : Value} {env : Env} {R : Result → Shared → Prop} (I : Nat → Shared → Prop)
    (turn : ∀ n s, I n s → wpAny (model prog w) A (pyNext it) (fun r s₁ => match r with
      | none => R (.ok .next) s₁
      | some v => wpAny (model prog w) A (letOwnedTupleGo target it v) (fun _ s₀ => wpAny (model prog w) A (assign target env v) (fun _ s₂ =>
          wpAny (model prog w) A (forIn ifs true fun c r => if r = true then do let ok ← isTrue c env (eval c env); pure (ForInStep.yield ok) else pure (ForInStep.yield r)) (fun ok s₃ =>
            if ok = true then wpAny (model prog w) A (eval elt env) (fun x s₄ =>
              wpAny (model prog w) A (call (.builtin "list.append") [acc, x]) (fun _ s₅ => ∃ m, m < n ∧ I m s₅) (notedBy (model prog w) A env fun e s' => R (.error e) s') s₄) (notedBy (model prog w) A env fun e s' => R (.error e) s') s₃
            else ∃ m, m < n ∧ I m s₃) (notedBy (model prog w) A env fun e s' => R (.error e) s') s₂) (notedBy (model prog w) A env fun e s' => R (.error e) s') s₀) (notedBy (model prog w) A env fun e s' => R (.error e) s') s₁) (notedBy (model prog w) A env fun e s' => R (.error e) s') s)
    (n : Nat) (h : I n s) :
    codeAny (model prog w) A (.compLoop (.ListComp elt [⟨target, iter, ifs, 0⟩] scope pos) 0 it acc env) R s := by
  refine codeAny_loop rfl I (fun n s hI => ?_) n h
  show wpAny _ A ((compTurn (.ListComp elt [⟨target, iter, ifs, 0⟩] scope pos) 0 it acc env).onRaise (fun x => do noteFrame x env; theTreesLotGoes x)) _ _ s
  refine wpAny_noted ?_
  rw [compTurn_list]
  refine wpAny_bind (wpAny_standAt (wpAny_bind (wpAny_mono (turn n s hI) (fun r s₁ h₁ => ?_) fun _ _ h' => h')))
  cases r with
  | none => exact wpAny_pure h₁
  | some v =>
    refine wpAny_bind (wpAny_mono h₁ (fun _ s₀ h₀ => ?_) fun _ _ h' => h')
    refine wpAny_bind (wpAny_mono h₀ (fun _ s₂ h₂ => wpAny_bind (wpAny_mono h₂ (fun ok s₃ h₃ => ?_) fun _ _ h' => h')) fun _ _ h' => h')
    cases ok with
    | false => exact wpAny_pure ⟨rfl, h₃⟩
    | true =>
      exact wpAny_bind (wpAny_bind (wpAny_mono h₃ (fun x s₄ h₄ => wpAny_bind (wpAny_mono h₄ (fun _ s₅ h₅ => wpAny_pure (wpAny_pure ⟨rfl, h₅⟩)) fun _ _ h' => h')) fun _ _ h' => h'))

/-- what follows the source's evaluation -/
def CompAt (prog : Program) (w : World) (A : Around) (E : Value → Shared → Prop) (use : Option (Value → Sem Unit)) (env : Env) (elt target iter : PySem.Expr) (ifs : List PySem.Expr) (scope : Scope) (cl : List (Str × Addr)) (pos : Pos) (Q : Value → Shared → Prop) (xv : Value) (s₁ : Shared) : Prop :=
  wpAny (model prog w) A (pyIter xv) (fun it s₂ => wpAny (model prog w) A (newList []) (fun acc s₃ =>
      wpAny (model prog w) A (newFunctionEnv scope env.globals cl [] env.qual none .none (some env)) (fun cenv s₄ =>
        codeAny (model prog w) A (.compStart (.ListComp elt [⟨target, iter, ifs, 0⟩] scope pos) 0 it acc { cenv with scope := relabel scope env }) (compPost (model prog w) A E use Q acc cenv.locals) s₄) E s₃) E s₂) E s₁

/-- what is asked of the end of the block: the list is there -/
def CompDone (prog : Program) (w : World) (A : Around) (E : Value → Shared → Prop) (use : Option (Value → Sem Unit)) (Q : Value → Shared → Prop) (s : Shared) (Ok : List Value → Prop) : Prop :=
  ∀ D C ys k h' tk m', s.heap.get? D = none → s.heap.get? C = none → D ≠ C → h'.Ns C m' → h'.get? D = some (lobj ys k) → Ok ys → Mine.Keeps s.heap h' →
    compPost (model prog w) A E use Q (.ref D) C (.ok .next) { s with heap := h', toks := tk }
theorem compDone_val {Q : Value → Shared → Prop} {Ok : List Value → Prop}
    (hQ : ∀ D ys k h' tk, s.heap.get? D = none → h'.get? D = some (lobj ys k) → Ok ys → Mine.Keeps s.heap h' → Q (.ref D) { s with heap := h', toks := tk }) : CompDone prog w A E none Q s Ok := by
  intro D C ys k h' tk m' hD hC hDC hn hg hF hk
  refine ⟨m', hn, fun h'' hs => hQ D ys k h'' tk hD ((hs.2 _ hDC).trans hg) hF fun b o e => ?_⟩
  exact (hs.2 _ (by rintro rfl; rw [hC] at e; cases e)).trans (hk b o e)
theorem compDone_fr {Q : Value → Shared → Prop} {Ok : List Value → Prop} {base : Heap} {L : Addr} {m : Str → Option Value} {news : List (Addr × Obj)} (F : Fr base L s.heap m) (N : News base L s.heap news)
    (hQ : ∀ D ys k h' tk, base.get? D = none → Mine.Keeps s.heap h' → Ok ys → Fr base L h' m → News base L h' ((D, lobj ys k) :: news) → Q (.ref D) { s with heap := h', toks := tk }) : CompDone prog w A E none Q s Ok := by
  refine compDone_val fun D ys k h' tk hD hg hF hk => ?_
  have hD₀ : base.get? D = none := by
    cases e : base.get? D with
    | none => rfl
    | some o => rw [F.keep _ _ e] at hD; cases hD
  refine hQ D ys k h' tk hD₀ hk hF (F.keeps hk) fun p hp => ?_
  rcases List.mem_cons.mp hp with rfl | hp
  · exact ⟨hg, (fun (e : D = L) => by obtain ⟨o, _, _, ho, _⟩ := F.ns; rw [← e, hD] at ho; cases ho), hD₀⟩
  · exact N.grown hk p hp
theorem compDone_let {Q : Flow → Shared → Prop} {Ok : List Value → Prop} {base : Heap} {m : Str → Option Value} {news : List (Addr × Obj)} {y : Str} {py : Pos} (F : Fr base env.locals s.heap m) (N : News base env.locals s.heap news)
    (hy : env.kindOf y = some .local) (hp : (env.scope.kind == .class || (env.scope.kind == .module && env.locals != env.globals)) = false)
    (hQ : ∀ D ys k h' tk, base.get? D = none → Ok ys → Fr base env.locals h' (fun z => if z = y then some (.ref D) else m z) → News base env.locals h' ((D, lobj ys k) :: news) → Q .next { s with heap := h', toks := tk }) :
    CompDone prog w A E (some (assign (.Name y py) env)) (fun _ s' => Q .next s') s Ok := by
  intro D C ys k h' tk m' hD hC hDC hnC hg hF hk
  have hD₀ : base.get? D = none := by
    cases e : base.get? D with
    | none => rfl
    | some o => rw [F.keep _ _ e] at hD; cases hD
  have hn := F.ns
  have hLC : env.locals ≠ C := by rintro rfl; obtain ⟨o, _, _, ho, _⟩ := hn; rw [hC] at ho; cases ho
  have hLD : env.locals ≠ D := by rintro rfl; obtain ⟨o, _, _, ho, _⟩ := hn; rw [hD] at ho; cases ho
  have F' := F.keeps hk
  have N' := N.grown hk
  show wpAny _ A (assign (.Name y py) env (.ref D)) _ _ _
  refine wpAny_assign_Name (wpAny_storeName_local hy F'.ns (fun h₂ hn₂ hs₂ => ?_) hp)
  refine ⟨m', hnC.sameBut hs₂ (Ne.symm hLC), fun h₃ hs₃ => ?_⟩
  have hb : ∀ b o, b ≠ env.locals → b ≠ C → h'.get? b = some o → h₃.get? b = some o := fun b o h1 h2 e => (hs₃.2 b h2).trans ((hs₂.2 b h1).trans e)
  have hbC : ∀ b o, s.heap.get? b = some o → b ≠ C := by rintro b o e rfl; rw [hC] at e; cases e
  refine hQ D ys k h₃ _ hD₀ hF ⟨hn₂.sameBut hs₃ hLC, fun b o e => ?_, F.above⟩ fun p hp => ?_
  · have hbL : b ≠ env.locals := Nat.ne_of_lt (Nat.lt_of_lt_of_le (Heap.lt_size e) F.above)
    exact hb b o hbL (hbC b o (F.keep b o e)) (F'.keep b o e)
  · rcases List.mem_cons.mp hp with rfl | hp
    · exact ⟨hb _ _ (Ne.symm hLD) hDC hg, Ne.symm hLD, hD₀⟩
    · obtain ⟨h1, h2, h3⟩ := N' p hp
      exact ⟨hb _ _ h2 (hbC _ _ (N p hp).1) h1, h2, h3⟩

theorem comp_let {elt target iter : PySem.Expr} {ifs : List PySem.Expr} {scope : Scope} {pos spos : Pos} {y : Str} {py : Pos} {Q : Flow → Shared → Prop} (cl : List (Str × Addr))
    (hsw : swapsWith (.ListComp elt [⟨target, iter, ifs, 0⟩] scope pos) (some (.Name y py)) spos.line env = pure true)
    (hs : ∀ x, foldedSetIterable iter env x = pure x) (hclos : closureFor scope env = pure cl)
    (hkind : scope.kind = .function) (hnames : ∀ x ∈ scope.names, x.2 = .local → scope.names.lookup x.1 = some .local)
    (h : wpAny (model prog w) A (eval iter env) (CompAt prog w A E (some (assign (.Name y py) env)) env elt target iter ifs scope cl pos (fun _ s' => Q .next s')) E s) :
    wpAny (model prog w) A (exec (.Assign [.Name y py] (.ListComp elt [⟨target, iter, ifs, 0⟩] scope pos) spos) env) Q E s := by
  rw [exec_Assign_Name_used _ _ _ _ hsw]
  refine wpAny_bind (wpAny_standAt (wpAny_bind ?_))
  show wpAny _ A (do let _ ← comprehension (.ListComp elt [⟨target, iter, ifs, 0⟩] scope pos) scope env _ (newList []) false (eval iter env) (some (assign (.Name y py) env))) _ _ s
  exact wpAny_bind (wpAny_mono (wpAny_comprehension_free (use := some (assign (.Name y py) env)) (Q := fun _ s' => Q .next s') rfl hs hclos hkind hnames
    (wpAny_mono h (fun xv s₁ h₁ => h₁) fun _ _ e => e)) (fun _ s' hq => wpAny_pure (wpAny_pure hq)) fun _ _ e => e)

theorem comp_enter {elt target iter : PySem.Expr} {ifs : List PySem.Expr} {scope : Scope} {pos : Pos} {Q : Value → Shared → Prop} (cl : List (Str × Addr))
    (hs : ∀ x, foldedSetIterable iter env x = pure x) (hclos : closureFor scope env = pure cl)
    (hkind : scope.kind = .function) (hnames : ∀ x ∈ scope.names, x.2 = .local → scope.names.lookup x.1 = some .local)
    (h : wpAny (model prog w) A (eval iter env) (CompAt prog w A E none env elt target iter ifs scope cl pos Q) E s) :
    wpAny (model prog w) A (eval (.ListComp elt [⟨target, iter, ifs, 0⟩] scope pos) env) Q E s := by
  rw [eval_ListComp]
  exact wpAny_comprehension_free (use := none) rfl hs hclos hkind hnames (wpAny_mono h (fun xv s₁ h₁ => h₁) fun _ _ e => e)

theorem CompAt.list {use : Option (Value → Sem Unit)} {elt target iter : PySem.Expr} {ifs : List PySem.Expr} {scope : Scope} {pos : Pos} {cl : List (Str × Addr)} {Q : Value → Shared → Prop} {α : Type} {l : Addr} {vs : List Value} {as : List α}
    (Src : α → Value → Prop) (Dst : α → Value → Prop) (Bd : α → (Str → Option Value) → Prop) (p : α → Bool)
    (hh : A.handled = none) (hcell : ∀ y ∈ scope.names, y.2 ≠ .cell) (hkind : scope.kind = .function)
    (hl : s.heap.IsList l vs.toArray) (hvs : All2 Src as vs) (hsz : vs.length ≤ 1000)
    (asg : ∀ a v C I s₂ m₂ i (E' : Value → Shared → Prop), Src a v → s₂.heap.Ns C m₂ → s₂.heap.IsListIter I l i → (∀ b o, s.heap.get? b = some o → s₂.heap.get? b = some o) →
      wpAny (model prog w) A (letOwnedTupleGo target (.ref I) v) (fun _ s₃ => wpAny (model prog w) A (assign target (compEnvC scope cl C env) v) (fun _ s₄ => ∃ h' tk' m', s₄ = { s₂ with heap := h', toks := tk' } ∧ h'.Ns C m' ∧ Bd a m' ∧ ∀ b o, b ≠ C → s₂.heap.get? b = some o → h'.get? b = some o) E' s₃) E' s₂)
    (tests : ∀ a C s₂ m₂ (E' : Value → Shared → Prop), a ∈ as → (∃ h tk, s₂ = { s with heap := h, toks := tk }) → s₂.heap.Ns C m₂ → Bd a m₂ → (∀ b o, s.heap.get? b = some o → s₂.heap.get? b = some o) →
      wpAny (model prog w) A (forIn ifs true fun c r => if r = true then do let ok ← isTrue c (compEnvC scope cl C env) (eval c (compEnvC scope cl C env)); pure (ForInStep.yield ok) else pure (ForInStep.yield r))
        (fun ok s₃ => ok = p a ∧ PySem.Keeps s₂ s₃) E' s₂)
    (helt : ∀ a C s₂ m₂ (E' : Value → Shared → Prop), a ∈ as → p a = true → (∃ h tk, s₂ = { s with heap := h, toks := tk }) → s₂.heap.Ns C m₂ → Bd a m₂ → (∀ b o, s.heap.get? b = some o → s₂.heap.get? b = some o) →
      wpAny (model prog w) A (eval elt (compEnvC scope cl C env)) (fun y s₃ => Dst a y ∧ PySem.Keeps s₂ s₃) E' s₂)
    (hQ : CompDone prog w A E use Q s (fun ys => All2 Dst (as.filter p) ys)) :
    CompAt prog w A E use env elt target iter ifs scope cl pos Q (.ref l) s := by
  unfold CompAt
  have hvl := hvs.length
  refine wpAny_pyIter_list hl (wpAny_newObj_type (hd := by show _ ≤ sizeLine; simp) (wpAny_newFunctionEnv hcell (by intro y hy; simp at hy) (fun h₁ hns₁ hsb₁ => ?_) hkind))
  dsimp only at hns₁ hsb₁ ⊢
  obtain ⟨ol, hol, hol'⟩ := id hl
  have hax : l < s.heap.objs.size := Heap.lt_size hol
  generalize hH1 : s.heap.push { cls := .type "list_iterator", data := .fields #[.ref l, .int 0 0] } = H1 at hns₁ hsb₁ ⊢
  have hD : H1.objs.size = s.heap.objs.size + 1 := by rw [← hH1, Heap.size_push]
  generalize hH2 : H1.push { cls := .type "list", dict := none, data := .seq ([] : List Value).toArray } = H2 at hns₁ hsb₁ ⊢
  have hC : H2.objs.size = s.heap.objs.size + 2 := by rw [← hH2, Heap.size_push, hD]
  have hDI : H1.objs.size ≠ s.heap.objs.size := by rw [hD]; exact Nat.succ_ne_self _
  have hDC : H1.objs.size ≠ H2.objs.size := by rw [hD, hC]; exact Nat.ne_of_lt (Nat.lt_succ_self _)
  have hIC : s.heap.objs.size ≠ H2.objs.size := by rw [hC]; exact Nat.ne_of_lt (Nat.lt_succ_of_lt (Nat.lt_succ_self _))
  have below : ∀ b, b < s.heap.objs.size → b ≠ H2.objs.size ∧ b ≠ s.heap.objs.size ∧ b ≠ H1.objs.size := fun b hb =>
    ⟨by rw [hC]; exact Nat.ne_of_lt (Nat.lt_succ_of_lt (Nat.lt_succ_of_lt hb)), Nat.ne_of_lt hb, by rw [hD]; exact Nat.ne_of_lt (Nat.lt_succ_of_lt hb)⟩
  have old : ∀ b o, s.heap.get? b = some o → h₁.get? b = some o := fun b o e =>
    hsb₁.extBut b o (below b (Heap.lt_size e)).1 (Heap.get?_push_of_some _ (hH2 ▸ Heap.get?_push_of_some _ (hH1 ▸ Heap.get?_push_of_some _ e)))
  have hit : h₁.IsListIter s.heap.objs.size l 0 :=
    ⟨_, hsb₁.extBut _ _ hIC (Heap.get?_push_of_some _ (hH2 ▸ Heap.get?_push_of_some _ (hH1 ▸ Heap.get?_push_size _ rfl))), rfl, rfl⟩
  have hacc : h₁.PlainList H1.objs.size #[] := ⟨_, hsb₁.extBut _ _ hDC (Heap.get?_push_of_some _ (hH2 ▸ Heap.get?_push_size _ rfl))⟩
  have hnew : s.heap.get? H1.objs.size = none := by
    cases e : s.heap.get? H1.objs.size with
    | none => rfl
    | some o' => have := Heap.lt_size e; rw [hD] at this; exact absurd this (Nat.not_lt.mpr (Nat.le_succ _))
  have hnewC : s.heap.get? H2.objs.size = none := by
    cases e : s.heap.get? H2.objs.size with
    | none => rfl
    | some o' => have := Heap.lt_size e; rw [hC] at this; exact absurd this (Nat.not_lt.mpr (by omega))
  have loop : ∀ s₂ : Shared, s₂ = { s with heap := h₁, toks := s.toks + ([] : List (Str × Value)).length } →
      codeAny (model prog w) A (.compLoop (.ListComp elt [⟨target, iter, ifs, 0⟩] scope pos) 0 (.ref s.heap.objs.size) (.ref H1.objs.size) (compEnvC scope cl H2.objs.size env))
        (compPost (model prog w) A E use Q (.ref H1.objs.size) H2.objs.size) s₂ := by
    rintro s₂ rfl
    refine codeAny_compLoop_own
      (fun k s' => ∃ h' tk m' ys i, s' = { s with heap := h', toks := tk } ∧ h'.IsListIter s.heap.objs.size l i ∧ h'.PlainList H1.objs.size ys ∧ h'.Ns H2.objs.size m' ∧
        All2 Dst ((as.take i).filter p) ys.toList ∧ i ≤ vs.length ∧ k = vs.length + 1 - i ∧ ∀ b o, s.heap.get? b = some o → h'.get? b = some o) ?_ (vs.length + 1)
      ⟨h₁, _, _, #[], 0, rfl, hit, hacc, hns₁, by simpa using All2.nil, Nat.zero_le _, rfl, old⟩
    rintro k s' ⟨H, tk, m', ys, i, rfl, hit', hacc', hn', hF, hi, rfl, hk⟩
    have hl' : H.IsList l vs.toArray := ⟨ol, hk _ _ hol, hol'⟩
    cases hv : vs[i]? with
    | none =>
      have hge : vs.length ≤ i := List.getElem?_eq_none_iff.mp hv
      refine wpAny_pyNext_list_end hh hit' hl' (by simpa using hv) fun h₂ he₂ => ?_
      obtain ⟨kk, hkk⟩ := hacc'
      rw [List.take_of_length_le (by omega)] at hF
      exact hQ H1.objs.size H2.objs.size ys.toList kk h₂ tk m' hnew hnewC hDC (hn'.extBut he₂ (Ne.symm hIC)) (he₂ _ _ hDI hkk) hF fun b o e => he₂ _ _ (below b (Heap.lt_size e)).2.1 (hk b o e)
    | some v =>
      have hlt : i < vs.length := (List.getElem?_eq_some_iff.mp hv).1
      obtain ⟨a, ha, hSrc⟩ := hvs.get hv
      have ham : a ∈ as := List.mem_of_getElem? ha
      refine wpAny_pyNext_list_item hit' hl' (by simpa using hv) fun h₂ hit₂ hs₂ => ?_
      have up₂ : ∀ b o, s.heap.get? b = some o → h₂.get? b = some o := fun b o e => (hs₂.2 b (below b (Heap.lt_size e)).2.1).trans (hk b o e)
      have hn₂ := hn'.sameBut hs₂ (Ne.symm hIC)
      refine wpAny_mono (asg a v H2.objs.size s.heap.objs.size { s with heap := h₂, toks := tk } _ (i + 1) _ hSrc hn₂ hit₂ up₂) (fun _ s₃ h₃ => ?_) fun _ _ e => e
      refine wpAny_mono h₃ (fun _ s₄ h₄ => ?_) fun _ _ e => e
      obtain ⟨h₄, tk₄, m₄, rfl, hn₄, hBd, up₄⟩ := h₄
      have up₄' : ∀ b o, s.heap.get? b = some o → h₄.get? b = some o := fun b o e => up₄ b o (below b (Heap.lt_size e)).1 (up₂ b o e)
      have hit₄ : h₄.IsListIter s.heap.objs.size l (i + 1) := by
        obtain ⟨o, ho, r⟩ := hit₂
        exact ⟨o, up₄ _ o hIC ho, r⟩
      have hacc₄ : h₄.PlainList H1.objs.size ys := hacc'.at fun o e => up₄ _ o hDC ((hs₂.2 _ hDI).trans e)
      refine wpAny_mono (tests a H2.objs.size _ _ _ ham ⟨h₄, tk₄, rfl⟩ hn₄ hBd up₄') (fun ok s₅ h₅ => ?_) fun _ _ e => e
      obtain ⟨rfl, h₅, tk₅, rfl, hk₅⟩ := h₅
      have htake : (as.take (i + 1)).filter p = (as.take i).filter p ++ (if p a then [a] else []) := take_succ_filter p as i a ha
      cases hpa : p a with
      | false =>
        simp only [Bool.false_eq_true, if_false]
        refine ⟨vs.length + 1 - (i + 1), by omega, h₅, tk₅, _, ys, i + 1, rfl, hit₄.at fun o e => hk₅ _ o e, hacc₄.at fun o e => hk₅ _ o e, hn₄.keeps hk₅, ?_, hlt, rfl, fun b o e => hk₅ b o (up₄' b o e)⟩
        rw [htake, hpa]; simpa using hF
      | true =>
        simp only [if_true]
        refine wpAny_mono (helt a H2.objs.size _ _ _ ham hpa ⟨h₅, tk₅, rfl⟩ (hn₄.keeps hk₅) hBd fun b o e => hk₅ b o (up₄' b o e)) (fun y s₆ h₆ => ?_) fun _ _ e => e
        obtain ⟨hDst, h₆, tk₆, rfl, hk₆⟩ := h₆
        have hys : ys.size ≤ sizeLine := by
          have e1 := hF.length
          have e2 : ((as.take i).filter p).length ≤ (as.take i).length := List.length_filter_le _ _
          have e3 : (as.take i).length ≤ as.length := by rw [List.length_take]; omega
          have e4 : ys.toList.length = ys.size := by simp
          have := sizeLine_eq
          omega
        have hacc₆ : h₆.PlainList H1.objs.size ys := (hacc₄.at fun o e => hk₅ _ o e).at fun o e => hk₆ _ o e
        have hit₆ : h₆.IsListIter s.heap.objs.size l (i + 1) := (hit₄.at fun o e => hk₅ _ o e).at fun o e => hk₆ _ o e
        refine wpAny_list_append_plain (hsz := hys) hacc₆ fun h₇ hl₇ hs₇ => ?_
        refine ⟨vs.length + 1 - (i + 1), by omega, h₇, tk₆, _, ys.push y, i + 1, rfl, hit₆.extBut hs₇.extBut (Ne.symm hDI), hl₇, ((hn₄.keeps hk₅).keeps hk₆).sameBut hs₇ (Ne.symm hDC), ?_, hlt, rfl, fun b o e => (hs₇.2 b (below b (Heap.lt_size e)).2.2).trans (hk₆ b o (hk₅ b o (up₄' b o e)))⟩
        rw [htake, hpa]
        simpa using All2.snoc hF hDst
  exact codeAny_compStart_list (loop _ rfl) (wpAny_pyIter_listiter hit (loop _ rfl))
end
end Mine
end

section
open PySem PySem.W PyProof.Rows PySem.Calls
namespace Mine
/-- a place: its rest and its address -/
def PV (h : Heap) (p : Int × List Nat) (v : Value) : Prop := ∃ b t t' n, v = .ref b ∧ h.get? b = some { cls := .type "tuple", data := .seq #[.int p.1 t, .str (ofL p.2) t'] n }
theorem PV.keeps {h h' : Heap} (k : Mine.Keeps h h') {p : Int × List Nat} {v : Value} (x : PV h p v) : PV h' p v := by
  obtain ⟨b, t, t', n, e, g⟩ := x
  exact ⟨b, t, t', n, e, k _ _ g⟩
def Places (h : Heap) (l : Addr) (ps : List (Int × List Nat)) : Prop := ∃ vs k, h.get? l = some (lobj vs k) ∧ All2 (PV h) ps vs
theorem Places.keeps {h h' : Heap} (k : Mine.Keeps h h') {l : Addr} {ps : List (Int × List Nat)} (x : Places h l ps) : Places h' l ps := by
  obtain ⟨vs, n, g, a⟩ := x
  exact ⟨vs, n, k _ _ g, a.mono fun _ _ q => q.keeps k⟩

section
variable {prog : Program} {w : World} {A : Around} {E : Value → Shared → Prop} {s : Shared} {env : Env}

theorem CompAt.names {use : Option (Value → Sem Unit)} {elt iter : PySem.Expr} {x : Str} {px : Pos} {ifs : List PySem.Expr} {scope : Scope} {pos : Pos} {cl : List (Str × Addr)} {Q : Value → Shared → Prop} {α : Type} {l : Addr} {vs : List Value} {as : List α}
    (Src : α → Value → Prop) (Dst : α → Value → Prop) (p : α → Bool)
    (hh : A.handled = none) (hcell : ∀ y ∈ scope.names, y.2 ≠ .cell) (hkind : scope.kind = .function) (hx : scope.names.lookup x = some .local)
    (hl : s.heap.IsList l vs.toArray) (hvs : All2 Src as vs) (hsz : vs.length ≤ 1000)
    (tests : ∀ a v C s₂ m₂ (E' : Value → Shared → Prop), a ∈ as → (∃ h tk, s₂ = { s with heap := h, toks := tk }) → s₂.heap.Ns C m₂ → Src a v → m₂ x = some v → (∀ b o, s.heap.get? b = some o → s₂.heap.get? b = some o) →
      wpAny (model prog w) A (forIn ifs true fun c r => if r = true then do let ok ← isTrue c (compEnvC scope cl C env) (eval c (compEnvC scope cl C env)); pure (ForInStep.yield ok) else pure (ForInStep.yield r))
        (fun ok s₃ => ok = p a ∧ PySem.Keeps s₂ s₃) E' s₂)
    (helt : ∀ a v C s₂ m₂ (E' : Value → Shared → Prop), a ∈ as → p a = true → (∃ h tk, s₂ = { s with heap := h, toks := tk }) → s₂.heap.Ns C m₂ → Src a v → m₂ x = some v → (∀ b o, s.heap.get? b = some o → s₂.heap.get? b = some o) →
      wpAny (model prog w) A (eval elt (compEnvC scope cl C env)) (fun y s₃ => Dst a y ∧ PySem.Keeps s₂ s₃) E' s₂)
    (hQ : CompDone prog w A E use Q s (fun ys => All2 Dst (as.filter p) ys)) :
    CompAt prog w A E use env elt (.Name x px) iter ifs scope cl pos Q (.ref l) s := by
  refine CompAt.list Src Dst (fun a m => ∃ v, Src a v ∧ m x = some v) p hh hcell hkind hl hvs hsz ?_ ?_ ?_ hQ
  · intro a v C I s₂ m₂ i E' hSrc hn hit hk
    refine wpAny_of_eq rfl ?_
    refine wpAny_assign_Name (wpAny_storeName_local (lookup_relabel_local hx) hn (fun h₃ hn₃ hs₃ => ?_) (by simp [compEnvC, relabel, hkind]))
    exact ⟨h₃, _, _, rfl, hn₃, ⟨v, hSrc, if_pos rfl⟩, fun b o hb e => hs₃.extBut b o hb e⟩
  · rintro a C s₂ m₂ E' ha hs hn ⟨v, hv, hm⟩ hk
    exact tests a v C s₂ m₂ E' ha hs hn hv hm hk
  · rintro a C s₂ m₂ E' ha hp hs hn ⟨v, hv, hm⟩ hk
    exact helt a v C s₂ m₂ E' ha hp hs hn hv hm hk

theorem CompAt.pairs {use : Option (Value → Sem Unit)} {elt iter : PySem.Expr} {x y : Str} {px py tp : Pos} {kk : Nat} {ifs : List PySem.Expr} {scope : Scope} {pos : Pos} {cl : List (Str × Addr)} {Q : Value → Shared → Prop} {l : Addr} {ps : List (Int × List Nat)}
    (Dst : Int × List Nat → Value → Prop) (p : Int × List Nat → Bool)
    (hh : A.handled = none) (hcell : ∀ y ∈ scope.names, y.2 ≠ .cell) (hkind : scope.kind = .function) (hx : scope.names.lookup x = some .local) (hy : scope.names.lookup y = some .local) (hxy : x ≠ y)
    (hl : Places s.heap l ps) (hsz : ps.length ≤ 1000)
    (tests : ∀ r a t t' C s₂ m₂ (E' : Value → Shared → Prop), (r, a) ∈ ps → (∃ h tk, s₂ = { s with heap := h, toks := tk }) → s₂.heap.Ns C m₂ → m₂ x = some (.int r t) → m₂ y = some (.str (ofL a) t') → (∀ b o, s.heap.get? b = some o → s₂.heap.get? b = some o) →
      wpAny (model prog w) A (forIn ifs true fun c r => if r = true then do let ok ← isTrue c (compEnvC scope cl C env) (eval c (compEnvC scope cl C env)); pure (ForInStep.yield ok) else pure (ForInStep.yield r))
        (fun ok s₃ => ok = p (r, a) ∧ PySem.Keeps s₂ s₃) E' s₂)
    (helt : ∀ r a t t' C s₂ m₂ (E' : Value → Shared → Prop), (r, a) ∈ ps → p (r, a) = true → (∃ h tk, s₂ = { s with heap := h, toks := tk }) → s₂.heap.Ns C m₂ → m₂ x = some (.int r t) → m₂ y = some (.str (ofL a) t') → (∀ b o, s.heap.get? b = some o → s₂.heap.get? b = some o) →
      wpAny (model prog w) A (eval elt (compEnvC scope cl C env)) (fun y s₃ => Dst (r, a) y ∧ PySem.Keeps s₂ s₃) E' s₂)
    (hQ : CompDone prog w A E use Q s (fun ys => All2 Dst (ps.filter p) ys)) :
    CompAt prog w A E use env elt (.Tuple [.Name x px, .Name y py] kk tp) iter ifs scope cl pos Q (.ref l) s := by
  obtain ⟨vs, k, hg, hvs⟩ := hl
  have hvl := hvs.length
  refine CompAt.list (PV s.heap) Dst (fun a m => ∃ t t', m x = some (.int a.1 t) ∧ m y = some (.str (ofL a.2) t')) p hh hcell hkind ⟨_, hg, rfl, k, rfl⟩ hvs (by omega) ?_ ?_ ?_ hQ
  · rintro ⟨r, a⟩ v C I s₂ m₂ i E' ⟨b, t, t', n, rfl, hb⟩ hn hit hk
    refine wpAny_letOwnedTupleGo_listiter hit ?_
    have ht : IsTup s₂.heap b #[.int r t, .str (ofL a) t'] := ⟨_, hk _ _ hb, rfl, n, rfl⟩
    refine assign_Tuple_tuple hh ht rfl rfl fun h₅ he => ?_
    have he' : ∀ b o, s₂.heap.get? b = some o → h₅.get? b = some o := fun b o e => he b o (Nat.ne_of_lt (Heap.lt_size e)) e
    refine assignInOrder_cons (wpAny_assign_Name (wpAny_storeName_local (lookup_relabel_local hx) (hn.at' fun o e => he' _ o e) (fun h₆ hn₆ hs₆ => ?_) (by simp [compEnvC, relabel, hkind])))
    refine assignInOrder_cons (wpAny_assign_Name (wpAny_storeName_local (lookup_relabel_local hy) hn₆ (fun h₃ hn₃ hs₃ => ?_) (by simp [compEnvC, relabel, hkind])))
    refine assignInOrder_nil ?_
    exact ⟨h₃, _, _, rfl, hn₃, ⟨t, t', by rw [if_neg hxy, if_pos rfl], if_pos rfl⟩, fun b o hb e => hs₃.extBut b o hb (hs₆.extBut b o hb (he' b o e))⟩
  · rintro ⟨r, a⟩ C s₂ m₂ E' ha hs hn ⟨t, t', h1, h2⟩ hk
    exact tests r a t t' C s₂ m₂ E' ha hs hn h1 h2 hk
  · rintro ⟨r, a⟩ C s₂ m₂ E' ha hp hs hn ⟨t, t', h1, h2⟩ hk
    exact helt r a t t' C s₂ m₂ E' ha hp hs hn h1 h2 hk
end

section
variable {M : Model} {A : Around} {E : Value → Shared → Prop} {s : Shared} {env : Env}
/-- a block's own name, read -/
theorem blockName {scope : Scope} {cl : List (Str × Addr)} {C : Addr} {x : Str} {pos : Pos} {m : Str → Option Value} {v : Value} {Q : Value → Shared → Prop} (hkind : scope.kind = .function) (hx : scope.names.lookup x = some .local) (hn : s.heap.Ns C m) (hv : m x = some v) (h : Q v s) (hd : (x == ("__debug__" : Str)) = false) :
    wpAny M A (eval (.Name x pos) (compEnvC scope cl C env)) Q E s :=
  wpAny_Name (wpAny_loadName_local (env := compEnvC scope cl C env) (by simp [compEnvC, relabel, hkind]) (lookup_relabel_local hx) hn hv h) hd
end
end Mine
end

section
open PySem PySem.W PyProof.Rows PySem.Calls
namespace Mine
section
variable {prog : Program} {w : World} {A : Around} {s : Shared} {K : Frag} {E : Value → Shared → Prop} {Q : Value → Shared → Prop}
/-- a call of a def of the text, some of whose names a block of its own holds -/
theorem enterC {name qual : Str} {params : Arguments} {body : List Stmt} {scope : Scope} {dV kV doc pm cdv ct oc : Value} {an od : Option Addr} {osl : Array (Option Value)} {f : Addr} {vs : List Value} {binds : List (Str × Value)}
    (X : K.In s.heap) (hlim : s.heap.NoLimit)
    (ho : K.lookup f = some ⟨oc, od, .func (fnOf name qual params body scope dV kV doc pm an cdv ct), osl⟩) (hcd : codeIn K cdv qual = true) (hroom : A.depth < recursionLimit)
    (hbind : BindsTo s (fnOf name qual params body scope dV kV doc pm an cdv ct) ⟨vs, []⟩ binds) (hkind : (binds.all fun y => scope.names.lookup y.1 == some .local || scope.names.lookup y.1 == some .cell) = true)
    (hnd : ((cellsFrom 0 scope.names []).map (·.1)).Nodup)
    (h : ∀ h₁ tk cells, Fr s.heap s.heap.objs.size h₁ (bindL (envOfC qual scope s.heap.objs.size f cdv).kindOf binds fun _ => none) → News s.heap s.heap.objs.size h₁ cells →
      CellsAre (bindC (envOfC qual scope s.heap.objs.size f cdv).kindOf binds fun _ => none) (cellsFrom (s.heap.objs.size + 1) scope.names []) cells →
      wpAny (model prog w) (A.deeper (envOfC qual scope s.heap.objs.size f cdv)) (execs body (envOfC qual scope s.heap.objs.size f cdv))
        (fun fl s' => Q (match fl with | .ret v => v | _ => .none) s') (fun _ _ => False)
        { s with heap := h₁, toks := tk })
    (hco : scope.isCoroutine = false) (hgen : scope.isGenerator = false) (hk : scope.kind = .function) : wpAny (model prog w) A (call (.ref f) vs) Q E s := by
  refine wpAny_call (codeAny_call_function hroom (X _ _ ho) rfl hco hgen rfl (codeRec_of X hcd) (hbind _ _ _ _ ?_))
  refine wpAny_newFunctionEnv_cells hk (kindsX hkind _) fun env' he s' x => ?_
  subst he
  refine ⟨hlim.keeps x.toInCall.keep, codeAny_func ?_⟩
  obtain ⟨h₁, tk, rfl, _⟩ := x.done
  have hk₁ := x.toInCall.keep
  obtain ⟨cells, NC, Y⟩ := Cl.news (h₀ := s.heap) (Nat.le_refl _) fun n c hm => ⟨x.cell n c (lookup_of_mem_nodup (cellsFrom_names scope.names 0 (s.heap.objs.size + 1) [] [] rfl ▸ hnd) hm), x.above n c hm⟩
  exact wpAny_mono (h h₁ tk cells ⟨x.toInCall.ns, hk₁, Nat.le_refl _⟩ NC Y) (fun _ _ x => x) (fun _ _ x => x.elim)
end
section
variable {M : Model} {A : Around} {E : Value → Shared → Prop} {s : Shared} {env : Env}
/-- a name of the def's own, read in a block -/
theorem blockCell {scope : Scope} {cl : List (Str × Addr)} {C c : Addr} {x : Str} {pos : Pos} {o : Obj} {v : Value} {Q : Value → Shared → Prop} (hkind : scope.kind = .function) (hx : (compEnvC scope cl C env).kindOf x = some .cell) (hc : cl.lookup x = some c) (ho : s.heap.get? c = some o) (hv : o.data = .cell (some v)) (h : Q v s) (hd : (x == ("__debug__" : Str)) = false) :
    wpAny M A (eval (.Name x pos) (compEnvC scope cl C env)) Q E s :=
  wpAny_Name (wpAny_loadName_cell (env := compEnvC scope cl C env) (by simp [compEnvC, relabel, hkind]) hx hc ⟨o, ho, hv⟩ h) hd
end
end Mine
namespace Mine
theorem keptK {base : Heap} : KeptH (Mine.Keeps base) := fun h ob k b o e => Heap.get?_push_of_some _ (k b o e)
section
variable {prog : Program} {w : World} {A : Around} {s : Shared} {E : Value → Shared → Prop} {Q : Value → Shared → Prop} {base : Heap} {x : Str} {t : Tok} {value slice : PySem.Expr}
theorem slice_nsK {j : Int} {uj : Tok} (hI : Mine.Keeps base s.heap) (h : ∀ h' t' k, Mine.Keeps base h' → Q (.str (Txt.slice x none (some j)) t') { s with heap := h', toks := k })
    (hs : subscripted slice false (.str x t) (.ref s.heap.objs.size) = operate [.ref s.heap.objs.size, .str x t] (getItem (.str x t) (.ref s.heap.objs.size)) := by with_unfolding_all rfl)
    (ht : ∀ r, letTemporaryGo value (.str x t) r = pure () := by intro _; with_unfolding_all rfl) (hsz : x.length ≤ 16777216) :
    wpAny (model prog w) A (subscriptTail value slice (.str x t) (.ref s.heap.objs.size)) Q E { s with heap := s.heap.push { cls := .type "slice", data := .fields #[.none, .int j uj, .none] } } :=
  tail_of_ItemOn (SBH.sliceItem_ns keptK hI h (by rw [sizeLine_eq]; exact hsz)) hs ht
end
theorem keeps_of {s : Shared} {h' : Heap} {tk : Nat} (k : Mine.Keeps s.heap h') : PySem.Keeps s { s with heap := h', toks := tk } := ⟨h', tk, rfl, k⟩
/-- those that hang on a place -/
def belowL (ps : List (Int × List Nat)) (b : List Nat) : List (List Nat) := (ps.filter fun p => decide (p.2 ≠ [] ∧ p.2.dropLast = b)).map (·.2)
end Mine
namespace Mine
theorem empty_is : Str.ofString "" = ofL [] := by decide +kernel
theorem ne_empty {a : List Nat} : (ofL a != Str.ofString "") = true ↔ a ≠ [] := by
  rw [empty_is, bne_iff_ne]
  exact ⟨fun h e => h (by rw [e]), fun h e => h (ofL_inj e)⟩
theorem below_all {ps : List (Int × List Nat)} {q : Int × List Nat → Bool} {vs : List Value} (h : All2 (fun p v => SV p.2 v) (ps.filter q) vs) : StrsAre vs (((ps.filter q).map (·.2)).map ofL) := by
  refine strs_all2 ?_
  generalize ps.filter q = l at h
  induction h with
  | nil => exact .nil
  | cons h _ ih => exact .cons h ih
end Mine
namespace Mine
theorem not_empty {a : List Nat} (h : (ofL a != Str.ofString "") = false) : a = [] := by
  rw [empty_is] at h
  have : ofL a = ofL [] := by simpa using h
  exact ofL_inj this
theorem last_eq {a b : List Nat} (h : (Txt.slice (ofL a) none (some (-1)) == ofL b) = true) : a.dropLast = b := by
  rw [slice_last] at h
  exact ofL_inj (eq_of_beq h)
theorem last_ne {a b : List Nat} (h : (Txt.slice (ofL a) none (some (-1)) == ofL b) = false) : a.dropLast ≠ b := by
  intro e
  rw [slice_last, e] at h
  simp at h
theorem fresh_back {h h' : Heap} (k : Mine.Keeps h h') {D : Addr} (hD : h'.get? D = none) : h.get? D = none := by
  cases e : h.get? D with
  | none => rfl
  | some o => rw [k _ _ e] at hD; cases hD
end Mine
end

section
open PySem PySem.W PyProof.Rows PySem.Calls
set_option maxHeartbeats 4000000
namespace Mine

local macro_rules | `(tactic| walk_at "getMethod ref") => `(tactic| (k_here; (with_reducible show wpAny _ _ (getMethod (Value.ref _) (PySem.Str.ofString "sub") _) _ _ _); k_dflt (first | refine getMethod_pat (pat43 (by k_in)) ?_ | refine getMethod_pat (pat53 (by k_in)) ?_ | refine getMethod_pat (pat48 (by k_in)) ?_)))
local macro_rules | `(tactic| walk_at "mine kept") => `(tactic| ((with_reducible rename Mine.Keeps _ _ => kk0); (with_reducible rename Fr _ _ _ _ => kF0); (with_reducible rename News _ _ _ _ => kN0); k_dflt ((have F' := Fr.keeps kF0 kk0); (have N' := News.grown kN0 kk0)); clear kk0; (try k_sweep)))

local macro_rules | `(tactic| walk_at "exec For") => `(tactic| (k_here; refine stop ?_))
local macro_rules | `(tactic| walk_at "exec For Name") => `(tactic| (k_here; refine stop ?_))
local macro_rules | `(tactic| walk_at "exec For Name Call cons nil") => `(tactic| (k_here; refine stop ?_))
local macro_rules | `(tactic| walk_at "exec For Tuple") => `(tactic| (k_here; refine stop ?_))
local macro_rules | `(tactic| walk_at "pyIter") => `(tactic| (k_here; refine stop ?_))
local macro_rules | `(tactic| walk_at "pyIter str") => `(tactic| (k_here; refine stop ?_))
local macro_rules | `(tactic| walk_at "pyIter ref") => `(tactic| (k_here; refine stop ?_))
local macro_rules | `(tactic| walk_at "eval ListComp") => `(tactic| (k_here; refine stop ?_))
local macro_rules | `(tactic| walk_at "call ref") => `(tactic| (k_here; plain_pass; refine stop ?_))

local macro_rules | `(tactic| walk_at "call type:enumerate") => `(tactic| (k_here; refine stop ?_))
local macro_rules | `(tactic| walk_at "exec For Tuple Call cons nil") => `(tactic| (k_here; refine stop ?_))
local macro_rules | `(tactic| walk_at "exec For Tuple Call") => `(tactic| (k_here; refine stop ?_))

local macro_rules | `(tactic| walk_at "setItem ref int") => `(tactic| (k_here; refine stop ?_))

local macro_rules | `(tactic| walk_at "call builtin:str.encode") => `(tactic| (k_here; refine stop ?_))
local macro_rules | `(tactic| walk_at "call builtin:bytes.decode") => `(tactic| (k_here; refine stop ?_))
local macro_rules | `(tactic| walk_at "call builtin:str.join") => `(tactic| (k_here; refine stop ?_))
local macro_rules | `(tactic| walk_at "getMethod str") => `(tactic| (k_here; k_dflt (with_reducible refine Co.getMethod_enc ?_)))

local macro_rules | `(tactic| walk_at "exec Assign cons ListComp") => `(tactic| (k_here; refine stop ?_))

local macro_rules | `(tactic| walk_at "eval Name") => `(tactic| (k_dflt (first
  | (refine' blockName ?a ?b ?c ?d ?_ ?e; (case a => exact rfl); (case b => exact rfl); (case c => assumption); (case d => assumption); (case e => decide))
  | (refine' blockCell ?a ?b ?c ?d ?f ?_ ?e; (case a => exact rfl); (case b => exact rfl); (case c => exact rfl); (case d => assumption); (case f => assumption); (case e => decide)))))

local macro_rules | `(tactic| walk_at "mine side") => `(tactic| ((case X => exact Rdy.X (by assumption)); (case hl => exact Rdy.nolimit (by assumption)); (case ho => k_is); (case hcd => k_is); (case hr => omega); (case hb => exact BindsTo.of_eq rfl); (case c5 => decide); (case hloc => exact locs rfl); (case c2 => exact rfl); (case c3 => exact rfl); (case c4 => exact rfl)))
local macro_rules | `(tactic| walk_at "mine go") => `(tactic| repeat' (first | (k_unfold; (try dsimp only)) | (walk1; (try dsimp only)) | fail "no step"))

local macro_rules | `(tactic| walk_at "mine sideC") => `(tactic| ((case X => exact Rdy.X (by assumption)); (case hl => exact Rdy.nolimit (by assumption)); (case ho => k_is); (case hcd => k_is); (case hr => omega); (case hb => exact BindsTo.of_eq rfl); (case hkd => exact rfl); (case hnd => decide +kernel); (case c2 => exact rfl); (case c3 => exact rfl); (case c4 => exact rfl)))
section
variable {prog : Program} {w : World} {A : Around} {s : Shared} {E : Value → Shared → Prop} {Q : Value → Shared → Prop}

local macro_rules | `(tactic| walk_at "mine ready") => `(tactic| exact ⟨by k_in, _, _, _, Top.keeps (by k_asm) (Fr.keep (by k_asm))⟩)
local macro_rules | `(tactic| walk_at "mine depth") => `(tactic| (simp only [depth_deeper]; omega))
local macro_rules | `(tactic| walk_at "mine list") => `(tactic| exact Heap.IsList.at (by assumption) (fun o e => Fr.keep (by assumption) _ _ e))
theorem below_spec {l : Addr} {u : Tok} {ps : List (Int × List Nat)} {b : List Nat} (R : Rdy w s.heap) (hdp : A.depth + 10 < recursionLimit) (hh : A.handled = none) (hpl : Places s.heap l ps) (hsz : ps.length ≤ 1000) (hle : ∀ p ∈ ps, p.2.length ≤ 1000)
   (hQ : ∀ D vs k h' tk', Keeps s.heap h' → s.heap.get? D = none → h'.get? D = some (lobj vs k) → StrsAre vs ((belowL ps b).map ofL) → Q (.ref D) { s with heap := h', toks := tk' }) :
   wpAny (model prog w) A (call (.ref 79) [.ref l, .str (ofL b) u]) Q E s := by
  k_dflt (refine' enterC (K := Mine.hd.heap_39 _) (binds := [(Str.ofString "places", .ref l), (Str.ofString "above", .str (ofL b) u)]) ?X ?hl ?ho ?hcd ?hr ?hb ?hkd ?hnd ?_ ?c2 ?c3 ?c4)
  walk_at "mine sideC"
  obtain ⟨X, T⟩ := R
  obtain ⟨mean, mg, mb, T⟩ := T
  intro h₁ tk cells F N Y
  k_cells Y
  generalize hQ' : (fun (fl : Flow) (s' : Shared) => Q (match fl with | .ret v => v | _ => .none) s') = Q'
  walk_at "mine go"
  refine comp_enter [(Str.ofString "above", s.heap.objs.size + 1)] (fun _ => rfl) rfl rfl (by decide) ?_
  walk_at "mine go"
  with_reducible rename Fr _ _ _ _ => F0
  with_reducible rename News _ _ _ _ => N0
  with_reducible rename (_ = Data.cell _) => hcell
  have hcg := (N0 _ (.head _)).1
  refine CompAt.pairs (fun p v => SV p.2 v) (fun p => decide (p.2 ≠ [] ∧ p.2.dropLast = b)) hh (by decide) rfl rfl rfl (by decide) (hpl.keeps F0.keep) hsz ?_ ?_ ?_
  · rintro r a t t' C s₂ m₂ E' ha ⟨h, tk, rfl⟩ hn h1 h2 hk
    have hc2 := hk _ _ hcg
    refine wpAny_tests_one ?_
    walk_at "mine go"
    · refine slice_nsK (s := { s with heap := h, toks := _ }) (base := h) (fun _ _ e => e) ?_ (hsz := by rw [ofL_length]; have := hle _ ha; simp only at this; omega)
      intro h3 t3 k3 hk3
      have hn3 := Heap.Ns.keeps hn hk3
      have hc3 := hk3 _ _ hc2
      with_reducible rename (_ = true) => hne
      rw [ne_empty] at hne
      walk_at "mine go"
      · with_reducible rename (_ = true) => heq
        rw [decide_eq_true ⟨hne, last_eq heq⟩]
      · exact keeps_of (s := { s with heap := h, toks := _ }) hk3
      · with_reducible rename (_ = false) => heq
        rw [decide_eq_false (fun z => last_ne heq z.2)]
      · exact keeps_of (s := { s with heap := h, toks := _ }) hk3
    · with_reducible rename (_ = false) => hne
      rw [decide_eq_false (fun z => z.1 (not_empty hne))]
    · exact keeps_of (s := { s with heap := h, toks := _ }) fun _ _ e => e
  · rintro r a t t' C s₂ m₂ E' ha hp ⟨h, tk, rfl⟩ hn h1 h2 hk
    walk_at "mine go"
    · exact ⟨t', rfl⟩
    · exact keeps_of (s := { s with heap := h, toks := _ }) fun _ _ e => e
  · refine compDone_val fun D ys k h' tk' hD hg hys hk => ?_
    walk_at "mine go"
    subst hQ'
    refine hQ D ys k h' tk' (fun b o e => hk b o (F0.keep b o e)) ?_ hg (below_all hys)
    exact fresh_back F0.keep hD
end
end Mine
end

section
open PySem PySem.W PyProof.Rows PySem.Calls
namespace Mine
section
variable {M : Model} {A : Around} {E : Value → Shared → Prop} {s : Shared} {K : Frag} {h₀ : Heap} {C : Addr} {mg mb : Str → Option Value} {scope : Scope} {cl : List (Str × Addr)} {env : Env} {p : Program} {loose : List Str} {mean : ExcName → Option Value} {x : Str} {pos : Pos} {v : Value} {Q : Value → Shared → Prop}
theorem blockGlobal (k : Mine.Keeps h₀ s.heap) (X : K.In h₀) (T : Top p loose mean mg mb h₀) (e : nsIn K mainGlobals x = some (some v)) (h : Q v s) (hg : env.globals = mainGlobals)
    (hk : (compEnvC scope cl C env).scope.kind = .function) (hx : (compEnvC scope cl C env).kindOf x = some .globalImplicit) (hd : (x == ("__debug__" : Str)) = false) :
    wpAny M A (eval (.Name x pos) (compEnvC scope cl C env)) Q E s :=
  Name_function_global hk hx (loadGlobal_global (env := compEnvC scope cl C env) (show s.heap.Ns env.globals mg from hg ▸ (T.keeps k).g) (mg_of X T.g e) h) hd
theorem blockBuilt (k : Mine.Keeps h₀ s.heap) (X : K.In h₀) (T : Top p loose mean mg mb h₀) (e : nsIn K mainGlobals x = some none) (hv : bootBuiltins x = some v) (hn : x ≠ "__name__") (h : Q v s) (hg : env.globals = mainGlobals) (hb : env.builtins = builtinsNs)
    (hk : (compEnvC scope cl C env).scope.kind = .function) (hx : (compEnvC scope cl C env).kindOf x = some .globalImplicit) (hd : (x == ("__debug__" : Str)) = false) :
    wpAny M A (eval (.Name x pos) (compEnvC scope cl C env)) Q E s :=
  Name_function_global hk hx (loadGlobal_builtin (env := compEnvC scope cl C env) (show s.heap.Ns env.globals mg from hg ▸ (T.keeps k).g) (mg_none_of X T.g e) (show s.heap.Ns env.builtins mb from hb ▸ (T.keeps k).b) ((T.builtins x hn).trans hv) h) hd
end
section
variable {prog : Program} {w : World} {A : Around} {s : Shared} {E : Value → Shared → Prop} {Q : Value → Shared → Prop} {base : Heap} {x : Str} {t : Tok} {value slice : PySem.Expr}
theorem slice_ssK {i j : Int} {ui uj : Tok} (hI : Mine.Keeps base s.heap) (h : ∀ h' t' k, Mine.Keeps base h' → Q (.str (Txt.slice x (some i) (some j)) t') { s with heap := h', toks := k })
    (hs : subscripted slice false (.str x t) (.ref s.heap.objs.size) = operate [.ref s.heap.objs.size, .str x t] (getItem (.str x t) (.ref s.heap.objs.size)) := by with_unfolding_all rfl)
    (ht : ∀ r, letTemporaryGo value (.str x t) r = pure () := by intro _; with_unfolding_all rfl) (hsz : x.length ≤ 16777216) :
    wpAny (model prog w) A (subscriptTail value slice (.str x t) (.ref s.heap.objs.size)) Q E { s with heap := s.heap.push { cls := .type "slice", data := .fields #[.int i ui, .int j uj, .none] } } :=
  tail_of_ItemOn (SBH.sliceItem_ss keptK hI h (by rw [sizeLine_eq]; exact hsz)) hs ht
end
def lastN (ps : List (Int × List Nat)) (rest : Int) (b : List Nat) : Nat :=
  (ps.filter fun p => decide (p.2 < b)).length + if rest.fmod 2 = 1 then (ps.filter fun p => decide (p.2.take b.length = b)).length else 0
def lastL (ps : List (Int × List Nat)) (rest : Int) (b : List Nat) : List Nat := ((rotL rest).drop (6 - lastN ps rest b)).take (7 - (6 - lastN ps rest b))
theorem rotL_len (rest : Int) : (rotL rest).length = 10 := by
  obtain ⟨h0, h1⟩ := fmod10 (rest.fdiv 2)
  have : firstOf rest ≤ 10 := by unfold firstOf; omega
  unfold rotL
  rw [List.length_append, List.length_drop, List.length_take]
  have : signs10.length = 10 := rfl
  omega
theorem last_slice {ps : List (Int × List Nat)} {rest : Int} {b : List Nat} {i : Int} (h : lastN ps rest b ≤ 6) (hi : i = 6 - (lastN ps rest b : Int)) :
    Txt.slice (ofL (rotL rest)) (some i) (some 7) = ofL (lastL ps rest b) := by
  have : i = ((6 - lastN ps rest b : Nat) : Int) := by omega
  rw [this]
  exact slice_mid (rotL rest) (a := 6 - lastN ps rest b) (b := 7) (by omega) (by rw [rotL_len]; omega)
theorem take_eq {a b : List Nat} {n : Int} (hn : n = (b.length : Int)) (h : (Txt.slice (ofL a) none (some n) == ofL b) = true) : a.take b.length = b := by
  rw [hn, slice_take] at h
  exact ofL_inj (eq_of_beq h)
theorem take_ne {a b : List Nat} {n : Int} (hn : n = (b.length : Int)) (h : (Txt.slice (ofL a) none (some n) == ofL b) = false) : a.take b.length ≠ b := by
  intro e
  rw [hn, slice_take, e] at h
  simp at h
end Mine
namespace Mine
section
variable {prog : Program} {w : World} {A : Around} {E : Value → Shared → Prop} {s : Shared} {env : Env}
theorem compDone_letG {Q0 : Shared → Prop} {Ok : List Value → Prop} {base : Heap} {m : Str → Option Value} {news : List (Addr × Obj)} {y : Str} {py : Pos} (F : Fr base env.locals s.heap m) (N : News base env.locals s.heap news)
    (hy : env.kindOf y = some .local) (hp : (env.scope.kind == .class || (env.scope.kind == .module && env.locals != env.globals)) = false)
    (hQ : ∀ D ys k h' tk, base.get? D = none → Ok ys → Fr base env.locals h' (fun z => if z = y then some (.ref D) else m z) → News base env.locals h' ((D, lobj ys k) :: news) → Q0 { s with heap := h', toks := tk }) :
    CompDone prog w A E (some (assign (.Name y py) env)) (fun _ s' => Q0 s') s Ok := compDone_let (Q := fun _ s' => Q0 s') F N hy hp hQ
end
end Mine
end

section
open PySem PySem.W PyProof.Rows PySem.Calls
set_option maxHeartbeats 4000000
namespace Mine

local macro_rules | `(tactic| walk_at "getMethod ref") => `(tactic| (k_here; (with_reducible show wpAny _ _ (getMethod (Value.ref _) (PySem.Str.ofString "sub") _) _ _ _); k_dflt (first | refine getMethod_pat (pat43 (by k_in)) ?_ | refine getMethod_pat (pat53 (by k_in)) ?_ | refine getMethod_pat (pat48 (by k_in)) ?_)))
local macro_rules | `(tactic| walk_at "mine kept") => `(tactic| ((with_reducible rename Mine.Keeps _ _ => kk0); (with_reducible rename Fr _ _ _ _ => kF0); (with_reducible rename News _ _ _ _ => kN0); k_dflt ((have F' := Fr.keeps kF0 kk0); (have N' := News.grown kN0 kk0)); clear kk0; (try k_sweep)))

local macro_rules | `(tactic| walk_at "exec For") => `(tactic| (k_here; refine stop ?_))
local macro_rules | `(tactic| walk_at "exec For Name") => `(tactic| (k_here; refine stop ?_))
local macro_rules | `(tactic| walk_at "exec For Name Call cons nil") => `(tactic| (k_here; refine stop ?_))
local macro_rules | `(tactic| walk_at "exec For Tuple") => `(tactic| (k_here; refine stop ?_))
local macro_rules | `(tactic| walk_at "pyIter") => `(tactic| (k_here; refine stop ?_))
local macro_rules | `(tactic| walk_at "pyIter str") => `(tactic| (k_here; refine stop ?_))
local macro_rules | `(tactic| walk_at "pyIter ref") => `(tactic| (k_here; refine stop ?_))
local macro_rules | `(tactic| walk_at "eval ListComp") => `(tactic| (k_here; refine stop ?_))
local macro_rules | `(tactic| walk_at "call ref") => `(tactic| (k_here; plain_pass; refine stop ?_))

local macro_rules | `(tactic| walk_at "call type:enumerate") => `(tactic| (k_here; refine stop ?_))
local macro_rules | `(tactic| walk_at "exec For Tuple Call cons nil") => `(tactic| (k_here; refine stop ?_))
local macro_rules | `(tactic| walk_at "exec For Tuple Call") => `(tactic| (k_here; refine stop ?_))

local macro_rules | `(tactic| walk_at "setItem ref int") => `(tactic| (k_here; refine stop ?_))

local macro_rules | `(tactic| walk_at "call builtin:str.encode") => `(tactic| (k_here; refine stop ?_))
local macro_rules | `(tactic| walk_at "call builtin:bytes.decode") => `(tactic| (k_here; refine stop ?_))
local macro_rules | `(tactic| walk_at "call builtin:str.join") => `(tactic| (k_here; refine stop ?_))
local macro_rules | `(tactic| walk_at "getMethod str") => `(tactic| (k_here; k_dflt (with_reducible refine Co.getMethod_enc ?_)))

local macro_rules | `(tactic| walk_at "exec Assign cons ListComp") => `(tactic| (k_here; refine stop ?_))

local macro_rules | `(tactic| walk_at "subscriptTail Name Slice ref ref") => `(tactic| (k_here; refine stop ?_))
local macro_rules | `(tactic| walk_at "call builtin:sum") => `(tactic| (k_here; refine stop ?_))

local macro_rules | `(tactic| walk_at "eval Name") => `(tactic| (k_dflt (first
  | (refine' blockName ?a ?b ?c ?d ?_ ?e; (case a => exact rfl); (case b => exact rfl); (case c => assumption); (case d => assumption); (case e => decide))
  | (refine' blockCell ?a ?b ?c ?d ?f ?_ ?e; (case a => exact rfl); (case b => exact rfl); (case c => exact rfl); (case d => assumption); (case f => assumption); (case e => decide)))))

local macro_rules | `(tactic| walk_at "eval Name") => `(tactic| (k_dflt (first
  | (refine' blockGlobal ?k1 ?k2 ?k3 ?k4 ?_ ?g ?a ?b ?c; (case k1 => assumption); (case k2 => assumption); (case k3 => assumption); (case k4 => k_is); (case g => rfl); (case a => rfl); (case b => rfl); (case c => decide))
  | (refine' blockBuilt ?k1 ?k2 ?k3 ?k4 ?v ?n ?_ ?g ?g2 ?a ?b ?c; (case k1 => assumption); (case k2 => assumption); (case k3 => assumption); (case k4 => k_is); (case v => rfl); (case n => decide); (case g => rfl); (case g2 => rfl); (case a => rfl); (case b => rfl); (case c => decide)))))

local macro_rules | `(tactic| walk_at "mine side") => `(tactic| ((case X => exact Rdy.X (by assumption)); (case hl => exact Rdy.nolimit (by assumption)); (case ho => k_is); (case hcd => k_is); (case hr => omega); (case hb => exact BindsTo.of_eq rfl); (case c5 => decide); (case hloc => exact locs rfl); (case c2 => exact rfl); (case c3 => exact rfl); (case c4 => exact rfl)))
local macro_rules | `(tactic| walk_at "mine go") => `(tactic| repeat' (first | (k_unfold; (try dsimp only)) | (walk1; (try dsimp only)) | fail "no step"))

local macro_rules | `(tactic| walk_at "mine sideC") => `(tactic| ((case X => exact Rdy.X (by assumption)); (case hl => exact Rdy.nolimit (by assumption)); (case ho => k_is); (case hcd => k_is); (case hr => omega); (case hb => exact BindsTo.of_eq rfl); (case hkd => exact rfl); (case hnd => decide +kernel); (case c2 => exact rfl); (case c3 => exact rfl); (case c4 => exact rfl)))
section
variable {prog : Program} {w : World} {A : Around} {s : Shared} {E : Value → Shared → Prop} {Q : Value → Shared → Prop}

local macro_rules | `(tactic| walk_at "mine ready") => `(tactic| exact ⟨by k_in, _, _, _, Top.keeps (by k_asm) (Fr.keep (by k_asm))⟩)
local macro_rules | `(tactic| walk_at "mine depth") => `(tactic| (simp only [depth_deeper]; omega))
local macro_rules | `(tactic| walk_at "mine list") => `(tactic| exact Heap.IsList.at (by assumption) (fun o e => Fr.keep (by assumption) _ _ e))

local macro_rules | `(tactic| walk_at "call ref") => `(tactic| (k_here; k_dflt ((with_reducible show wpAny _ _ (call (Value.ref 93) _) _ _ _); (refine' signs_spec ?r ?d ?_); (case r => walk_at "mine ready"); (case d => walk_at "mine depth"); intro t' h' tk' kk'; walk_at "mine kept")))

local macro_rules | `(tactic| walk_at "call builtin:len") => `(tactic| (k_here; (with_reducible show wpAny _ _ (call (Value.builtin "len") [Value.ref _]) _ _ _); k_dflt (refine' len_list (News.isList (by k_asm) (by k_mem)) ?sz ?_; (case sz => (simp only [List.size_toArray]; omega)))))
theorem last_spec {l : Addr} {rest : Int} {t u : Tok} {ps : List (Int × List Nat)} {b : List Nat} (R : Rdy w s.heap) (hdp : A.depth + 20 < recursionLimit) (hh : A.handled = none) (hpl : Places s.heap l ps) (hsz : ps.length ≤ 1000) (hle : ∀ p ∈ ps, p.2.length ≤ 1000)
   (hb : b.length ≤ 1000) (hN : lastN ps rest b ≤ 6)
   (hQ : ∀ t' h' tk', Keeps s.heap h' → Q (.str (ofL (lastL ps rest b)) t') { s with heap := h', toks := tk' }) :
   wpAny (model prog w) A (call (.ref 124) [.ref l, .int rest t, .str (ofL b) u]) Q E s := by
  k_dflt (refine' enterC (K := Mine.hd.heap_39 _) (binds := [(Str.ofString "places", .ref l), (Str.ofString "rest", .int rest t), (Str.ofString "address", .str (ofL b) u)]) ?X ?hl ?ho ?hcd ?hr ?hb ?hkd ?hnd ?_ ?c2 ?c3 ?c4)
  walk_at "mine sideC"
  obtain ⟨X, T⟩ := R
  obtain ⟨mean, mg, mb, T⟩ := T
  intro h₁ tk cells F N Y
  k_cells Y
  generalize hQ' : (fun (fl : Flow) (s' : Shared) => Q (match fl with | .ret v => v | _ => .none) s') = Q'
  walk_at "mine go"
  refine comp_let [] rfl (fun _ => rfl) rfl rfl (by decide) ?_
  walk_at "mine go"
  with_reducible rename Fr _ _ _ _ => F0
  with_reducible rename News _ _ _ _ => N0
  have hpl0 := hpl.keeps F0.keep
  obtain ⟨vs, kv, hg, hvs⟩ := hpl0
  have hvl := hvs.length
  refine CompAt.names (PV _) (fun p v => SV p.2 v) (fun _ => true) hh (by decide) rfl rfl ⟨_, hg, rfl, kv, rfl⟩ hvs (by omega) ?_ ?_ ?_
  · rintro ⟨r, a⟩ v C s₂ m₂ E' ha ⟨h, tk, rfl⟩ hn hv h1 hk
    exact wpAny_tests_nil ⟨rfl, _, _, rfl, fun _ _ e => e⟩
  · rintro ⟨r, a⟩ v C s₂ m₂ E' ha hp ⟨h, tk, rfl⟩ hn hv h1 hk
    obtain ⟨b', t1, t2, n', rfl, hb'⟩ := hv
    have ht : IsTup h b' #[.int r t1, .str (ofL a) t2] := ⟨_, hk _ _ hb', rfl, n', rfl⟩
    walk_at "mine go"
    · exact ⟨t2, rfl⟩
    · exact keeps_of (s := { s with heap := h, toks := _ }) fun _ _ e => e
  · refine compDone_letG F0 N0 (by rfl) (by rfl) fun D ys k h' tk' hD hys F1 N1 => ?_
    clear F0 N0
    replace F1 : Fr s.heap s.heap.objs.size _ _ := F1
    replace N1 : News s.heap s.heap.objs.size _ _ := N1
    rw [show ps.filter (fun _ => true) = ps from List.filter_eq_self.mpr (fun _ _ => rfl)] at hys
    have hyl := hys.length
    with_reducible rename (_ = Data.cell _) => hcell
    walk_at "mine go"
    refine comp_enter [(Str.ofString "address", s.heap.objs.size + 1)] (fun _ => rfl) rfl rfl (by decide) ?_
    walk_at "mine go"
    with_reducible rename Fr _ _ _ _ => F2
    with_reducible rename News _ _ _ _ => N2
    have hcg := (N2 _ (.tail _ (.head _))).1
    refine CompAt.names (as := ps) (fun p v => SV p.2 v) (fun p v => SV p.2 v) (fun p => decide (p.2 < b)) hh (by decide) rfl rfl ⟨_, (N2 _ (.head _)).1, rfl, k, rfl⟩ hys (by omega) ?_ ?_ ?_
    · rintro ⟨r, a⟩ v C s₂ m₂ E' ha ⟨h, tk, rfl⟩ hn ⟨t1, rfl⟩ h1 hk
      have hc2 := hk _ _ hcg
      refine wpAny_tests_one ?_
      walk_at "mine go"
      · exact keeps_of (s := { s with heap := h, toks := _ }) fun _ _ e => e
    · rintro ⟨r, a⟩ v C s₂ m₂ E' ha hp ⟨h, tk, rfl⟩ hn ⟨t1, rfl⟩ h1 hk
      walk_at "mine go"
      · exact ⟨t1, rfl⟩
      · exact keeps_of (s := { s with heap := h, toks := _ }) fun _ _ e => e
    · refine compDone_fr F2 N2 fun D2 ys2 k2 h2 tk2 hD2 hkk2 hys2 F3 N3 => ?_
      clear F2 N2
      have hyl2 := hys2.length
      have hfl := List.length_filter_le (fun p : Int × List Nat => decide (p.2 < b)) ps
      have hsz2 : ys2.length ≤ 1000 := by omega
      walk_at "mine go"
      · refine comp_enter [(Str.ofString "address", s.heap.objs.size + 1)] (fun _ => rfl) rfl rfl (by decide) ?_
        walk_at "mine go"
        with_reducible rename Fr _ _ _ _ => F4
        with_reducible rename News _ _ _ _ => N4
        have hcg := (N4 _ (.tail _ (.tail _ (.head _)))).1
        refine CompAt.names (as := ps) (fun p v => SV p.2 v) (fun p v => SV p.2 v) (fun p => decide (p.2.take b.length = b)) hh (by decide) rfl rfl ⟨_, (N4 _ (.tail _ (.head _))).1, rfl, k, rfl⟩ hys (by omega) ?_ ?_ ?_
        · rintro ⟨r, a⟩ v C s₂ m₂ E' ha ⟨h, tk, rfl⟩ hn ⟨t1, rfl⟩ h1 hk
          have hc2 := hk _ _ hcg
          have hbk : Mine.Keeps s.heap h := fun b o e => hk b o (F4.keep b o e)
          refine wpAny_tests_one ?_
          walk_at "mine go"
          refine P.len_str (by rw [ofL_length]; omega) ?_
          walk_at "mine go"
          refine slice_nsK (s := { s with heap := h, toks := _ }) (base := h) (fun _ _ e => e) ?_ (hsz := by rw [ofL_length]; have := hle _ ha; simp only at this; omega)
          intro h3 t3 k3 hk3
          have hn3 := Heap.Ns.keeps hn hk3
          have hc3 := hk3 _ _ hc2
          walk_at "mine go"
          · cases heq : (Txt.slice (ofL a) none (some ((ofL b).length : Int)) == ofL b)
            · exact (decide_eq_false (take_ne (by rw [ofL_length]) heq)).symm
            · exact (decide_eq_true (take_eq (by rw [ofL_length]) heq)).symm
          · exact keeps_of (s := { s with heap := h, toks := _ }) hk3
        · rintro ⟨r, a⟩ v C s₂ m₂ E' ha hp ⟨h, tk, rfl⟩ hn ⟨t1, rfl⟩ h1 hk
          walk_at "mine go"
          · exact ⟨t1, rfl⟩
          · exact keeps_of (s := { s with heap := h, toks := _ }) fun _ _ e => e
        · refine compDone_fr F4 N4 fun D3 ys3 k3 h3 tk3 hD3 hkk3 hys3 F5 N5 => ?_
          clear F4 N4
          have hyl3 := hys3.length
          have hfl3 := List.length_filter_le (fun p : Int × List Nat => decide (p.2.take b.length = b)) ps
          have hsz3 : ys3.length ≤ 1000 := by omega
          walk_at "mine go"
          with_reducible rename (Int.fmod _ _ = _) => hodd
          have hN' : (lastN ps rest b : Int) = ys2.toArray.size + ys3.toArray.size := by
            unfold lastN
            rw [if_pos hodd, List.size_toArray, List.size_toArray, ← hyl2, ← hyl3]
            rfl
          with_reducible rename Fr _ _ _ _ => F9
          refine slice_ssK (s := { s with heap := _, toks := _ }) (base := s.heap) F9.keep ?_ (hsz := by rw [ofL_length, rotL_len]; omega)
          intro h9 t9 k9 hk9
          rw [last_slice hN (by rw [hN'])]
          walk_at "mine go"
          subst hQ'
          exact hQ _ _ _ hk9
      · with_reducible rename (¬ (Int.fmod _ _ = _)) => hodd
        have hN' : (lastN ps rest b : Int) = ys2.toArray.size := by
          unfold lastN
          rw [if_neg hodd, List.size_toArray, ← hyl2]
          rfl
        with_reducible rename Fr _ _ _ _ => F9
        refine slice_ssK (s := { s with heap := _, toks := _ }) (base := s.heap) F9.keep ?_ (hsz := by rw [ofL_length, rotL_len]; omega)
        intro h9 t9 k9 hk9
        rw [last_slice hN (by rw [hN'])]
        walk_at "mine go"
        subst hQ'
        exact hQ _ _ _ hk9
end
end Mine
end

section
open PySem PySem.W PyProof.Rows PySem.Calls
namespace Mine
theorem All2.append {α β : Type} {F : α → β → Prop} : ∀ {a b : List α} {x y : List β}, All2 F a x → All2 F b y → All2 F (a ++ b) (x ++ y)
  | _, _, _, _, .nil, h => h
  | _, _, _, _, .cons h1 t, h => .cons h1 (All2.append t h)
theorem All2.map {α γ β : Type} {F : α → β → Prop} {G : γ → β → Prop} {f : α → γ} (hf : ∀ a b, F a b → G (f a) b) : ∀ {l : List α} {m : List β}, All2 F l m → All2 G (l.map f) m
  | _, _, .nil => .nil
  | _, _, .cons h t => .cons (hf _ _ h) (All2.map hf t)
theorem All2.split {α β : Type} {F : α → β → Prop} : ∀ {a b : List α} {x : List β}, All2 F (a ++ b) x → ∃ y z, x = y ++ z ∧ All2 F a y ∧ All2 F b z
  | [], b, x, h => ⟨[], x, rfl, .nil, h⟩
  | a :: as, b, _, .cons h t => by
    obtain ⟨y, z, rfl, h1, h2⟩ := All2.split t
    exact ⟨_ :: y, z, rfl, .cons h h1, h2⟩
theorem pick_upto {vs : List Value} {n : Nat} (h : n ≤ vs.length) : slicePick vs.toArray none (some (n : Int)) none = (vs.take n).toArray := by
  have e : sliceBounds none (some (n : Int)) none vs.toArray.size = (((0 : Nat) : Int), (n : Int), 1) := by
    simp only [sliceBounds, Option.getD_none, show (1 : Int) > 0 by decide, if_true, if_neg (show ¬ ((n : Int) < 0) by omega), List.size_toArray]
    congr 2
    omega
  rw [kmk_pick_nat _ e]
  rfl
theorem pick_from {vs : List Value} {n : Nat} (h : n ≤ vs.length) : slicePick vs.toArray (some (n : Int)) none none = (vs.drop n).toArray := by
  have e : sliceBounds (some (n : Int)) none none vs.toArray.size = ((n : Int), (vs.length : Int), 1) := by
    simp only [sliceBounds, Option.getD_none, show (1 : Int) > 0 by decide, if_true, if_neg (show ¬ ((n : Int) < 0) by omega), List.size_toArray]
    congr 2
    omega
  rw [kmk_pick_nat _ e]
  show ((vs.drop n).take _).toArray = _
  rw [List.take_of_length_le (by rw [List.length_drop]; omega)]
theorem pick_mid {vs : List Value} {n : Nat} (h : n + 1 ≤ vs.length) : slicePick vs.toArray (some (n : Int)) (some (-1)) none = ((vs.drop n).take (vs.length - 1 - n)).toArray := by
  have e : sliceBounds (some (n : Int)) (some (-1)) none vs.toArray.size = ((n : Int), ((vs.length - 1 : Nat) : Int), 1) := by
    simp only [sliceBounds, Option.getD_none, show (1 : Int) > 0 by decide, if_true, if_neg (show ¬ ((n : Int) < 0) by omega), List.size_toArray]
    congr 1
    · omega
    · congr 1
      rw [if_pos (by decide)]
      omega
  rw [kmk_pick_nat _ e]
theorem pick_mid3 (a b c d : Value) (vm : List Value) : slicePick (a :: b :: c :: (vm ++ [d])).toArray (some 3) (some (-1)) none = vm.toArray := by
  have := pick_mid (vs := a :: b :: c :: (vm ++ [d])) (n := 3) (by simp)
  rw [show ((3 : Nat) : Int) = 3 from rfl] at this
  rw [this]
  congr 1
  show (vm ++ [d]).take _ = vm
  rw [show (a :: b :: c :: (vm ++ [d])).length - 1 - 3 = vm.length by simp]
  exact List.take_left
theorem pick_upto3 (a b c : Value) (vm : List Value) : slicePick (a :: b :: c :: vm).toArray none (some 3) none = [a, b, c].toArray := pick_upto (vs := a :: b :: c :: vm) (n := 3) (by simp)
theorem pick_upto1 (a : Value) (vm : List Value) : slicePick (a :: vm).toArray none (some 1) none = [a].toArray := pick_upto (vs := a :: vm) (n := 1) (by simp)
theorem pick_from1 (a : Value) (vm : List Value) : slicePick (a :: vm).toArray (some 1) none none = vm.toArray := pick_from (vs := a :: vm) (n := 1) (by simp)
theorem item_neg1 (a b c d : Value) (vm : List Value) : (a :: b :: c :: (vm ++ [d])).toArray[(-1 + ((a :: b :: c :: (vm ++ [d])).toArray.size : Int)).toNat]? = some d := by
  have : (-1 + ((a :: b :: c :: (vm ++ [d])).toArray.size : Int)).toNat = vm.length + 3 := by simp; omega
  rw [this]
  simp
/-- with the margin set ahead -/
def setIn (c : Nat) (r0 r1 r2 : List Nat) (mid : List (List Nat)) (last : List Nat) : List (List Nat) :=
  [r0, r1, r2].map (fun r => List.replicate (c + 1) 32 ++ r) ++ mid.map (fun r => List.replicate c 32 ++ r) ++ [List.replicate (c + 1) 32 ++ last]
def cutL (r0 r1 r2 : List Nat) (mid : List (List Nat)) (last : List Nat) : List (List Nat) := r0 :: r1 :: r2 :: (mid.map List.tail ++ [last])
end Mine
end

section
open PySem PySem.W PyProof.Rows PySem.Calls
namespace Mine
/-- the rows, a return behind each but the last -/
def crs : List (List Nat) → List (List Nat)
  | [] => []
  | [x] => [x]
  | x :: y :: r => (x ++ [13]) :: crs (y :: r)
theorem joinL_crs : ∀ rs : List (List Nat), joinL [10] (crs rs) = joinL [13, 10] rs
  | [] => rfl
  | [x] => rfl
  | x :: y :: r => by
    have ih := joinL_crs (y :: r)
    rw [crs, joinL, ← ih]
    cases r with
    | nil => simp [crs, joinL]
    | cons z r => rw [crs, joinL]; simp
theorem crs_len : ∀ rs : List (List Nat), (crs rs).length = rs.length
  | [] => rfl
  | [x] => rfl
  | x :: y :: r => by rw [crs, List.length_cons, crs_len (y :: r)]; rfl
theorem crs_ne {rs : List (List Nat)} (h : rs ≠ []) : crs rs ≠ [] := fun e => h (List.eq_nil_of_length_eq_zero (by rw [← crs_len, e]; rfl))
theorem crs_mem : ∀ {rs : List (List Nat)} {y : List Nat}, y ∈ crs rs → ∃ x ∈ rs, y = x ∨ y = x ++ [13]
  | [], _, h => by cases h
  | [x], y, h => ⟨x, .head _, .inl (List.mem_singleton.mp h)⟩
  | x :: z :: r, y, h => by
    rw [crs] at h
    rcases List.mem_cons.mp h with rfl | h
    · exact ⟨x, .head _, .inr rfl⟩
    · obtain ⟨q, hq, e⟩ := crs_mem h
      exact ⟨q, .tail _ hq, e⟩
abbrev CutTo (p : Nat) (x y : List Nat) : Prop := p ≤ x.length ∧ x.drop p = y
theorem drop_cut {p : Nat} : ∀ {xs ys : List (List Nat)}, All2 (CutTo p) xs ys → xs.map (·.drop p) = ys
  | _, _, .nil => rfl
  | _, _, .cons h t => by rw [List.map_cons, drop_cut t, h.2]
theorem drop_crs {p : Nat} : ∀ {xs ys : List (List Nat)}, All2 (CutTo p) xs ys → (crs xs).map (·.drop p) = crs ys
  | _, _, .nil => rfl
  | _, _, .cons h .nil => by simp [crs, h.2]
  | _, _, .cons h (.cons h2 t) => by
    have ih := drop_crs (.cons h2 t)
    rw [crs, crs, List.map_cons, ih, List.drop_append_of_le_length h.1, h.2]
theorem cut_in {c n : Nat} (r : List Nat) (h : n = c) : CutTo n (List.replicate c 32 ++ r) r := by
  subst h
  exact ⟨by simp, by simp⟩
theorem cut_mid {c : Nat} : ∀ {mid : List (List Nat)}, (∀ r ∈ mid, r ≠ []) → All2 (CutTo (c + 1)) (mid.map fun r => List.replicate c 32 ++ r) (mid.map List.tail)
  | [], _ => .nil
  | [] :: _, h => absurd rfl (h _ (.head _))
  | (d :: r) :: mid, h => .cons ⟨by simp, by
      show (List.replicate c 32 ++ d :: r).drop (c + 1) = r
      rw [← List.drop_drop, List.drop_left' (by simp)]; rfl⟩ (cut_mid fun q hq => h q (.tail _ hq))
theorem cut_all {c : Nat} {r0 r1 r2 last : List Nat} {mid : List (List Nat)} (h : ∀ r ∈ mid, r ≠ []) : All2 (CutTo (c + 1)) (setIn c r0 r1 r2 mid last) (cutL r0 r1 r2 mid last) := by
  unfold setIn cutL
  refine All2.append (All2.append (a := [_, _, _]) (x := [r0, r1, r2]) (.cons (cut_in _ rfl) (.cons (cut_in _ rfl) (.cons (cut_in _ rfl) .nil))) (cut_mid h)) (.cons (cut_in _ rfl) .nil)
theorem setIn_mem {c : Nat} {r0 r1 r2 last : List Nat} {mid : List (List Nat)} {y : List Nat} (h : y ∈ setIn c r0 r1 r2 mid last) :
    ∃ n x, n ≤ c + 1 ∧ x ∈ r0 :: r1 :: r2 :: (mid ++ [last]) ∧ y = List.replicate n 32 ++ x := by
  unfold setIn at h
  simp only [List.mem_append, List.mem_map, List.mem_cons, List.not_mem_nil, or_false] at h
  rcases h with (⟨x, hx, rfl⟩ | ⟨x, hx, rfl⟩) | rfl
  · refine ⟨c + 1, x, Nat.le_refl _, ?_, rfl⟩
    rcases hx with rfl | rfl | rfl
    · exact .head _
    · exact .tail _ (.head _)
    · exact .tail _ (.tail _ (.head _))
  · exact ⟨c, x, Nat.le_succ _, .tail _ (.tail _ (.tail _ (List.mem_append_left _ hx))), rfl⟩
  · exact ⟨c + 1, last, Nat.le_refl _, .tail _ (.tail _ (.tail _ (List.mem_append_right _ (.head _)))), rfl⟩
theorem setIn_free {c : Nat} {r0 r1 r2 last : List Nat} {mid : List (List Nat)} (h : Free (r0 :: r1 :: r2 :: (mid ++ [last]))) : Free (setIn c r0 r1 r2 mid last) := by
  intro y hy d hd
  obtain ⟨n, x, _, hx, rfl⟩ := setIn_mem hy
  rcases List.mem_append.mp hd with hd | hd
  · rw [(List.mem_replicate.mp hd).2]; decide
  · exact h x hx d hd
theorem setIn_len {c : Nat} {r0 r1 r2 last : List Nat} {mid : List (List Nat)} : (setIn c r0 r1 r2 mid last).length = mid.length + 4 := by
  unfold setIn; simp
theorem setIn_small {c : Nat} {r0 r1 r2 last : List Nat} {mid : List (List Nat)} (hc : c ≤ 2) (hl : mid.length ≤ 15) (h : ∀ r ∈ r0 :: r1 :: r2 :: (mid ++ [last]), r.length ≤ 190) : Small (setIn c r0 r1 r2 mid last) where
  len := by rw [setIn_len]; omega
  each := fun y hy => by
    obtain ⟨n, x, hn, hx, rfl⟩ := setIn_mem hy
    have := h x hx
    rw [List.length_append, List.length_replicate]
    omega
theorem setIn_cons (c : Nat) (r0 r1 r2 : List Nat) (mid : List (List Nat)) (last : List Nat) : ∃ y ys, setIn c r0 r1 r2 mid last = (List.replicate (c + 1) 32 ++ r0) :: y :: ys := ⟨_, _, rfl⟩
theorem cutL_free {r0 r1 r2 last : List Nat} {mid : List (List Nat)} (h : Free (r0 :: r1 :: r2 :: (mid ++ [last]))) : Free (cutL r0 r1 r2 mid last) := by
  intro y hy d hd
  unfold cutL at hy
  simp only [List.mem_cons, List.mem_append, List.mem_map, List.not_mem_nil, or_false] at hy
  rcases hy with rfl | rfl | rfl | ⟨x, hx, rfl⟩ | rfl
  · exact h _ (.head _) d hd
  · exact h y (.tail _ (.head _)) d hd
  · exact h y (.tail _ (.tail _ (.head _))) d hd
  · exact h x (.tail _ (.tail _ (.tail _ (List.mem_append_left _ hx)))) d (List.mem_of_mem_tail hd)
  · exact h y (.tail _ (.tail _ (.tail _ (List.mem_append_right _ (.head _))))) d hd
end Mine
end

section
open PySem PySem.W PyProof.Rows PySem.Calls
namespace Mine
section
variable {prog : Program} {w : World} {A : Around} {E : Value → Shared → Prop} {s : Shared}
theorem item_last {value slice : PySem.Expr} {l : Addr} {ops : List Value} {a b c d : Value} {vm : List Value} {u : Tok} {Q : Value → Shared → Prop} (hl : s.heap.IsList l (a :: b :: c :: (vm ++ [d])).toArray) (h : Q d s) (hsz : vm.length ≤ 1000)
    (hs : subscripted slice false (.ref l) (.int (-1) u) = operate ops (getItem (.ref l) (.int (-1) u))) (hg : ∀ r, letTemporaryGo value (.ref l) r = pure ()) :
    wpAny (model prog w) A (subscriptTail value slice (.ref l) (.int (-1) u)) Q E s :=
  subscriptTail_ops (Heap.IsList.typeIs hl) list_getitem_lookup (wpAny_getItem_list_neg hl (by decide) (by simp; omega) (by decide) (item_neg1 a b c d vm) h) hs hg
end
end Mine
end

section
open PySem PySem.W PyProof.Rows PySem.Calls
namespace Mine
section
variable {c : Nat} {c0 : Nat} {r0 r1 r2 last r0t : List Nat} {mid : List (List Nat)}
theorem setIn_ne : setIn c r0 r1 r2 mid last ≠ [] := by
  intro e
  have := congrArg List.length e
  rw [setIn_len] at this
  simp at this
theorem cutL_ne : cutL r0 r1 r2 mid last ≠ [] := List.cons_ne_nil _ _
theorem setIn_each (hc : c ≤ 2) (h : ∀ r ∈ r0 :: r1 :: r2 :: (mid ++ [last]), r.length ≤ 190) : ∀ y ∈ setIn c r0 r1 r2 mid last, y.length ≤ 195 := by
  intro y hy
  obtain ⟨n, x, hn, hx, rfl⟩ := setIn_mem hy
  have := h x hx
  rw [List.length_append, List.length_replicate]
  omega
theorem cut_even (hr0 : r0 = c0 :: r0t) (hfr : Free (r0 :: r1 :: r2 :: (mid ++ [last]))) (hmne : ∀ r ∈ mid, r ≠ []) (hml : mid.length ≤ 15) (hle : ∀ r ∈ r0 :: r1 :: r2 :: (mid ++ [last]), r.length ≤ 190) (hc : c ≤ 2) (count : Int) :
    ∃ rest, Txt.split (ofL (subEnds (typedL (setIn c r0 r1 r2 mid last) count))) (Str.ofString "\n") = ((List.replicate (c + 1) 32 ++ c0 :: (r0t ++ [13])) :: rest).map ofL ∧ rest.length ≤ 50 ∧
      (∀ y ∈ (List.replicate (c + 1) 32 ++ c0 :: (r0t ++ [13])) :: rest, y.length ≤ 300) ∧
      joinL [10] (((List.replicate (c + 1) 32 ++ c0 :: (r0t ++ [13])) :: rest).map (·.drop (c + 1))) = joinL [13, 10] (cutL r0 r1 r2 mid last) := by
  have hF : Free (setIn c r0 r1 r2 mid last) := setIn_free hfr
  obtain ⟨y, ys, hcons⟩ := setIn_cons c r0 r1 r2 mid last
  have hcr : crs (setIn c r0 r1 r2 mid last) = (List.replicate (c + 1) 32 ++ c0 :: (r0t ++ [13])) :: crs (y :: ys) := by
    rw [hcons, crs, hr0]
    simp
  refine ⟨crs (y :: ys), ?_, ?_, ?_, ?_⟩
  · rw [subEnds_typed count hF (by rw [setIn_len]; omega), ← joinL_crs, ← hcr, nl_is]
    refine split_join_rows (crs_ne setIn_ne) ?_ (by decide)
    intro r hr h10
    obtain ⟨x, hx, e⟩ := crs_mem hr
    rcases e with rfl | rfl
    · exact (hF _ hx 10 h10).2 rfl
    · rcases List.mem_append.mp h10 with h | h
      · exact (hF _ hx 10 h).2 rfl
      · simp at h
  · have h1 := crs_len (setIn c r0 r1 r2 mid last)
    rw [hcr, setIn_len, List.length_cons] at h1
    omega
  · rw [← hcr]
    intro z hz
    obtain ⟨x, hx, e⟩ := crs_mem hz
    have := setIn_each hc hle x hx
    rcases e with rfl | rfl
    · omega
    · rw [List.length_append, List.length_singleton]; omega
  · rw [← hcr, drop_crs (cut_all hmne), joinL_crs]
theorem cut_odd (hr0 : r0 = c0 :: r0t) (hfr : Free (r0 :: r1 :: r2 :: (mid ++ [last]))) (hmne : ∀ r ∈ mid, r ≠ []) (hml : mid.length ≤ 15) (hle : ∀ r ∈ r0 :: r1 :: r2 :: (mid ++ [last]), r.length ≤ 190) (hc : c ≤ 2) :
    ∃ rest, Txt.split (ofL (joinL [10] (setIn c r0 r1 r2 mid last))) (Str.ofString "\n") = ((List.replicate (c + 1) 32 ++ c0 :: r0t) :: rest).map ofL ∧ rest.length ≤ 50 ∧
      (∀ y ∈ (List.replicate (c + 1) 32 ++ c0 :: r0t) :: rest, y.length ≤ 300) ∧
      joinL [10] (((List.replicate (c + 1) 32 ++ c0 :: r0t) :: rest).map (·.drop (c + 1))) = joinL [10] (cutL r0 r1 r2 mid last) := by
  have hF : Free (setIn c r0 r1 r2 mid last) := setIn_free hfr
  obtain ⟨y, ys, hcons⟩ := setIn_cons c r0 r1 r2 mid last
  rw [hr0] at hcons
  refine ⟨y :: ys, ?_, ?_, ?_, ?_⟩
  · rw [← hcons, nl_is, hr0]
    exact split_join_rows setIn_ne (free10 (hr0 ▸ hF)) (by decide)
  · have h1 := congrArg List.length hcons
    rw [setIn_len, List.length_cons] at h1
    omega
  · rw [← hcons]
    intro z hz
    have := setIn_each hc hle z (hr0 ▸ hz)
    omega
  · rw [← hcons, ← hr0, drop_cut (cut_all hmne)]
theorem cut_split2 (hfr : Free (r0 :: r1 :: r2 :: (mid ++ [last]))) : Txt.split (ofL (joinL [13, 10] (cutL r0 r1 r2 mid last))) (Str.ofString "\r\n") = (cutL r0 r1 r2 mid last).map ofL := by
  rw [crlf_is]
  exact split_join_rows cutL_ne (free13 (cutL_free hfr)) (by decide)
theorem cut_split1 (hfr : Free (r0 :: r1 :: r2 :: (mid ++ [last]))) : Txt.split (ofL (joinL [10] (cutL r0 r1 r2 mid last))) (Str.ofString "\n") = (cutL r0 r1 r2 mid last).map ofL := by
  rw [nl_is]
  exact split_join_rows cutL_ne (free10 (cutL_free hfr)) (by decide)
theorem cutL_small (hml : mid.length ≤ 15) (hle : ∀ r ∈ r0 :: r1 :: r2 :: (mid ++ [last]), r.length ≤ 190) : Small (cutL r0 r1 r2 mid last) where
  len := by unfold cutL; simp; omega
  each := by
    intro y hy
    unfold cutL at hy
    simp only [List.mem_cons, List.mem_append, List.mem_map, List.not_mem_nil, or_false] at hy
    rcases hy with rfl | rfl | rfl | ⟨x, hx, rfl⟩ | rfl
    · have := hle _ (.head _); omega
    · have := hle _ (.tail _ (.head _)); omega
    · have := hle _ (.tail _ (.tail _ (.head _))); omega
    · have := hle x (.tail _ (.tail _ (.tail _ (List.mem_append_left _ hx))))
      rw [List.length_tail]; omega
    · have := hle y (.tail _ (.tail _ (.tail _ (List.mem_append_right _ (.head _))))); omega
theorem setIn_strs {ys1 ys2 : List Value} {t : Tok} (h1 : All2 (fun r v => SV (List.replicate (c + 1) 32 ++ r) v) [r0, r1, r2] ys1) (h2 : All2 (fun r v => SV (List.replicate c 32 ++ r) v) mid ys2) :
    StrsAre (ys1 ++ ys2 ++ [.str (ofL (List.replicate c 32) ++ Str.ofString " " ++ ofL last) t]) ((setIn c r0 r1 r2 mid last).map ofL) := by
  refine strs_all2 ?_
  unfold setIn
  refine All2.append (All2.append (All2.map (f := fun r => List.replicate (c + 1) 32 ++ r) (fun _ _ h => h) h1) (All2.map (f := fun r => List.replicate c 32 ++ r) (fun _ _ h => h) h2)) (.cons ⟨t, ?_⟩ .nil)
  rw [sp_is, ← ofL_append, ← ofL_append, ← List.replicate_succ']
end
end Mine
end

section
open PySem PySem.W PyProof.Rows PySem.Calls
set_option maxHeartbeats 4000000
namespace Mine

local macro_rules | `(tactic| walk_at "getMethod ref") => `(tactic| (k_here; (with_reducible show wpAny _ _ (getMethod (Value.ref _) (PySem.Str.ofString "sub") _) _ _ _); k_dflt (first | refine getMethod_pat (pat43 (by k_in)) ?_ | refine getMethod_pat (pat53 (by k_in)) ?_ | refine getMethod_pat (pat48 (by k_in)) ?_)))
local macro_rules | `(tactic| walk_at "mine kept") => `(tactic| ((with_reducible rename Mine.Keeps _ _ => kk0); (with_reducible rename Fr _ _ _ _ => kF0); (with_reducible rename News _ _ _ _ => kN0); k_dflt ((have F' := Fr.keeps kF0 kk0); (have N' := News.grown kN0 kk0)); clear kk0; (try k_sweep)))

local macro_rules | `(tactic| walk_at "exec For") => `(tactic| (k_here; refine stop ?_))
local macro_rules | `(tactic| walk_at "exec For Name") => `(tactic| (k_here; refine stop ?_))
local macro_rules | `(tactic| walk_at "exec For Name Call cons nil") => `(tactic| (k_here; refine stop ?_))
local macro_rules | `(tactic| walk_at "exec For Tuple") => `(tactic| (k_here; refine stop ?_))
local macro_rules | `(tactic| walk_at "pyIter") => `(tactic| (k_here; refine stop ?_))
local macro_rules | `(tactic| walk_at "pyIter str") => `(tactic| (k_here; refine stop ?_))
local macro_rules | `(tactic| walk_at "pyIter ref") => `(tactic| (k_here; refine stop ?_))
local macro_rules | `(tactic| walk_at "eval ListComp") => `(tactic| (k_here; refine stop ?_))
local macro_rules | `(tactic| walk_at "call ref") => `(tactic| (k_here; plain_pass; refine stop ?_))

local macro_rules | `(tactic| walk_at "call type:enumerate") => `(tactic| (k_here; refine stop ?_))
local macro_rules | `(tactic| walk_at "exec For Tuple Call cons nil") => `(tactic| (k_here; refine stop ?_))
local macro_rules | `(tactic| walk_at "exec For Tuple Call") => `(tactic| (k_here; refine stop ?_))

local macro_rules | `(tactic| walk_at "setItem ref int") => `(tactic| (k_here; refine stop ?_))

local macro_rules | `(tactic| walk_at "call builtin:str.encode") => `(tactic| (k_here; refine stop ?_))
local macro_rules | `(tactic| walk_at "call builtin:bytes.decode") => `(tactic| (k_here; refine stop ?_))
local macro_rules | `(tactic| walk_at "call builtin:str.join") => `(tactic| (k_here; refine stop ?_))
local macro_rules | `(tactic| walk_at "getMethod str") => `(tactic| (k_here; k_dflt (with_reducible refine Co.getMethod_enc ?_)))

local macro_rules | `(tactic| walk_at "exec Assign cons ListComp") => `(tactic| (k_here; refine stop ?_))

local macro_rules | `(tactic| walk_at "subscriptTail Name Slice ref ref") => `(tactic| (k_here; refine stop ?_))
local macro_rules | `(tactic| walk_at "call builtin:sum") => `(tactic| (k_here; refine stop ?_))

local macro_rules | `(tactic| walk_at "eval Name") => `(tactic| (k_dflt (first
  | (refine' blockName ?a ?b ?c ?d ?_ ?e; (case a => exact rfl); (case b => exact rfl); (case c => assumption); (case d => assumption); (case e => decide))
  | (refine' blockCell ?a ?b ?c ?d ?f ?_ ?e; (case a => exact rfl); (case b => exact rfl); (case c => exact rfl); (case d => assumption); (case f => assumption); (case e => decide)))))

local macro_rules | `(tactic| walk_at "eval Name") => `(tactic| (k_dflt (first
  | (refine' blockGlobal ?k1 ?k2 ?k3 ?k4 ?_ ?g ?a ?b ?c; (case k1 => assumption); (case k2 => assumption); (case k3 => assumption); (case k4 => k_is); (case g => rfl); (case a => rfl); (case b => rfl); (case c => decide))
  | (refine' blockBuilt ?k1 ?k2 ?k3 ?k4 ?v ?n ?_ ?g ?g2 ?a ?b ?c; (case k1 => assumption); (case k2 => assumption); (case k3 => assumption); (case k4 => k_is); (case v => rfl); (case n => decide); (case g => rfl); (case g2 => rfl); (case a => rfl); (case b => rfl); (case c => decide)))))

local macro_rules | `(tactic| walk_at "mine side") => `(tactic| ((case X => exact Rdy.X (by assumption)); (case hl => exact Rdy.nolimit (by assumption)); (case ho => k_is); (case hcd => k_is); (case hr => omega); (case hb => exact BindsTo.of_eq rfl); (case c5 => decide); (case hloc => exact locs rfl); (case c2 => exact rfl); (case c3 => exact rfl); (case c4 => exact rfl)))
local macro_rules | `(tactic| walk_at "mine go") => `(tactic| repeat' (first | (k_unfold; (try dsimp only)) | (walk1; (try dsimp only)) | fail "no step"))

local macro_rules | `(tactic| walk_at "mine sideC") => `(tactic| ((case X => exact Rdy.X (by assumption)); (case hl => exact Rdy.nolimit (by assumption)); (case ho => k_is); (case hcd => k_is); (case hr => omega); (case hb => exact BindsTo.of_eq rfl); (case hkd => exact rfl); (case hnd => decide +kernel); (case c2 => exact rfl); (case c3 => exact rfl); (case c4 => exact rfl)))
section
variable {prog : Program} {w : World} {A : Around} {s : Shared} {E : Value → Shared → Prop} {Q : Value → Shared → Prop}

local macro_rules | `(tactic| walk_at "mine ready") => `(tactic| exact ⟨by k_in, _, _, _, Top.keeps (by k_asm) (Fr.keep (by k_asm))⟩)
local macro_rules | `(tactic| walk_at "mine depth") => `(tactic| (simp only [depth_deeper]; omega))
local macro_rules | `(tactic| walk_at "mine list") => `(tactic| exact Heap.IsList.at (by assumption) (fun o e => Fr.keep (by assumption) _ _ e))

local macro_rules | `(tactic| walk_at "binaryOp Add ref ref") => `(tactic| (k_here; (with_reducible show wpAny _ _ (binaryOp _ (Value.ref _) (Value.ref _)) _ _ _); k_dflt (refine' add_lists ?F ?N ?a ?b ?_ ?z; (case F => k_asm); (case N => k_asm); (case a => exact News.isList (by k_asm) (by k_mem)); (case b => exact News.isList (by k_asm) (by k_mem)); (case z => (rw [sizeLine_eq]; (try simp only [List.length_append, List.length_cons, List.length_nil]); omega))); intro h' F' N'; (try k_sweep)))
theorem cut_spec {l : Addr} {u : Tok} {count : Int} {vs : List Value} {r0 r1 r2 last r0t : List Nat} {c0 : Nat} {mid : List (List Nat)} (R : Rdy w s.heap) (hdp : A.depth + 50 < recursionLimit) (hh : A.handled = none) (hlist : s.heap.IsList l vs.toArray) (hstrs : All2 SV (r0 :: r1 :: r2 :: (mid ++ [last])) vs) (hle : ∀ r ∈ r0 :: r1 :: r2 :: (mid ++ [last]), r.length ≤ 190) (hml : mid.length ≤ 15) (hmne : ∀ r ∈ mid, r ≠ []) (hfr : Free (r0 :: r1 :: r2 :: (mid ++ [last]))) (hr0 : r0 = c0 :: r0t) (hc0 : c0 ≠ 32)
   (hQ : ∀ D vs k h' tk', Keeps s.heap h' → s.heap.get? D = none → h'.get? D = some (lobj vs k) → StrsAre vs ((cutL r0 r1 r2 mid last).map ofL) → Q (.ref D) { s with heap := h', toks := tk' }) :
   wpAny (model prog w) A (call (.ref 119) [.ref l, .int count u]) Q E s := by
  k_dflt (refine' enterC (K := Mine.hd.heap_39 _) (binds := [(Str.ofString "rows", .ref l), (Str.ofString "count", .int count u)]) ?X ?hl ?ho ?hcd ?hr ?hb ?hkd ?hnd ?_ ?c2 ?c3 ?c4)
  walk_at "mine sideC"
  obtain ⟨X, T⟩ := R
  obtain ⟨mean, mg, mb, T⟩ := T
  intro h₁ tk cells F N Y
  k_cells Y
  generalize hQ' : (fun (fl : Flow) (s' : Shared) => Q (match fl with | .ret v => v | _ => .none) s') = Q'
  have hm0 := Int.fmod_nonneg_of_pos count (show (0 : Int) < 3 by decide)
  have hm1 := Int.fmod_lt_of_pos count (show (0 : Int) < 3 by decide)
  obtain ⟨c, hc⟩ : ∃ c : Nat, count.fmod 3 = (c : Int) := ⟨(count.fmod 3).toNat, by omega⟩
  have hc2 : c ≤ 2 := by omega
  have hmul : Txt.mul (Str.ofString " ") (count.fmod 3) = ofL (List.replicate c 32) := by rw [hc, sp_is, mul_one]
  have hmlen : (ofL (List.replicate c 32)).length ≤ 2 := by rw [ofL_length, List.length_replicate]; exact hc2
  have hle' : ∀ r ∈ r0 :: r1 :: r2 :: (mid ++ [last]), (ofL r).length ≤ 190 := fun r hr => by rw [ofL_length]; exact hle r hr
  cases hstrs with | cons hv0 hstrs => ?_
  cases hstrs with | cons hv1 hstrs => ?_
  cases hstrs with | cons hv2 hstrs => ?_
  rename_i v0 v1 v2 vs
  obtain ⟨vm, vl, rfl, hvm, hvl⟩ := hstrs.split
  cases hvl with | cons hvl hnil => ?_
  cases hnil
  rename_i vl
  have hvml := hvm.length
  walk_at "mine go"
  with_reducible rename (_ = Data.cell _) => hcell
  rw [hmul] at hcell
  refine comp_enter [(Str.ofString "margin", s.heap.objs.size + 1)] (fun _ => rfl) rfl rfl (by decide) ?_
  walk_at "mine go"
  with_reducible rename Fr _ _ _ _ => F0
  with_reducible rename News _ _ _ _ => N0
  refine slice_list (s := { s with heap := _, toks := _ }) F0 N0 (hlist.at fun o e => F0.keep _ _ e) .none (.int 3 _) ?_ (hsz := by rw [sizeLine_eq]; simp only [List.size_toArray, List.length_cons, List.length_append, List.length_nil]; omega)
  rw [pick_upto3]
  intro h1 F1 N1
  clear F0 N0
  have hcg := (N1 _ (.tail _ (.head _))).1
  refine CompAt.names SV (fun r v => SV (List.replicate (c + 1) 32 ++ r) v) (fun _ => true) hh (by decide) rfl rfl ⟨_, (N1 _ (.head _)).1, rfl, 0, rfl⟩ (.cons hv0 (.cons hv1 (.cons hv2 .nil))) (by simp) ?_ ?_ ?_
  · rintro r v C s₂ m₂ E' ha ⟨h, tk, rfl⟩ hn hv h1 hk
    exact wpAny_tests_nil ⟨rfl, _, _, rfl, fun _ _ e => e⟩
  · rintro r v C s₂ m₂ E' ha hp ⟨h, tk, rfl⟩ hn ⟨t1, rfl⟩ h1 hk
    have hc2 := hk _ _ hcg
    have hrl := hle' _ (List.mem_append_left (as := [r0, r1, r2]) _ ha)
    walk_at "mine go"
    · refine ⟨_, congrArg (fun z => Value.str z _) ?_⟩
      rw [sp_is, ← ofL_append, ← ofL_append, ← List.replicate_succ']
    · exact keeps_of (s := { s with heap := h, toks := _ }) fun _ _ e => e
  refine compDone_fr F1 N1 fun D1 ys1 k1 h1' tk1 hD1 hkk1 hys1 F1' N1' => ?_
  clear F1 N1 hcg
  have hyl1 := hys1.length
  rw [show List.filter (fun _ => true) [r0, r1, r2] = _ from List.filter_eq_self.mpr fun _ _ => rfl] at hyl1 hys1
  walk_at "mine go"
  refine comp_enter [(Str.ofString "margin", s.heap.objs.size + 1)] (fun _ => rfl) rfl rfl (by decide) ?_
  walk_at "mine go"
  with_reducible rename Fr _ _ _ _ => F0
  with_reducible rename News _ _ _ _ => N0
  refine slice_list (s := { s with heap := _, toks := _ }) F0 N0 (hlist.at fun o e => F0.keep _ _ e) (.int 3 _) (.int (-1) _) ?_ (hsz := by rw [sizeLine_eq]; simp only [List.size_toArray, List.length_cons, List.length_append, List.length_nil]; omega)
  rw [pick_mid3]
  intro h2 F2 N2
  clear F0 N0
  have hcg := (N2 _ (.tail _ (.tail _ (.head _)))).1
  refine CompAt.names SV (fun r v => SV (List.replicate c 32 ++ r) v) (fun _ => true) hh (by decide) rfl rfl ⟨_, (N2 _ (.head _)).1, rfl, 0, rfl⟩ hvm (by omega) ?_ ?_ ?_
  · rintro r v C s₂ m₂ E' ha ⟨h, tk, rfl⟩ hn hv h1 hk
    exact wpAny_tests_nil ⟨rfl, _, _, rfl, fun _ _ e => e⟩
  · rintro r v C s₂ m₂ E' ha hp ⟨h, tk, rfl⟩ hn ⟨t1, rfl⟩ h1 hk
    have hc2 := hk _ _ hcg
    have hrl := hle' _ (.tail _ (.tail _ (.tail _ (List.mem_append_left _ ha))))
    walk_at "mine go"
    · refine ⟨_, congrArg (fun z => Value.str z _) ?_⟩
      rw [← ofL_append]
    · exact keeps_of (s := { s with heap := h, toks := _ }) fun _ _ e => e
  refine compDone_fr F2 N2 fun D2 ys2 k2 h2' tk2 hD2 hkk2 hys2 F2' N2' => ?_
  clear F2 N2 hcg
  have hyl2 := hys2.length
  rw [show List.filter (fun _ => true) mid = _ from List.filter_eq_self.mpr fun _ _ => rfl] at hyl2 hys2
  walk_at "mine go"
  with_reducible rename Fr _ _ _ _ => F3
  obtain ⟨tl, rfl⟩ := hvl
  have hlen3 := hle' last (by simp)
  refine item_last (hlist.at fun o e => F3.keep _ _ e) ?_ (by omega) (by with_unfolding_all rfl) (by intro _; with_unfolding_all rfl)
  have hsm := setIn_small (r0 := r0) (r1 := r1) (r2 := r2) (last := last) hc2 hml hle
  have hpos : 0 < (setIn c r0 r1 r2 mid last).length := by rw [setIn_len]; omega
  have hsm2 := cutL_small hml hle
  have hj1 := joinSmall (sep := [13, 10]) hsm2 (by decide)
  have hj2 := joinSmall (sep := [10]) hsm2 (by decide)
  have hj3 := joinSmall (sep := [13, 10]) hsm (by decide)
  have hj4 := joinSmall (sep := [10]) hsm (by decide)
  have hx1 : (ofL (joinL [13, 10] (cutL r0 r1 r2 mid last))).length ≤ 100000 := by rw [ofL_length]; omega
  have hx2 : (ofL (joinL [10] (cutL r0 r1 r2 mid last))).length ≤ 100000 := by rw [ofL_length]; omega
  have htl : (typedL (setIn c r0 r1 r2 mid last) count).length ≤ 20000 := by have := typedL_le hsm count; omega
  have hse : (subEnds (typedL (setIn c r0 r1 r2 mid last) count)).length ≤ 20000 := by rw [subEnds_typed count (setIn_free hfr) hpos]; omega
  obtain ⟨rest1, hsp1, hrl1, hre1, hrj1⟩ := cut_even hr0 hfr hmne hml hle hc2 count
  obtain ⟨rest2, hsp2, hrl2, hre2, hrj2⟩ := cut_odd hr0 hfr hmne hml hle hc2
  walk_at "mine go"
  · with_reducible rename News _ _ _ _ => N5
    have hty : Heap.IsList _ _ _ := ⟨_, (N5 _ (.head _)).1, rfl, 0, rfl⟩
    have hts := fun t => setIn_strs (last := last) (t := t) hys1 hys2
    refine typed_spec (rows := setIn c r0 r1 r2 mid last) ?rr1 ?dd1 hh hty (hts _) hsm hpos ?_
    case rr1 => walk_at "mine ready"
    case dd1 => walk_at "mine depth"
    intro t' h' tk' kk'
    walk_at "mine kept"
    clear hty hts
    walk_at "mine go"
    refine fix_eols_spec ?rr2 ?dd2 htl ?_
    case rr2 => walk_at "mine ready"
    case dd2 => walk_at "mine depth"
    intro t' h' tk' kk'
    walk_at "mine kept"
    walk_at "mine go"
    refine dedent_spec ?rr3 ?dd3 hh hse hsp1 hc0 hrl1 hre1 ?_
    case rr3 => walk_at "mine ready"
    case dd3 => walk_at "mine depth"
    rw [hrj1]
    intro t' h' tk' kk'
    walk_at "mine kept"
    walk_at "mine go"
    with_reducible rename Fr _ _ _ _ => F9
    with_reducible rename News _ _ _ _ => N9
    with_reducible rename (List.map _ _ = Txt.split _ _) => hl
    with_reducible rename StrsAre (strValues _) _ => hst
    rw [hl, cut_split2 hfr] at hst
    subst hQ'
    exact hQ _ _ 0 _ _ F9.keep (N9 _ (.head _)).2.2 (N9 _ (.head _)).1 hst
  · with_reducible rename News _ _ _ _ => N5
    have hty : Heap.IsList _ _ _ := ⟨_, (N5 _ (.head _)).1, rfl, 0, rfl⟩
    have hts := fun t => setIn_strs (last := last) (t := t) hys1 hys2
    rw [nl_is]
    refine join_list (items := _) hty (hts _) (join_fits (n := 20) (B := 200) hsm.len hsm.each (by decide)) ?_
    rw [txt_join]
    intro t' tk'
    clear hty hts
    walk_at "mine go"
    refine dedent_spec ?rr4 ?dd4 hh (by omega) hsp2 hc0 hrl2 hre2 ?_
    case rr4 => walk_at "mine ready"
    case dd4 => walk_at "mine depth"
    rw [hrj2]
    intro t' h' tk' kk'
    walk_at "mine kept"
    walk_at "mine go"
    with_reducible rename Fr _ _ _ _ => F9
    with_reducible rename News _ _ _ _ => N9
    with_reducible rename (List.map _ _ = Txt.split _ _) => hl
    with_reducible rename StrsAre (strValues _) _ => hst
    rw [hl, ← nl_is, cut_split1 hfr] at hst
    subst hQ'
    exact hQ _ _ 0 _ _ F9.keep (N9 _ (.head _)).2.2 (N9 _ (.head _)).1 hst
end
end Mine
end

section
open PySem PySem.W PyProof.Rows PySem.Calls
namespace Mine
/-- trees of places: each hangs on one that is there, behind those that hang there -/
inductive Grown : Nat → List (Int × List Nat) → Prop
  | root (rest : Int) : Grown 1 [(rest, [])]
  | step {k : Nat} {ps : List (Int × List Nat)} (rest : Int) (q : Int × List Nat) : Grown k ps → q ∈ ps → Grown (k + 1) (ps ++ [(rest, q.2 ++ [48 + (belowL ps q.2).length])])
theorem Grown.len {k : Nat} {ps : List (Int × List Nat)} (h : Grown k ps) : ps.length = k := by
  induction h with
  | root => rfl
  | step rest q _ _ ih => rw [List.length_append, ih]; rfl
theorem Grown.depth {k : Nat} {ps : List (Int × List Nat)} (h : Grown k ps) : ∀ p ∈ ps, p.2.length < k := by
  induction h with
  | root rest => intro p hp; rw [List.mem_singleton.mp hp]; exact Nat.one_pos
  | step rest q _ hq ih =>
    intro p hp
    rcases List.mem_append.mp hp with hp | hp
    · have := ih p hp; omega
    · rw [List.mem_singleton.mp hp]
      have := ih q hq
      simp only [List.length_append, List.length_singleton]
      omega
theorem Grown.hangs {k : Nat} {ps : List (Int × List Nat)} (h : Grown k ps) (b : List Nat) : (belowL ps b).length < k := by
  have hr : ∃ r ps', ps = (r, []) :: ps' := by
    induction h with
    | root rest => exact ⟨rest, [], rfl⟩
    | step rest q _ _ ih => obtain ⟨r, ps', rfl⟩ := ih; exact ⟨r, _, rfl⟩
  obtain ⟨r, ps', rfl⟩ := hr
  have h1 := h.len
  rw [List.length_cons] at h1
  unfold belowL
  rw [List.length_map, List.filter_cons_of_neg (by simp)]
  have := List.length_filter_le (fun p : Int × List Nat => decide (p.2 ≠ [] ∧ p.2.dropLast = b)) ps'
  omega
theorem ints_some : ∀ (vs : List Value), (∀ v ∈ vs, ∃ n t, v = .int n t) → ∃ ns, IntsAre vs ns
  | [], _ => ⟨[], .nil⟩
  | v :: vs, h => by
    obtain ⟨n, t, rfl⟩ := h _ (.head _)
    obtain ⟨ns, i⟩ := ints_some vs fun v hv => h v (.tail _ hv)
    exact ⟨n :: ns, .cons n t i⟩
theorem ints_each : ∀ {vs : List Value} {ns : List Int}, IntsAre vs ns → ∀ v ∈ vs, ∃ n t, v = .int n t
  | _, _, .nil, _, h => by cases h
  | _, _, .cons n t i, v, h => by
    rcases List.mem_cons.mp h with rfl | h
    · exact ⟨n, t, rfl⟩
    · exact ints_each i v h
theorem pick_ints {vs : List Value} (i : ∀ v ∈ vs, ∃ n t, v = .int n t) (lo hi st : Option Int) : ∃ ms, IntsAre (slicePick vs.toArray lo hi st).toList ms := by
  refine ints_some _ fun v hv => i v ?_
  unfold slicePick at hv
  obtain ⟨j, _, hj⟩ := List.mem_filterMap.mp (by simpa using hv)
  exact List.mem_of_getElem? (by simpa using hj)
end Mine
end

section
open PySem PySem.W PyProof.Rows PySem.Calls
namespace Mine
section
variable {prog : Program} {w : World} {A : Around} {E : Value → Shared → Prop} {s : Shared} {env : Env} {h₀ : Heap} {x : Str} {body : List Stmt} {Q : Flow → Shared → Prop}
theorem iter_rangeO {r : Addr} {a₀ b₀ : Int} {t₀ u₀ v₀ : Tok} {n : Nat} {m₀ : Str → Option Value} {news : List (Addr × Obj)} (J : Nat → (Str → Option Value) → List (Addr × Obj) → Prop)
    (hh : A.handled = none) (hr : IsRange s.heap r a₀ b₀ 1 t₀ u₀ v₀) (hsmall : Builtin.Range.small a₀ b₀ 1 = true) (hn : Builtin.Range.rangeSize a₀ b₀ 1 = (n : Int)) (F : Fr h₀ env.locals s.heap m₀) (N : News h₀ env.locals s.heap news) (h0 : J 0 m₀ news)
    (turn : ∀ I i u h tk m₁ news₁ own, i < n → J i m₁ news₁ → (∀ p ∈ news₁, p.1 ∉ [I]) → (∀ p ∈ own, p.1 ∈ [I]) → (∃ oI, (I, oI) ∈ own ∧ oI.cls = .type "range_iterator") → Fr h₀ env.locals h (fun z => if z = x then some (.int (a₀ + (i : Nat)) u) else m₁ z) → News h₀ env.locals h (own ++ news₁) →
      wpAny (model prog w) A (execs body env) (TurnJ h₀ env.locals [I] own (J (i + 1)) Q { s with heap := h, toks := tk }) E { s with heap := h, toks := tk })
    (done : ∀ h tk m' news', Fr h₀ env.locals h m' → News h₀ env.locals h news' → J n m' news' → Q .next { s with heap := h, toks := tk }) :
    wpAny (model prog w) A (pyIter (.ref r)) (fun it s₂ => LoopAtV prog w A h₀ env x body Q E it s₂) E s := by
  refine wpAny_pyIter_range hr hsmall ?_
  have W : Walks prog w A s.heap.objs.size [s.heap.objs.size] [s.heap.objs.size] n (fun i v => i < n ∧ ∃ t, v = .int (a₀ + i * 1) t)
      (fun i h => IsRangeIter h s.heap.objs.size (a₀ + (i : Nat) * 1) ((n : Int) - (i : Nat)) 1) := (Walks.range hh _ a₀ 1 n).bound
  refine ⟨_, _, _, n, _, _, m₀, news, J, rfl, W, ?_, ?_, ?_, by show IsRangeIter _ _ _ _ _; rw [hn]; simpa using Heap.get?_push_size _ rfl, F.push _, fun p hp => ⟨Heap.get?_push_of_some _ (N p hp).1, (N p hp).2⟩, h0, ?_, fun h' tk m' news' F' N' _ hJ => done h' tk m' news' F' N' hJ⟩
  · intro hm
    exact absurd F.ns.lt ((List.mem_singleton.mp hm) ▸ Nat.lt_irrefl _)
  · intro b hb
    rw [List.mem_singleton.mp hb]
    exact next_is_new F
  · intro p hp hI
    exact absurd (Heap.lt_size (N p hp).1) ((List.mem_singleton.mp hI) ▸ Nat.lt_irrefl _)
  · rintro i v m₁ news₁ s₁ own ⟨hh', tk', rfl⟩ hin ⟨_, t, rfl⟩ hJ hoff hown _ hall hSt F₁ N₁
    rw [Int.mul_one] at F₁
    refine wpAny_mono (turn _ i t hh' tk' m₁ news₁ own hin hJ hoff hown ⟨_, hall _ (.head _) (next_is_new F) _ hSt, rfl⟩ F₁ N₁) (fun f s₂ p => ?_) fun _ _ e => e
    cases f with
    | ret v => exact .ret p
    | brk => exact .brk p
    | next => obtain ⟨h', tk, m', news', e, F', N', hn, hm⟩ := p; exact .next ⟨rfl, h', tk, m', news', e, F', N', hn, hm⟩
    | cont => obtain ⟨h', tk, m', news', e, F', N', hn, hm⟩ := p; exact .cont ⟨rfl, h', tk, m', news', e, F', N', hn, hm⟩
end
section
variable {prog : Program} {w : World} {A : Around} {E : Value → Shared → Prop} {s : Shared} {h₀ : Heap} {L : Addr} {m : Str → Option Value} {news : List (Addr × Obj)}
theorem append_N {D : Addr} {x : Value} {vs : List Value} {k : Nat} {Q : Value → Shared → Prop} (F : Fr h₀ L s.heap m) (N : News h₀ L s.heap news) (hm : (D, lobj vs k) ∈ news) (hsz : vs.length ≤ 1000)
    (h : ∀ h' k', Fr h₀ L h' m → News h₀ L h' (news.map fun p => if p.1 = D then (D, lobj (vs ++ [x]) k') else p) → Q .none { s with heap := h' }) :
    wpAny (model prog w) A (call (.builtin "list.append") [.ref D, x]) Q E s := by
  obtain ⟨g1, g2, g3⟩ := N _ hm
  refine wpAny_list_append_plain (hsz := by rw [sizeLine_eq, List.size_toArray]; omega) ⟨_, g1⟩ fun h₇ hl₇ hs₇ => ?_
  obtain ⟨k', hk'⟩ := hl₇
  refine h h₇ k' (F.change hs₇ g2 g3) (News.replace N hs₇ ?_)
  rw [hk']
  simp
end
/-- a place in the ledger -/
def PN (news : List (Addr × Obj)) (p : Int × List Nat) (v : Value) : Prop := ∃ b t t' n, v = .ref b ∧ (b, ({ cls := .type "tuple", data := .seq #[.int p.1 t, .str (ofL p.2) t'] n } : Obj)) ∈ news
theorem PN.mono {a b : List (Addr × Obj)} (h : ∀ p ∈ a, p ∈ b) {p : Int × List Nat} {v : Value} (x : PN a p v) : PN b p v := by
  obtain ⟨c, t, t', n, e, hm⟩ := x
  exact ⟨c, t, t', n, e, h _ hm⟩
theorem places_news {h₀ h : Heap} {L D : Addr} {news a : List (Addr × Obj)} {vs : List Value} {k : Nat} {ps : List (Int × List Nat)} (N : News h₀ L h news) (hD : (D, lobj vs k) ∈ news) (hs : ∀ p ∈ a, p ∈ news) (hp : All2 (PN a) ps vs) : Places h D ps :=
  ⟨vs, k, (N _ hD).1, hp.mono fun p v x => by
    obtain ⟨c, t, t', n, e, hm⟩ := x
    exact ⟨c, t, t', n, e, (N _ (hs _ hm)).1⟩⟩
/-- what the loop over the places keeps -/
def PlacesJ (l O : Addr) (oO : Obj) (i : Nat) (m : Str → Option Value) (news : List (Addr × Obj)) : Prop :=
  ∃ D vs k ps, (D, lobj vs k) ∈ news ∧ (O, oO) ∈ news ∧ m (Str.ofString "places") = some (.ref D) ∧ m (Str.ofString "own") = some (.ref O) ∧ m (Str.ofString "script") = some (.ref l) ∧
    All2 (PN news) ps vs ∧ Grown (i + 1) ps
theorem turn_end {h₀ h h' : Heap} {L D O I b : Addr} {oO oI : Obj} {vs : List Value} {k k' : Nat} {news own N1 : List (Addr × Obj)} {x : Value} {r : Int} {t : Tok} {v : Value} {n : Nat}
    (hN : News h₀ L h N1) (hw : ∀ p ∈ news, p.1 ∉ [I]) (hown : ∀ p ∈ own, p.1 ∈ [I]) (hI : (I, oI) ∈ own) (hIc : oI.cls = .type "range_iterator") (sub : ∀ p ∈ own ++ news, p ∈ N1) (hD : (D, lobj vs k) ∈ news) (hO : (O, oO) ∈ news) (hOc : oO.cls = .type "tuple")
    (hb : (b, ({ cls := .type "tuple", data := .seq #[.int r t, v] n } : Obj)) ∈ N1) (hN' : News h₀ L h' (N1.map fun p => if p.1 = D then (D, lobj (vs ++ [x]) k') else p)) :
    ∃ news', News h₀ L h' (own ++ news') ∧ (∀ p ∈ news', p.1 ∉ [I]) ∧ (D, lobj (vs ++ [x]) k') ∈ news' ∧ (O, oO) ∈ news' ∧ (b, ({ cls := .type "tuple", data := .seq #[.int r t, v] n } : Obj)) ∈ news' ∧ (∀ p q, PN news p q → PN news' p q) := by
  have hDN := sub _ (List.mem_append_right _ hD)
  have key : ∀ p ∈ N1, p.1 = D → p.2 = lobj vs k := fun p hp e => by
    have h1 := (hN _ hp).1
    rw [e] at h1
    have h2 := (hN _ hDN).1
    rw [h2] at h1
    exact (Option.some.inj h1).symm
  have notD : ∀ p ∈ N1, p.2.cls = .type "tuple" → p.1 ≠ D := fun p hp hc e => by
    rw [key p hp e] at hc
    exact absurd (show Value.type "list" = Value.type "tuple" from hc) (by decide)
  have mp : ∀ p ∈ N1, p.1 ≠ D → p ∈ N1.map fun p => if p.1 = D then (D, lobj (vs ++ [x]) k') else p := fun p hp hne => List.mem_map.mpr ⟨p, hp, if_neg hne⟩
  have mD : (D, lobj (vs ++ [x]) k') ∈ N1.map fun p => if p.1 = D then (D, lobj (vs ++ [x]) k') else p := List.mem_map.mpr ⟨_, hDN, if_pos rfl⟩
  have hID : I ≠ D := fun e => hw _ hD (by rw [e]; exact .head _)
  have hbI : b ≠ I := fun e => by
    have h1 := (hN _ hb).1
    have h2 := (hN _ (sub _ (List.mem_append_left _ hI))).1
    rw [e, h2] at h1
    have h3 : oI = { cls := .type "tuple", data := .seq #[.int r t, v] n } := Option.some.inj h1
    rw [h3] at hIc
    exact absurd (show Value.type "tuple" = Value.type "range_iterator" from hIc) (by decide)
  refine ⟨(D, lobj (vs ++ [x]) k') :: (O, oO) :: (b, { cls := .type "tuple", data := .seq #[.int r t, v] n }) :: news.map (fun p => if p.1 = D then (D, lobj (vs ++ [x]) k') else p), ?_, ?_, .head _, .tail _ (.head _), .tail _ (.tail _ (.head _)), ?_⟩
  · intro p hp
    refine hN' p ?_
    rcases List.mem_append.mp hp with hp | hp
    · exact mp p (sub _ (List.mem_append_left _ hp)) (by rw [List.mem_singleton.mp (hown p hp)]; exact hID)
    · rcases List.mem_cons.mp hp with rfl | hp
      · exact mD
      · rcases List.mem_cons.mp hp with rfl | hp
        · exact mp _ (sub _ (List.mem_append_right _ hO)) (notD _ (sub _ (List.mem_append_right _ hO)) hOc)
        · rcases List.mem_cons.mp hp with rfl | hp
          · exact mp _ hb (notD _ hb rfl)
          · obtain ⟨q, hq, rfl⟩ := List.mem_map.mp hp
            exact List.mem_map.mpr ⟨q, sub _ (List.mem_append_right _ hq), rfl⟩
  · intro p hp
    rcases List.mem_cons.mp hp with rfl | hp
    · exact fun e => hw _ hD e
    · rcases List.mem_cons.mp hp with rfl | hp
      · exact hw _ hO
      · rcases List.mem_cons.mp hp with rfl | hp
        · intro e; exact hbI (List.mem_singleton.mp e)
        · obtain ⟨q, hq, rfl⟩ := List.mem_map.mp hp
          have := hw _ hq
          split
          · rename_i e; rw [← e]; exact this
          · exact this
  · rintro p q ⟨c, t1, t2, n1, e, hm⟩
    refine ⟨c, t1, t2, n1, e, .tail _ (.tail _ (.tail _ (List.mem_map.mpr ⟨_, hm, if_neg ?_⟩)))⟩
    exact notD _ (sub _ (List.mem_append_right _ hm)) rfl
theorem map_places {m : Str → Option Value} {x : Str} {v : Option Value} {D O l : Addr} (h1 : m (Str.ofString "places") = some (.ref D)) (h2 : m (Str.ofString "own") = some (.ref O)) (h3 : m (Str.ofString "script") = some (.ref l)) :
    (fun z => if z = x then v else m z) = fun z => if z = x then v else if z = Str.ofString "places" then some (.ref D) else if z = Str.ofString "own" then some (.ref O) else if z = Str.ofString "script" then some (.ref l) else m z := by
  funext z
  by_cases hx : z = x
  · rw [if_pos hx, if_pos hx]
  · rw [if_neg hx, if_neg hx]
    by_cases hp : z = Str.ofString "places"
    · rw [if_pos hp, hp, h1]
    · rw [if_neg hp]
      by_cases ho : z = Str.ofString "own"
      · rw [if_pos ho, ho, h2]
      · rw [if_neg ho]
        by_cases hs : z = Str.ofString "script"
        · rw [if_pos hs, hs, h3]
        · rw [if_neg hs]
theorem map_places0 {m : Str → Option Value} {D O l : Addr} (h1 : m (Str.ofString "places") = some (.ref D)) (h2 : m (Str.ofString "own") = some (.ref O)) (h3 : m (Str.ofString "script") = some (.ref l)) :
    m = fun z => if z = Str.ofString "places" then some (.ref D) else if z = Str.ofString "own" then some (.ref O) else if z = Str.ofString "script" then some (.ref l) else m z := by
  funext z
  by_cases hp : z = Str.ofString "places"
  · rw [if_pos hp, hp, h1]
  · rw [if_neg hp]
    by_cases ho : z = Str.ofString "own"
    · rw [if_pos ho, ho, h2]
    · rw [if_neg ho]
      by_cases hs : z = Str.ofString "script"
      · rw [if_pos hs, hs, h3]
      · rw [if_neg hs]
end Mine
end

section
open PySem PySem.W PyProof.Rows PySem.Calls
namespace Mine
section
variable {prog : Program} {w : World} {A : Around} {E : Value → Shared → Prop} {s : Shared} {value slice : PySem.Expr} {Q : Value → Shared → Prop}
theorem item_ints {t : Addr} {l : List Value} {k : Int} {u : Tok} (ht : IsTup s.heap t l.toArray) (hall : ∀ v ∈ l, ∃ n t, v = .int n t) (h0 : 0 ≤ k) (h1 : k < l.length) (hl : l.length ≤ 1000) (h : ∀ n t, Q (.int n t) s)
    (hs : subscripted slice false (.ref t) (.int k u) = operate [.ref t, .int k u] (getItem (.ref t) (.int k u))) :
    wpAny (model prog w) A (subscriptTail value slice (.ref t) (.int k u)) Q E s := by
  have hk : k.toNat < l.length := by omega
  obtain ⟨n, t', e⟩ := hall _ (List.getElem_mem hk)
  refine item_tupleT (j := k.toNat) (x := .int n t') ht (by omega) (by omega) ?_ (by rw [List.getElem?_eq_getElem hk, e]) (h n t') hs
  unfold seqIndex?
  have : ¬ (k < 0) := by omega
  simp [this, h0]
  omega
theorem item_at {l : Addr} {vs : List Value} {k : Int} {u : Tok} {x : Value} (hl : s.heap.IsList l vs.toArray) (h0 : 0 ≤ k) (hx : vs[k.toNat]? = some x) (hsz : vs.length ≤ 1000) (h : Q x s)
    (hs : subscripted slice false (.ref l) (.int k u) = operate [.ref l, .int k u] (getItem (.ref l) (.int k u))) (hg : ∀ r, letTemporaryGo value (.ref l) r = pure ()) :
    wpAny (model prog w) A (subscriptTail value slice (.ref l) (.int k u)) Q E s := by
  have hk : k.toNat < vs.length := (List.getElem?_eq_some_iff.mp hx).1
  exact subscriptTail_ops (Heap.IsList.typeIs hl) list_getitem_lookup (wpAny_getItem_list hl h0 (by omega) (by simpa using hx) h) hs hg
end
theorem news_add {base h h' : Heap} {L D : Addr} {m : Str → Option Value} {news : List (Addr × Obj)} {o : Obj} (F : Fr base L h m) (N : News base L h news) (k : Mine.Keeps h h') (hD : h.get? D = none) (hg : h'.get? D = some o) : News base L h' ((D, o) :: news) := by
  have hD₀ : base.get? D = none := by
    cases e : base.get? D with
    | none => rfl
    | some o => rw [F.keep _ _ e] at hD; cases hD
  intro p hp
  rcases List.mem_cons.mp hp with rfl | hp
  · exact ⟨hg, (fun (e : D = L) => by obtain ⟨o, _, _, ho, _⟩ := F.ns; rw [← e, hD] at ho; cases ho), hD₀⟩
  · exact N.grown k p hp
theorem fig_is : Str.ofString "01234" = ofL [48, 49, 50, 51, 52] := by decide +kernel
theorem fig_item {k : Nat} (h : k < 5) : Txt.item (Str.ofString "01234") (k : Int) = ofL [48 + k] := by
  rw [fig_is, item_ofL (by simpa using h)]
  have : k = 0 ∨ k = 1 ∨ k = 2 ∨ k = 3 ∨ k = 4 := by omega
  rcases this with rfl | rfl | rfl | rfl | rfl <;> rfl
end Mine
end

section
open PySem PySem.W PyProof.Rows PySem.Calls
set_option maxHeartbeats 4000000
namespace Mine

local macro_rules | `(tactic| walk_at "getMethod ref") => `(tactic| (k_here; (with_reducible show wpAny _ _ (getMethod (Value.ref _) (PySem.Str.ofString "sub") _) _ _ _); k_dflt (first | refine getMethod_pat (pat43 (by k_in)) ?_ | refine getMethod_pat (pat53 (by k_in)) ?_ | refine getMethod_pat (pat48 (by k_in)) ?_)))
local macro_rules | `(tactic| walk_at "mine kept") => `(tactic| ((with_reducible rename Mine.Keeps _ _ => kk0); (with_reducible rename Fr _ _ _ _ => kF0); (with_reducible rename News _ _ _ _ => kN0); k_dflt ((have F' := Fr.keeps kF0 kk0); (have N' := News.grown kN0 kk0)); clear kk0; (try k_sweep)))

local macro_rules | `(tactic| walk_at "exec For") => `(tactic| (k_here; refine stop ?_))
local macro_rules | `(tactic| walk_at "exec For Name") => `(tactic| (k_here; refine stop ?_))
local macro_rules | `(tactic| walk_at "exec For Name Call cons nil") => `(tactic| (k_here; refine stop ?_))
local macro_rules | `(tactic| walk_at "exec For Tuple") => `(tactic| (k_here; refine stop ?_))
local macro_rules | `(tactic| walk_at "pyIter") => `(tactic| (k_here; refine stop ?_))
local macro_rules | `(tactic| walk_at "pyIter str") => `(tactic| (k_here; refine stop ?_))
local macro_rules | `(tactic| walk_at "pyIter ref") => `(tactic| (k_here; refine stop ?_))
local macro_rules | `(tactic| walk_at "eval ListComp") => `(tactic| (k_here; refine stop ?_))
local macro_rules | `(tactic| walk_at "call ref") => `(tactic| (k_here; plain_pass; refine stop ?_))

local macro_rules | `(tactic| walk_at "call type:enumerate") => `(tactic| (k_here; refine stop ?_))
local macro_rules | `(tactic| walk_at "exec For Tuple Call cons nil") => `(tactic| (k_here; refine stop ?_))
local macro_rules | `(tactic| walk_at "exec For Tuple Call") => `(tactic| (k_here; refine stop ?_))

local macro_rules | `(tactic| walk_at "setItem ref int") => `(tactic| (k_here; refine stop ?_))

local macro_rules | `(tactic| walk_at "call builtin:str.encode") => `(tactic| (k_here; refine stop ?_))
local macro_rules | `(tactic| walk_at "call builtin:bytes.decode") => `(tactic| (k_here; refine stop ?_))
local macro_rules | `(tactic| walk_at "call builtin:str.join") => `(tactic| (k_here; refine stop ?_))
local macro_rules | `(tactic| walk_at "getMethod str") => `(tactic| (k_here; k_dflt (with_reducible refine Co.getMethod_enc ?_)))

local macro_rules | `(tactic| walk_at "exec Assign cons ListComp") => `(tactic| (k_here; refine stop ?_))

local macro_rules | `(tactic| walk_at "subscriptTail Name Slice ref ref") => `(tactic| (k_here; refine stop ?_))
local macro_rules | `(tactic| walk_at "call builtin:sum") => `(tactic| (k_here; refine stop ?_))

local macro_rules | `(tactic| walk_at "eval Name") => `(tactic| (k_dflt (first
  | (refine' blockName ?a ?b ?c ?d ?_ ?e; (case a => exact rfl); (case b => exact rfl); (case c => assumption); (case d => assumption); (case e => decide))
  | (refine' blockCell ?a ?b ?c ?d ?f ?_ ?e; (case a => exact rfl); (case b => exact rfl); (case c => exact rfl); (case d => assumption); (case f => assumption); (case e => decide)))))

local macro_rules | `(tactic| walk_at "eval Name") => `(tactic| (k_dflt (first
  | (refine' blockGlobal ?k1 ?k2 ?k3 ?k4 ?_ ?g ?a ?b ?c; (case k1 => assumption); (case k2 => assumption); (case k3 => assumption); (case k4 => k_is); (case g => rfl); (case a => rfl); (case b => rfl); (case c => decide))
  | (refine' blockBuilt ?k1 ?k2 ?k3 ?k4 ?v ?n ?_ ?g ?g2 ?a ?b ?c; (case k1 => assumption); (case k2 => assumption); (case k3 => assumption); (case k4 => k_is); (case v => rfl); (case n => decide); (case g => rfl); (case g2 => rfl); (case a => rfl); (case b => rfl); (case c => decide)))))

local macro_rules | `(tactic| walk_at "mine side") => `(tactic| ((case X => exact Rdy.X (by assumption)); (case hl => exact Rdy.nolimit (by assumption)); (case ho => k_is); (case hcd => k_is); (case hr => omega); (case hb => exact BindsTo.of_eq rfl); (case c5 => decide); (case hloc => exact locs rfl); (case c2 => exact rfl); (case c3 => exact rfl); (case c4 => exact rfl)))
local macro_rules | `(tactic| walk_at "mine go") => `(tactic| repeat' (first | (k_unfold; (try dsimp only)) | (walk1; (try dsimp only)) | fail "no step"))

local macro_rules | `(tactic| walk_at "mine sideC") => `(tactic| ((case X => exact Rdy.X (by assumption)); (case hl => exact Rdy.nolimit (by assumption)); (case ho => k_is); (case hcd => k_is); (case hr => omega); (case hb => exact BindsTo.of_eq rfl); (case hkd => exact rfl); (case hnd => decide +kernel); (case c2 => exact rfl); (case c3 => exact rfl); (case c4 => exact rfl)))
section
variable {prog : Program} {w : World} {A : Around} {s : Shared} {E : Value → Shared → Prop} {Q : Value → Shared → Prop}

local macro_rules | `(tactic| walk_at "mine ready") => `(tactic| exact ⟨by k_in, _, _, _, Top.keeps (by k_asm) (Fr.keep (by k_asm))⟩)
local macro_rules | `(tactic| walk_at "mine depth") => `(tactic| (simp only [depth_deeper]; omega))
local macro_rules | `(tactic| walk_at "mine list") => `(tactic| exact Heap.IsList.at (by assumption) (fun o e => Fr.keep (by assumption) _ _ e))

local macro_rules | `(tactic| walk_at "subscriptTail Name Name ref int") => `(tactic| (k_here; refine stop ?_))
local macro_rules | `(tactic| walk_at "subscriptTail Name BinOp ref int") => `(tactic| (k_here; refine stop ?_))
local macro_rules | `(tactic| walk_at "subscriptTail Constant Call str int") => `(tactic| (k_here; refine stop ?_))
local macro_rules | `(tactic| walk_at "call builtin:list.append") => `(tactic| (k_here; refine stop ?_))
local macro_rules | `(tactic| walk_at "call builtin:len") => `(tactic| (k_here; (with_reducible show wpAny _ _ (call (Value.builtin "len") [Value.ref _]) _ _ _); k_dflt (refine' len_list (News.isList (by k_asm) (by k_mem)) ?sz ?_; (case sz => (simp only [List.size_toArray]; omega)))))
theorem places_spec {l : Addr} {vs : List Value} (R : Rdy w s.heap) (hdp : A.depth + 30 < recursionLimit) (hh : A.handled = none) (hlist : s.heap.IsList l vs.toArray) (hints : ∀ v ∈ vs, ∃ n t, v = .int n t) (hlen : vs.length ≤ 63)
   (hQ : ∀ D ps vs k news h' tk', Keeps s.heap h' → (∀ p ∈ news, h'.get? p.1 = some p.2 ∧ s.heap.get? p.1 = none) → (D, lobj vs k) ∈ news → All2 (PN news) ps vs → Grown 6 ps → Q (.ref D) { s with heap := h', toks := tk' }) :
   wpAny (model prog w) A (call (.ref 86) [.ref l]) Q E s := by
  k_dflt (refine' enter (K := Mine.hd.heap_39 _) (binds := [(Str.ofString "script", .ref l)]) ?X ?hl ?ho ?hcd ?hr ?hb ?hloc ?_ ?c2 ?c3 ?c4 ?c5)
  walk_at "mine side"
  obtain ⟨X, T⟩ := R
  obtain ⟨mean, mg, mb, T⟩ := T
  intro h₁ tk F
  have N : News s.heap s.heap.objs.size h₁ [] := News.nil
  generalize hQ' : (fun (fl : Flow) (s' : Shared) => Q (match fl with | .ret v => v | _ => .none) s') = Q'
  walk_at "mine go"
  with_reducible rename Fr _ _ _ _ => F0
  with_reducible rename News _ _ _ _ => N0
  refine slice_list3 (s := { s with heap := _, toks := _ }) F0 N0 (hlist.at fun o e => F0.keep _ _ e) (.int 0 _) .none (.int 6 _) (by decide) ?_ (hsz := by rw [sizeLine_eq, List.size_toArray]; omega)
  obtain ⟨ms0, hms0⟩ := pick_ints hints (some 0) none (some 6)
  intro h1 F1 N1
  clear F0 N0
  walk_at "mine go"
  with_reducible rename Fr _ _ _ _ => F0
  with_reducible rename News _ _ _ _ => N0
  refine LSm.sum_ints F0 N0 hh ⟨_, (N0 _ (.head _)).1, rfl, 0, by rw [Array.toArray_toList]⟩ hms0 ?_
  intro h2 tk2 t2 F2 N2
  clear F0 N0
  walk_at "mine go"
  refine For_invV s.heap rfl rfl ?_
  walk_at "mine go"
  with_reducible rename Fr _ _ _ _ => F0
  with_reducible rename News _ _ _ _ => N0
  with_reducible rename IsRange _ _ _ _ _ _ _ _ => hR
  refine iter_rangeO (n := 5) (PlacesJ l _ _) hh hR (by decide) (by decide) F0 N0 ⟨_, [_], 0, [(4 + ms0.sum, [])], .head _, .tail _ (.tail _ (.tail _ (.head _))), if_pos rfl, (if_neg (by decide)).trans (if_pos rfl), (if_neg (by decide)).trans ((if_neg (by decide)).trans rfl), .cons ⟨_, _, _, 0, rfl, .tail _ (.head _)⟩ .nil, .root _⟩ ?_ ?_
  · rintro I i u h tk m₁ news₁ own hi ⟨D, vsD, kD, ps, hD, hO, hm1, hm2, hm3, hps, hG⟩ hw hown ⟨oI, hI, hIc⟩ F N
    clear F0 N0 hR
    rw [map_places hm1 hm2 hm3] at F
    replace N : News s.heap s.heap.objs.size h ((D, lobj vsD kD) :: (_, _) :: (own ++ news₁)) := News.perm N fun p hp => by
      rcases List.mem_cons.mp hp with rfl | hp
      · exact List.mem_append_right _ hD
      · rcases List.mem_cons.mp hp with rfl | hp
        · exact List.mem_append_right _ hO
        · exact hp
    have hi0 : (0 : Int) < 1 + (i : Int) := by omega
    have hi1 : (1 : Int) + (i : Int) < 6 := by omega
    walk_at "mine go"
    with_reducible rename News _ _ _ _ => N1
    refine item_ints (l := [_, _, _, _, _, _]) ⟨_, (N1 _ (.tail _ (.head _))).1, rfl, _, rfl⟩ (by intro v hv; simp only [List.mem_cons, List.not_mem_nil, or_false] at hv; rcases hv with rfl | rfl | rfl | rfl | rfl | rfl <;> exact ⟨_, _, rfl⟩) (by omega) (by simp only [List.length_cons, List.length_nil]; omega) (by simp) ?_ (by with_unfolding_all rfl)
    intro n0 t0
    walk_at "mine go"
    with_reducible rename Fr _ _ _ _ => F2
    with_reducible rename News _ _ _ _ => N2
    refine slice_list3 (s := { s with heap := _, toks := _ }) F2 N2 (hlist.at fun o e => F2.keep _ _ e) (.int _ _) .none (.int 6 _) (by decide) ?_ (hsz := by rw [sizeLine_eq, List.size_toArray]; omega)
    obtain ⟨ms1, hms1⟩ := pick_ints hints (some (1 + (i : Int))) none (some 6)
    intro h3 F3 N3
    clear F2 N2
    walk_at "mine go"
    with_reducible rename Fr _ _ _ _ => F4
    with_reducible rename News _ _ _ _ => N4
    refine LSm.sum_ints F4 N4 hh ⟨_, (N4 _ (.head _)).1, rfl, 0, by rw [Array.toArray_toList]⟩ hms1 ?_
    intro h5 tk5 t5 F5 N5
    clear F4 N4
    have hf0 := Int.fmod_nonneg_of_pos (n0 + ms1.sum) hi0
    have hf1 := Int.fmod_lt_of_pos (n0 + ms1.sum) hi0
    walk_at "mine go"
    have hvl := hps.length
    rw [hG.len] at hvl
    have hvn : vsD.length ≤ 1000 := by omega
    have hlt : ((n0 + ms1.sum).fmod (1 + (i : Int))).toNat < vsD.length := by omega
    obtain ⟨v, hv⟩ : ∃ v, vsD[((n0 + ms1.sum).fmod (1 + (i : Int))).toNat]? = some v := ⟨_, List.getElem?_eq_getElem hlt⟩
    obtain ⟨⟨qr, qa⟩, hq, b', t1, t2, n', rfl, hbm⟩ := hps.get hv
    have hqm := List.mem_of_getElem? hq
    with_reducible rename News _ _ _ _ => N6
    have hDm : Heap.IsList _ D vsD.toArray := ⟨_, (N6 (D, lobj vsD kD) (by repeat' (first | exact .head _ | apply List.Mem.tail))).1, rfl, kD, rfl⟩
    refine item_at hDm hf0 hv hvn ?_ (by with_unfolding_all rfl) (by intro _; with_unfolding_all rfl)
    have ht : IsTup _ b' #[.int qr t1, .str (ofL qa) t2] := ⟨_, (N6 _ (by repeat' (first | exact List.mem_append_right _ hbm | apply List.Mem.tail))).1, rfl, n', rfl⟩
    have hqd := hG.depth _ hqm
    have hbl := hG.hangs qa
    walk_at "mine go"
    with_reducible rename Fr _ _ _ _ => F7
    with_reducible rename News _ _ _ _ => N7
    have hpl := places_news N7 (D := D) (vs := vsD) (k := kD) (a := news₁) (by repeat' (first | exact .head _ | apply List.Mem.tail)) (fun p hp => by repeat' (first | exact List.mem_append_right _ hp | apply List.Mem.tail)) hps
    refine below_spec ?rr1 ?dd1 hh hpl (by rw [hG.len]; omega) (fun p hp => by have := hG.depth p hp; omega) ?_
    case rr1 => walk_at "mine ready"
    case dd1 => walk_at "mine depth"
    intro D2 vs2 k2 h8 tk8 kk8 hD2 hg2 hst2
    have N8 := news_add F7 N7 kk8 hD2 hg2
    have F8 := Fr.keeps F7 kk8
    have hl2 := strs_len hst2
    rw [List.length_map] at hl2
    have hsz2 : vs2.length ≤ 1000 := by omega
    clear F7 N7 kk8 hpl hDm hst2
    walk_at "mine go"
    have hl3 : vs2.length = (belowL ps qa).length := by rw [hl2]
    have hq5 : (ofL qa).length ≤ 10 := by rw [ofL_length]; simp only at hqd; omega
    have hfig : Txt.item (Str.ofString "01234") (vs2.toArray.size : Int) = ofL [48 + (belowL ps qa).length] := by rw [List.size_toArray, hl3, fig_item (by omega)]
    rw [hfig]
    walk_at "mine go"
    with_reducible rename Fr _ _ _ _ => F9
    with_reducible rename News _ _ _ _ => N9
    rw [← ofL_append] at N9
    refine append_N F9 N9 (vs := vsD) (k := kD) (by repeat' (first | exact .head _ | apply List.Mem.tail)) hvn ?_
    intro h10 k10 F10 N10
    walk_at "mine go"
    obtain ⟨news', hN', hw', hD', hO', hb', hpn⟩ := turn_end N9 hw hown hI hIc (fun p hp => by repeat' (first | exact hp | apply List.Mem.tail)) hD hO rfl (.head _) N10
    refine TurnJ.next F10 hN' hw' ⟨D, _, k10, ps ++ [((n0 + ms1.sum).fdiv (1 + (i : Int)), qa ++ [48 + (belowL ps qa).length])], hD', hO', (if_neg (by decide)).trans ((if_neg (by decide)).trans ((if_neg (by decide)).trans (if_pos rfl))), (if_neg (by decide)).trans ((if_neg (by decide)).trans ((if_neg (by decide)).trans ((if_neg (by decide)).trans (if_pos rfl)))), (if_neg (by decide)).trans ((if_neg (by decide)).trans ((if_neg (by decide)).trans ((if_neg (by decide)).trans ((if_neg (by decide)).trans (if_pos rfl))))), ?_, Grown.step ((n0 + ms1.sum).fdiv (1 + (i : Int))) (qr, qa) hG hqm⟩
    exact All2.snoc (hps.mono hpn) ⟨_, _, _, 0, rfl, hb'⟩
  · rintro h tk m' news' F N ⟨D, vsD, kD, ps, hD, hO, hm1, hm2, hm3, hps, hG⟩
    clear F0 N0 hR
    rw [map_places0 hm1 hm2 hm3] at F
    walk_at "mine go"
    with_reducible rename Fr _ _ _ _ => F9
    with_reducible rename News _ _ _ _ => N9
    subst hQ'
    exact hQ D ps _ _ _ _ _ F9.keep (fun p hp => ⟨(N9 p hp).1, (N9 p hp).2.2⟩) hD hps hG
end
end Mine
end

section
open PySem PySem.W PyProof.Rows PySem.Calls PySem.Spec
namespace Mine
def hangs (as : List (List Nat)) (q : List Nat) : Nat := (as.filter fun a => decide (a ≠ [] ∧ a.dropLast = q)).length
theorem hangs_eq (ps : List (Int × List Nat)) (b : List Nat) : (belowL ps b).length = hangs (ps.map (·.2)) b := by
  unfold belowL hangs
  rw [List.length_map, List.filter_map, List.length_map]
  rfl
def shapes : Nat → List (List (List Nat))
  | 0 => []
  | 1 => [[[]]]
  | k + 2 => (shapes (k + 1)).flatMap fun as => as.map fun q => as ++ [q ++ [48 + hangs as q]]
theorem Grown.shape {k : Nat} {ps : List (Int × List Nat)} (h : Grown k ps) : ps.map (·.2) ∈ shapes k := by
  induction h with
  | root rest => exact .head _
  | @step k ps rest q hG hq ih =>
    cases k with
    | zero => exact absurd ih (by simp [shapes])
    | succ k =>
      show _ ∈ (shapes (k + 1)).flatMap _
      refine List.mem_flatMap.mpr ⟨_, ih, List.mem_map.mpr ⟨q.2, List.mem_map.mpr ⟨q, hq, rfl⟩, ?_⟩⟩
      rw [List.map_append, ← hangs_eq]
      rfl
def ins (x : List Nat) : List (List Nat) → List (List Nat)
  | [] => [x]
  | y :: r => if ltCps x y = true then x :: y :: r else y :: ins x r
def isort : List (List Nat) → List (List Nat)
  | [] => []
  | x :: r => ins x (isort r)
def risen : List (List Nat) → Bool
  | [] => true
  | x :: r => r.all (fun y => !ltCps y x) && risen r
def dotN : Nat → List Nat → List Nat
  | 0, w => w
  | n + 1, w => dotN n (dotL w)
def figG (sg : List Nat) : List Nat → List Nat
  | [] => []
  | c :: a => sg.getD (c - 48) 0 :: List.replicate (c - 48) 46 ++ figG sg a
def rowG (sg : List Nat) (p : Nat) (a : List Nat) : List Nat := figG sg a ++ (List.replicate p 46 ++ sg.take 7)
def lastNG (as : List (List Nat)) (p : Nat) (a : List Nat) : Nat := (as.filter fun x => ltCps x a).length + if p = 1 then (as.filter fun x => x.take a.length == a).length else 0
def runOk : List Nat → List Nat → List Nat → Bool
  | [], w, fin => w == fin
  | c :: r, w, fin => (let d := dotN c w; !d.isEmpty && Nat.ble d.length 100 && runOk r d.tail fin)
def okRow (as : List (List Nat)) (cs : List Nat) (a : List Nat) (p : Nat) (sg : List Nat) : Bool :=
  (let n := lastNG as p a; Nat.ble n 6 && runOk cs (rowG sg p a) ((sg.drop (6 - n)).take (7 - (6 - n))))
/-- ten marks that stand for the signs, none a dot -/
def marks : List Nat := [100, 101, 102, 103, 104, 105, 106, 107, 108, 109]
def okShape (as : List (List Nat)) : Bool :=
  (isort as).isPerm as && risen (isort as) && ((isort as).map (hangs as)).sum == 5 &&
    as.all fun a => [0, 1].all fun p => okRow as ((isort as).map (hangs as)) a p marks
theorem all_ok : (shapes 6).all okShape = true := by decide +kernel

/-- what goes through does not hang on which signs they are, as long as none is a dot -/
def Swap (h : Nat → Nat) : Prop := h 46 = 46 ∧ h 0 = 0 ∧ ∀ c, c ≠ 46 → h c ≠ 46
theorem dotL_map {h : Nat → Nat} (H : Swap h) : ∀ w : List Nat, dotL (w.map h) = (dotL w).map h
  | [] => rfl
  | c :: r => by
    rw [List.map_cons, dotL, dotL]
    by_cases e : c = 46
    · rw [if_pos e, if_pos (by rw [e]; exact H.1), List.map_cons, List.map_cons, H.1]
    · rw [if_neg e, if_neg (H.2.2 c e), List.map_cons]
theorem dotN_map {h : Nat → Nat} (H : Swap h) : ∀ (n : Nat) (w : List Nat), dotN n (w.map h) = (dotN n w).map h
  | 0, _ => rfl
  | n + 1, w => by rw [dotN, dotL_map H, dotN_map H n]; rfl
theorem runOk_map {h : Nat → Nat} (H : Swap h) : ∀ {cs w fin : List Nat}, runOk cs w fin = true → runOk cs (w.map h) (fin.map h) = true
  | [], w, fin, k => by
    rw [show w = fin from eq_of_beq k]
    exact beq_self_eq_true _
  | c :: r, w, fin, k => by
    have k' : (!(dotN c w).isEmpty && Nat.ble (dotN c w).length 100 && runOk r (dotN c w).tail fin) = true := k
    rw [Bool.and_eq_true, Bool.and_eq_true] at k'
    show (!(dotN c (w.map h)).isEmpty && Nat.ble (dotN c (w.map h)).length 100 && runOk r (dotN c (w.map h)).tail (fin.map h)) = true
    rw [dotN_map H, List.length_map, ← List.map_tail, runOk_map H k'.2, k'.1.2, Bool.and_true, Bool.and_true]
    cases e : dotN c w with
    | nil => rw [e] at k'; exact k'.1.1
    | cons _ _ => rfl
theorem figG_map {h : Nat → Nat} (H : Swap h) (sg : List Nat) : ∀ a : List Nat, figG (sg.map h) a = (figG sg a).map h
  | [] => rfl
  | c :: a => by
    rw [figG, figG, figG_map H sg a, List.map_append, List.map_cons, List.map_replicate, H.1]
    congr 2
    rw [List.getD_eq_getElem?_getD, List.getD_eq_getElem?_getD, List.getElem?_map]
    cases sg[c - 48]? with
    | none => exact H.2.1.symm
    | some d => rfl
theorem rowG_map {h : Nat → Nat} (H : Swap h) (sg : List Nat) (p : Nat) (a : List Nat) : rowG (sg.map h) p a = (rowG sg p a).map h := by
  unfold rowG
  rw [figG_map H, List.map_append, List.map_append, List.map_replicate, H.1, List.map_take]
def fromMarks (sg : List Nat) (c : Nat) : Nat := if 100 ≤ c then sg.getD (c - 100) 0 else c
theorem fromMarks_swap {sg : List Nat} (hs : ∀ c ∈ sg, c ≠ 46) : Swap (fromMarks sg) := by
  refine ⟨rfl, rfl, fun c hc => ?_⟩
  unfold fromMarks
  split
  · rw [List.getD_eq_getElem?_getD]
    cases e : sg[c - 100]? with
    | none => decide
    | some d => exact hs d (List.mem_of_getElem? e)
  · exact hc
theorem marks_map : ∀ {sg : List Nat}, sg.length = 10 → marks.map (fromMarks sg) = sg
  | [_, _, _, _, _, _, _, _, _, _], _ => rfl
theorem okRow_signs {as : List (List Nat)} {cs : List Nat} {a : List Nat} {p : Nat} {sg : List Nat} (hl : sg.length = 10) (hs : ∀ c ∈ sg, c ≠ 46) (k : okRow as cs a p marks = true) : okRow as cs a p sg = true := by
  have k' : (Nat.ble (lastNG as p a) 6 && runOk cs (rowG marks p a) ((marks.drop (6 - lastNG as p a)).take (7 - (6 - lastNG as p a)))) = true := k
  rw [Bool.and_eq_true] at k'
  have k2 := runOk_map (fromMarks_swap hs) k'.2
  rw [← rowG_map (fromMarks_swap hs), List.map_take, List.map_drop, marks_map hl] at k2
  show (Nat.ble (lastNG as p a) 6 && runOk cs (rowG sg p a) ((sg.drop (6 - lastNG as p a)).take (7 - (6 - lastNG as p a)))) = true
  rw [k'.1, k2]
  rfl
end Mine
end

section
open PySem PySem.W PyProof.Rows PySem.Calls PySem.Spec
namespace Mine
def runN : List Nat → List Nat → List Nat
  | [], w => w
  | c :: r, w => runN r (dotN c w).tail
theorem runOk_cons {c : Nat} {r w fin : List Nat} (h : runOk (c :: r) w fin = true) : dotN c w ≠ [] ∧ (dotN c w).length ≤ 100 ∧ runOk r (dotN c w).tail fin = true := by
  have h' : (!(dotN c w).isEmpty && Nat.ble (dotN c w).length 100 && runOk r (dotN c w).tail fin) = true := h
  rw [Bool.and_eq_true, Bool.and_eq_true] at h'
  obtain ⟨⟨h1, h2⟩, h3⟩ := h'
  refine ⟨fun e => ?_, Nat.le_of_ble_eq_true h2, h3⟩
  rw [e] at h1
  exact absurd h1 (by decide)
theorem runOk_at : ∀ {cs w fin : List Nat}, runOk cs w fin = true → ∀ {i c : Nat}, cs[i]? = some c → dotN c (runN (cs.take i) w) ≠ [] ∧ (dotN c (runN (cs.take i) w)).length ≤ 100
  | [], _, _, _, i, c, h => by simp at h
  | d :: r, w, fin, h, 0, c, hc => by
    obtain ⟨h1, h2, _⟩ := runOk_cons h
    obtain rfl : d = c := by simpa using hc
    exact ⟨h1, h2⟩
  | d :: r, w, fin, h, i + 1, c, hc => by
    obtain ⟨_, _, h3⟩ := runOk_cons h
    exact runOk_at h3 (by simpa using hc)
theorem runOk_end : ∀ {cs w fin : List Nat}, runOk cs w fin = true → runN cs w = fin
  | [], _, _, h => eq_of_beq h
  | c :: r, w, _, h => runOk_end (cs := r) (w := (dotN c w).tail) (runOk_cons h).2.2
theorem runN_snoc : ∀ (l : List Nat) (c : Nat) (w : List Nat), runN (l ++ [c]) w = (dotN c (runN l w)).tail
  | [], _, _ => rfl
  | _ :: l, c, _ => runN_snoc l c _
theorem dotN_succ : ∀ (n : Nat) (w : List Nat), dotN (n + 1) w = dotL (dotN n w)
  | 0, _ => rfl
  | n + 1, w => dotN_succ n (dotL w)
theorem dotL_ge (w : List Nat) : w.length ≤ (dotL w).length := by
  cases w with
  | nil => exact Nat.le_refl _
  | cons c r => rw [dotL]; split <;> simp
theorem dotN_ge : ∀ {i j : Nat} (w : List Nat), i ≤ j → (dotN i w).length ≤ (dotN j w).length := by
  intro i j w h
  induction j with
  | zero => rw [Nat.le_zero.mp h]; exact Nat.le_refl _
  | succ j ih =>
    by_cases e : i = j + 1
    · rw [e]; exact Nat.le_refl _
    · rw [dotN_succ]
      exact Nat.le_trans (ih (by omega)) (dotL_ge _)
theorem dotN_nil : ∀ n : Nat, dotN n [] = []
  | 0 => rfl
  | n + 1 => dotN_nil n
theorem dotN_ne {n : Nat} {w : List Nat} (h : dotN n w ≠ []) : w ≠ [] := fun e => h (by rw [e, dotN_nil])
theorem dotN_dots (n k : Nat) : dotN n (List.replicate (k + 1) 46) = List.replicate (k + 1 + n) 46 := by
  induction n with
  | zero => rfl
  | succ n ih =>
    rw [dotN_succ, ih, show k + 1 + n = (k + n) + 1 by omega, List.replicate_succ, dotL, if_pos rfl, ← List.replicate_succ, ← List.replicate_succ]
    congr 1
    omega
/-- signs that go through -/
def Pass (w : List Nat) : Prop := ∀ c ∈ w, (c ≠ 13 ∧ c ≠ 10) ∧ Co.okC c = true
theorem Pass.dot {w : List Nat} (h : Pass w) : Pass (dotL w) := by
  cases w with
  | nil => exact h
  | cons c r =>
    rw [dotL]
    split
    · intro d hd
      rcases List.mem_cons.mp hd with rfl | hd
      · decide
      · rcases List.mem_cons.mp hd with rfl | hd
        · decide
        · exact h d (.tail _ hd)
    · exact h
theorem Pass.dots {n : Nat} {w : List Nat} (h : Pass w) : Pass (dotN n w) := by
  induction n with
  | zero => exact h
  | succ n ih => rw [dotN_succ]; exact ih.dot
theorem Pass.tail {w : List Nat} (h : Pass w) : Pass w.tail := fun c hc => h c (List.mem_of_mem_tail hc)
theorem Pass.run : ∀ {cs w : List Nat}, Pass w → Pass (runN cs w)
  | [], _, h => h
  | c :: r, w, h => Pass.run (cs := r) (w := (dotN c w).tail) h.dots.tail
theorem Pass.append {a b : List Nat} (h : Pass a) (k : Pass b) : Pass (a ++ b) := fun c hc => (List.mem_append.mp hc).elim (h c) (k c)
theorem Pass.rep (n : Nat) : Pass (List.replicate n 46) := fun c hc => by rw [(List.mem_replicate.mp hc).2]; decide
theorem pass_signs : ∀ c ∈ signs10, (c ≠ 13 ∧ c ≠ 10) ∧ Co.okC c = true := by decide
theorem pass_rot (rest : Int) : Pass (rotL rest) := by
  intro c hc
  refine pass_signs c ?_
  unfold rotL at hc
  rcases List.mem_append.mp hc with hc | hc
  · exact List.mem_of_mem_drop hc
  · exact List.mem_of_mem_take hc
theorem pass_getD {l : List Nat} (h : Pass l) (k : Nat) : (l.getD k 0 ≠ 13 ∧ l.getD k 0 ≠ 10) ∧ Co.okC (l.getD k 0) = true := by
  rw [List.getD_eq_getElem?_getD]
  cases e : l[k]? with
  | none => decide
  | some c => exact h c (List.mem_of_getElem? e)
theorem pass_fig (rest : Int) : ∀ a : List Nat, Pass (figL rest a)
  | [] => fun c hc => by cases hc
  | d :: a => by
    rw [figL]
    refine Pass.append (a := _ :: List.replicate _ _) (fun c hc => ?_) (pass_fig rest a)
    rcases List.mem_cons.mp hc with rfl | hc
    · exact pass_getD (pass_rot rest) _
    · exact Pass.rep _ c hc
theorem pass_row (rest : Int) (a : List Nat) : Pass (rowL rest a) := by
  unfold rowL
  exact (pass_fig rest a).append ((Pass.rep _).append fun c hc => pass_rot rest c (List.mem_of_mem_take hc))
end Mine
end

section
open PySem PySem.W PyProof.Rows PySem.Calls PySem.Spec
namespace Mine
theorem figG_eq (rest : Int) : ∀ a, figG (rotL rest) a = figL rest a
  | [] => rfl
  | c :: a => by rw [figG, figL, figG_eq rest a]
theorem rowG_eq (rest : Int) (a : List Nat) : rowG (rotL rest) (rest.fmod 2).toNat a = rowL rest a := by
  unfold rowG rowL
  rw [figG_eq]
theorem fmod2 (k : Int) : (k.fmod 2 = 0) ∨ (k.fmod 2 = 1) := by
  have h0 := Int.fmod_nonneg_of_pos k (show (0 : Int) < 2 by decide)
  have h1 := Int.fmod_lt_of_pos k (show (0 : Int) < 2 by decide)
  omega
theorem lastNG_eq (ps : List (Int × List Nat)) (rest : Int) (b : List Nat) : lastNG (ps.map (·.2)) (rest.fmod 2).toNat b = lastN ps rest b := by
  unfold lastNG lastN
  have e1 : ((ps.map (·.2)).filter fun x => ltCps x b).length = (ps.filter fun p => decide (p.2 < b)).length := by
    rw [List.filter_map, List.length_map]
    congr 2
    funext p
    exact ltCps_eq _ _
  have e2 : ((ps.map (·.2)).filter fun x => x.take b.length == b).length = (ps.filter fun p => decide (p.2.take b.length = b)).length := by
    rw [List.filter_map, List.length_map]
    congr 2
    funext p
    show (p.2.take b.length == b) = decide (p.2.take b.length = b)
    cases e : (p.2.take b.length == b) with
    | true => exact (decide_eq_true (eq_of_beq e)).symm
    | false => exact (decide_eq_false (fun h => by rw [h, beq_self_eq_true] at e; cases e)).symm
  rw [e1, e2]
  rcases fmod2 rest with h | h
  · rw [h]; rfl
  · rw [h]; rfl
/-- how many hang on each, in the order of the sorted addresses -/
def countsOf (ps : List (Int × List Nat)) : List Nat := (isort (ps.map (·.2))).map (hangs (ps.map (·.2)))
theorem tree_ok {ps : List (Int × List Nat)} (hG : Grown 6 ps) : okShape (ps.map (·.2)) = true := List.all_eq_true.mp all_ok _ hG.shape
theorem tree_perm {ps : List (Int × List Nat)} (hG : Grown 6 ps) : (isort (ps.map (·.2))).Perm (ps.map (·.2)) := by
  have h := tree_ok hG
  unfold okShape at h
  simp only [Bool.and_eq_true] at h
  exact List.isPerm_iff.mp h.1.1.1
theorem tree_risen {ps : List (Int × List Nat)} (hG : Grown 6 ps) : risen (isort (ps.map (·.2))) = true := by
  have h := tree_ok hG
  unfold okShape at h
  simp only [Bool.and_eq_true] at h
  exact h.1.1.2
theorem tree_sum {ps : List (Int × List Nat)} (hG : Grown 6 ps) : (countsOf ps).sum = 5 := by
  have h := tree_ok hG
  unfold okShape at h
  simp only [Bool.and_eq_true] at h
  exact eq_of_beq h.1.2
theorem tree_row {ps : List (Int × List Nat)} (hG : Grown 6 ps) {p : Int × List Nat} (hp : p ∈ ps) :
    lastN ps p.1 p.2 ≤ 6 ∧ runOk (countsOf ps) (rowL p.1 p.2) (lastL ps p.1 p.2) = true := by
  have h := tree_ok hG
  unfold okShape at h
  rw [Bool.and_eq_true] at h
  have h1 := List.all_eq_true.mp h.2 p.2 (List.mem_map.mpr ⟨p, hp, rfl⟩)
  have hpar : (p.1.fmod 2).toNat ∈ [0, 1] := by
    rcases fmod2 p.1 with e | e <;> rw [e] <;> decide
  have h2 := List.all_eq_true.mp h1 _ hpar
  have h3 := okRow_signs (sg := rotL p.1) (rotL_length p.1) (fun c hc => by
    have := rotL_mem p.1 c hc
    intro e
    rw [e] at this
    exact absurd this (by decide)) h2
  have h4 : (Nat.ble (lastNG (ps.map (·.2)) (p.1.fmod 2).toNat p.2) 6 && runOk (countsOf ps) (rowG (rotL p.1) (p.1.fmod 2).toNat p.2)
      (((rotL p.1).drop (6 - lastNG (ps.map (·.2)) (p.1.fmod 2).toNat p.2)).take (7 - (6 - lastNG (ps.map (·.2)) (p.1.fmod 2).toNat p.2)))) = true := h3
  rw [lastNG_eq, rowG_eq, Bool.and_eq_true] at h4
  exact ⟨Nat.le_of_ble_eq_true h4.1, h4.2⟩
theorem ltb_antisymm : ∀ {a b : List Nat}, ltCps a b = false → ltCps b a = false → a = b
  | [], [], _, _ => rfl
  | [], _ :: _, h, _ => by simp [ltCps] at h
  | _ :: _, [], _, h => by simp [ltCps] at h
  | x :: a, y :: b, h1, h2 => by
    simp only [ltCps, Bool.or_eq_false_iff, decide_eq_false_iff_not, Bool.and_eq_false_iff, beq_eq_false_iff_ne] at h1 h2
    have e : x = y := by omega
    subst e
    rw [ltb_antisymm (a := a) (b := b) (h1.2.resolve_left fun h => h rfl) (h2.2.resolve_left fun h => h rfl)]
theorem risen_unique : ∀ {a b : List (List Nat)}, a.Perm b → risen a = true → risen b = true → a = b
  | [], b, h, _, _ => (List.nil_perm.mp h).symm
  | x :: a, [], h, _, _ => absurd h.length_eq (by simp)
  | x :: a, y :: b, h, h1, h2 => by
    rw [risen, Bool.and_eq_true] at h1 h2
    have hx : x ∈ y :: b := h.subset (.head _)
    have hy : y ∈ x :: a := h.symm.subset (.head _)
    have e : x = y := by
      rcases List.mem_cons.mp hx with e | hx
      · exact e
      · rcases List.mem_cons.mp hy with e | hy
        · exact e.symm
        · have k1 := List.all_eq_true.mp h2.1 x hx
          have k2 := List.all_eq_true.mp h1.1 y hy
          exact ltb_antisymm (by simpa using k1) (by simpa using k2)
    subst e
    rw [risen_unique (List.Perm.cons_inv h) h1.2 h2.2]
end Mine
end

section
open PySem PySem.W PyProof.Rows PySem.Calls
namespace Mine
section
variable {M : Model} {A : Around} {E : Value → Shared → Prop} {s : Shared} {env : Env} {base : Heap} {L : Addr} {m : Str → Option Value}
/-- a def's own cell is set: what else is in the ledger stays -/
theorem store_cellN {x : Str} {c : Addr} {o : Obj} {v₀ : Option Value} {v : Value} {news : List (Addr × Obj)} {Q : Unit → Shared → Prop} (F : Fr base L s.heap m) (N : News base L s.heap ((c, o) :: news)) (hd : o.data = .cell v₀) (hap : ∀ p ∈ news, p.1 ≠ c)
    (hk : env.scope.kind = .function) (hl : env.kindOf x = some .cell) (hc : env.cells.lookup x = some c)
    (h : ∀ h' o', Fr base L h' m → News base L h' ((c, o') :: news) → o'.data = .cell (some v) → Q () { s with heap := h' }) : wpAny M A (storeName env x v) Q E s := by
  obtain ⟨g1, g2, g3⟩ := N _ (.head _)
  refine wpAny_storeName_cell hk hl hc ⟨o, g1, hd⟩ fun h' hv' hs => ?_
  obtain ⟨o', ho', hd'⟩ := hv'
  refine h h' o' (F.change hs g2 g3) (fun p hp => ?_) hd'
  rcases List.mem_cons.mp hp with rfl | hp
  · exact ⟨ho', g2, g3⟩
  · obtain ⟨q1, q2, q3⟩ := N p (.tail _ hp)
    exact ⟨(hs.2 _ (hap p hp)).trans q1, q2, q3⟩
end
/-- what a call made, beside what was there -/
theorem news_join {base h h' : Heap} {L : Addr} {m : Str → Option Value} {a b : List (Addr × Obj)} (F : Fr base L h m) (N : News base L h a) (k : Mine.Keeps h h') (hb : ∀ p ∈ b, h'.get? p.1 = some p.2 ∧ h.get? p.1 = none) : News base L h' (a ++ b) := by
  intro p hp
  rcases List.mem_append.mp hp with hp | hp
  · exact N.grown k p hp
  · obtain ⟨h1, h2⟩ := hb p hp
    refine ⟨h1, fun e => ?_, ?_⟩
    · obtain ⟨o, _, _, ho, _⟩ := F.ns
      rw [← e, h2] at ho
      cases ho
    · cases e : base.get? p.1 with
      | none => rfl
      | some o => rw [F.keep _ _ e] at h2; cases h2
end Mine
namespace Mine
theorem Grown.digits {k : Nat} {ps : List (Int × List Nat)} (h : Grown k ps) : k ≤ 6 → ∀ p ∈ ps, ∀ c ∈ p.2, 48 ≤ c ∧ c ≤ 52 := by
  induction h with
  | root rest => intro _ p hp c hc; rw [List.mem_singleton.mp hp] at hc; cases hc
  | step rest q hG hq ih =>
    intro hk p hp c hc
    rcases List.mem_append.mp hp with hp | hp
    · exact ih (by omega) p hp c hc
    · rw [List.mem_singleton.mp hp] at hc
      rcases List.mem_append.mp hc with hc | hc
      · exact ih (by omega) q hq c hc
      · have := hG.hangs q.2
        rw [List.mem_singleton.mp hc]
        omega
end Mine
end

section
open PySem PySem.W PyProof.Rows PySem.Calls PySem.Spec
namespace Mine
theorem ltb_trans : ∀ {a b c : List Nat}, ltCps b a = false → ltCps c b = false → ltCps c a = false
  | _, _, [], h1, h2 => by
    rename_i a b
    cases a with
    | nil => rfl
    | cons x a =>
      cases b with
      | nil => simp [ltCps] at h1
      | cons y b => simp [ltCps] at h2
  | [], _, _ :: _, _, _ => rfl
  | _ :: _, [], _ :: _, h1, _ => by simp [ltCps] at h1
  | x :: a, y :: b, z :: c, h1, h2 => by
    simp only [ltCps, Bool.or_eq_false_iff, decide_eq_false_iff_not, Bool.and_eq_false_iff, beq_eq_false_iff_ne] at h1 h2 ⊢
    refine ⟨by omega, ?_⟩
    by_cases e : z = x
    · right
      exact ltb_trans (h1.2.resolve_left (by omega)) (h2.2.resolve_left (by omega))
    · exact .inl e
theorem rising_all : ∀ {L : List (List Nat)} {p : List Nat}, risingS (ofL p) (L.map ofL) = true → (∀ y ∈ L, ltCps y p = false) ∧ risen L = true
  | [], _, _ => ⟨(fun _ h => nomatch h), rfl⟩
  | x :: r, p, h => by
    have h' : (!ltCps x p && risingS (ofL x) (r.map ofL)) = true := h
    rw [Bool.and_eq_true] at h'
    obtain ⟨h1, h2⟩ := h'
    obtain ⟨k1, k2⟩ := rising_all h2
    have hx : ltCps x p = false := by simpa using h1
    refine ⟨fun y hy => ?_, ?_⟩
    · rcases List.mem_cons.mp hy with rfl | hy
      · exact hx
      · exact ltb_trans hx (k1 y hy)
    · rw [risen, Bool.and_eq_true]
      exact ⟨List.all_eq_true.mpr fun y hy => by rw [k1 y hy]; rfl, k2⟩
theorem risen_sorted {L : List (List Nat)} (h : sortedS (L.map ofL) = true) : risen L = true := by
  cases L with
  | nil => rfl
  | cons x r =>
    obtain ⟨k1, k2⟩ := rising_all (L := r) (p := x) h
    rw [risen, Bool.and_eq_true]
    exact ⟨List.all_eq_true.mpr fun y hy => by rw [k1 y hy]; rfl, k2⟩
theorem strs_back : ∀ {ss : List Str}, (∀ x ∈ ss, ∃ l, x = ofL l) → ∃ L : List (List Nat), ss = L.map ofL
  | [], _ => ⟨[], rfl⟩
  | x :: r, h => by
    obtain ⟨l, rfl⟩ := h x (.head _)
    obtain ⟨L, rfl⟩ := strs_back fun y hy => h y (.tail _ hy)
    exact ⟨l :: L, rfl⟩
theorem perm_back {α β : Type} {f : α → β} (hf : ∀ x y, f x = f y → x = y) {a b : List α} (h : (a.map f).Perm (b.map f)) : a.Perm b := by
  induction a generalizing b with
  | nil =>
    have := h.length_eq
    cases b with
    | nil => exact .nil
    | cons _ _ => simp at this
  | cons x a ih =>
    have hx : f x ∈ b.map f := h.subset (.head _)
    obtain ⟨y, hy, e⟩ := List.mem_map.mp hx
    obtain rfl := hf _ _ e
    obtain ⟨b1, b2, rfl⟩ := List.append_of_mem hy
    have h2 : (f y :: a.map f).Perm (f y :: (b1 ++ b2).map f) := by
      refine h.trans ?_
      simp only [List.map_append, List.map_cons]
      exact (List.perm_middle (a := f y) (l₁ := b1.map f) (l₂ := b2.map f))
    exact ((ih (List.Perm.cons_inv h2)).cons y).trans List.perm_middle.symm
theorem sorted_is {ps : List (Int × List Nat)} (hG : Grown 6 ps) {ss : List Str} (hp : ss.Perm ((ps.map (·.2)).map ofL)) (hs : sortedS ss = true) : ss = (isort (ps.map (·.2))).map ofL := by
  obtain ⟨L, rfl⟩ := strs_back (ss := ss) fun x hx => by
    obtain ⟨l, _, e⟩ := List.mem_map.mp (hp.subset hx)
    exact ⟨l, e.symm⟩
  have h1 : L.Perm (ps.map (·.2)) := perm_back (fun _ _ => ofL_inj) hp
  rw [risen_unique (h1.trans (tree_perm hG).symm) (risen_sorted hs) (tree_risen hG)]
theorem isort_len {ps : List (Int × List Nat)} (hG : Grown 6 ps) : (isort (ps.map (·.2))).length = 6 := by
  rw [(tree_perm hG).length_eq, List.length_map, hG.len]
theorem counts_len {ps : List (Int × List Nat)} (hG : Grown 6 ps) : (countsOf ps).length = 6 := by
  unfold countsOf
  rw [List.length_map, isort_len hG]
theorem counts_get {ps : List (Int × List Nat)} {i : Nat} {a : List Nat} (h : (isort (ps.map (·.2)))[i]? = some a) : (countsOf ps)[i]? = some (belowL ps a).length := by
  unfold countsOf
  rw [List.getElem?_map, h, hangs_eq]
  rfl
/-- all rows but the first -/
def restL (ps : List (Int × List Nat)) (n : Nat) (f : List Nat → List Nat) : List (List Nat) :=
  List.replicate (n + 1) 46 :: [] :: (ps.map (fun p => f (rowL p.1 p.2)) ++ [List.replicate (n + 1) 46])
theorem rest_dot (ps : List (Int × List Nat)) (n : Nat) (f : List Nat → List Nat) : (restL ps n f).map dotL = restL ps (n + 1) (fun w => dotL (f w)) := by
  have h : dotL (List.replicate (n + 1) 46) = List.replicate (n + 1 + 1) 46 := dotN_dots 1 n
  unfold restL
  rw [List.map_cons, List.map_cons, List.map_append, List.map_map, List.map_singleton, h]
  rfl
theorem rest_cut (ps : List (Int × List Nat)) (n : Nat) (f : List Nat → List Nat) : cutL [9] (List.replicate (n + 1) 46) [] (ps.map fun p => f (rowL p.1 p.2)) (List.replicate (n + 1) 46) = [9] :: restL ps n (fun w => (f w).tail) := by
  unfold cutL restL
  rw [List.map_map]
  rfl
structure MailOk (ps : List (Int × List Nat)) (n : Nat) (f : List Nat → List Nat) : Prop where
  six : ps.length = 6
  few : n ≤ 10
  len : ∀ p ∈ ps, (f (rowL p.1 p.2)).length ≤ 100
  pass : ∀ p ∈ ps, Pass (f (rowL p.1 p.2))
theorem MailOk.each {ps : List (Int × List Nat)} {n : Nat} {f : List Nat → List Nat} (h : MailOk ps n f) : ∀ r ∈ [9] :: restL ps n f, r.length ≤ 100 ∧ Pass r := by
  have hd : (List.replicate (n + 1) 46).length ≤ 100 ∧ Pass (List.replicate (n + 1) 46) := ⟨by rw [List.length_replicate]; have := h.few; omega, Pass.rep _⟩
  intro r hr
  unfold restL at hr
  simp only [List.mem_cons, List.mem_append, List.mem_map, List.not_mem_nil, or_false] at hr
  rcases hr with rfl | rfl | rfl | ⟨p, hp, rfl⟩ | rfl
  · exact ⟨by decide, fun c hc => by rw [List.mem_singleton.mp hc]; decide⟩
  · exact hd
  · exact ⟨by decide, fun c hc => by cases hc⟩
  · exact ⟨h.len p hp, h.pass p hp⟩
  · exact hd
theorem MailOk.small {ps : List (Int × List Nat)} {n : Nat} {f : List Nat → List Nat} (h : MailOk ps n f) : Small (restL ps n f) where
  len := by have := h.six; unfold restL; simp; omega
  each := fun r hr => by have := (h.each r (.tail _ hr)).1; omega
theorem MailOk.free {ps : List (Int × List Nat)} {n : Nat} {f : List Nat → List Nat} (h : MailOk ps n f) : Free ([9] :: restL ps n f) := fun r hr c hc => ((h.each r hr).2 c hc).1
theorem MailOk.ok {ps : List (Int × List Nat)} {n : Nat} {f : List Nat → List Nat} (h : MailOk ps n f) : OkRows ([9] :: restL ps n f) := fun r hr c hc => ((h.each r hr).2 c hc).2
theorem sum_take : ∀ {l : List Nat} {i c : Nat}, l[i]? = some c → (l.take i).sum + c ≤ l.sum
  | [], _, _, h => by simp at h
  | d :: l, 0, c, h => by
    obtain rfl : d = c := by simpa using h
    simp
  | d :: l, i + 1, c, h => by
    have := sum_take (l := l) (i := i) (c := c) (by simpa using h)
    simp only [List.take_succ_cons, List.sum_cons]
    omega
theorem mail_ok {ps : List (Int × List Nat)} (hG : Grown 6 ps) {i j c : Nat} (hc : (countsOf ps)[i]? = some c) (hj : j ≤ c) : MailOk ps (((countsOf ps).take i).sum + j) (fun w => dotN j (runN ((countsOf ps).take i) w)) where
  six := hG.len
  few := by
    have h1 := sum_take hc
    have h2 := tree_sum hG
    omega
  len := fun p hp => Nat.le_trans (dotN_ge _ hj) (runOk_at (tree_row hG hp).2 hc).2
  pass := fun p hp => ((pass_row p.1 p.2).run).dots
theorem mail_ne {ps : List (Int × List Nat)} (hG : Grown 6 ps) {i c : Nat} (hc : (countsOf ps)[i]? = some c) : ∀ r ∈ ps.map (fun p => dotN c (runN ((countsOf ps).take i) (rowL p.1 p.2))), r ≠ [] := by
  intro r hr
  obtain ⟨p, hp, rfl⟩ := List.mem_map.mp hr
  exact (runOk_at (tree_row hG hp).2 hc).1
theorem mail_next {ps : List (Int × List Nat)} {i c : Nat} (hc : (countsOf ps)[i]? = some c) :
    restL ps (((countsOf ps).take i).sum + c) (fun w => (dotN c (runN ((countsOf ps).take i) w)).tail) = restL ps ((countsOf ps).take (i + 1)).sum (runN ((countsOf ps).take (i + 1))) := by
  have e : (countsOf ps).take (i + 1) = (countsOf ps).take i ++ [c] := by rw [List.take_add_one, hc]; rfl
  rw [e, List.sum_append]
  congr 1
  funext w
  rw [runN_snoc]
theorem mail_end {ps : List (Int × List Nat)} (hG : Grown 6 ps) : restL ps ((countsOf ps).take 6).sum (runN ((countsOf ps).take 6)) = List.replicate 6 46 :: [] :: (ps.map (fun p => lastL ps p.1 p.2) ++ [List.replicate 6 46]) := by
  have e : (countsOf ps).take 6 = countsOf ps := List.take_of_length_le (by rw [counts_len hG]; exact Nat.le_refl _)
  rw [e, tree_sum hG]
  unfold restL
  congr 3
  exact List.map_congr_left fun p hp => runOk_end (tree_row hG hp).2
theorem last_pass {ps : List (Int × List Nat)} (p : Int × List Nat) : Pass (lastL ps p.1 p.2) := fun c hc => pass_rot p.1 c (List.mem_of_mem_drop (List.mem_of_mem_take hc))
end Mine
end

section
open PySem PySem.W PyProof.Rows PySem.Calls PySem.Spec PySem.SeqAt
namespace Mine
theorem eqvAll_strs : ∀ ss : List Str, PyData.eqvAll (ss.map .str) (ss.map .str) = true
  | [] => rfl
  | x :: r => by
    show (PyData.eqv (.str x) (.str x) && PyData.eqvAll (r.map .str) (r.map .str)) = true
    rw [eqvAll_strs r, Bool.and_true]
    simp [PyData.eqv]
theorem reads_strs {h : Heap} {a : Addr} {vs : List Value} {ss : List Str} (hl : h.IsList a vs.toArray) (hi : StrsAre vs ss) : Reads h (.ref a) (.list (ss.map PyData.str)) [a] := by
  obtain ⟨o, ho, hc, n, hd⟩ := hl
  exact Reads.list ho hc hd (by simpa using StrsAre.reads h hi)
theorem shaped_strs {ss : List Str} (h : ss.all PyData.strOk = true) : shaped (.list (ss.map .str)) = true := by
  show (PyData.canLay0 (.list (ss.map PyData.str)) && decide (PyData.depth (.list (ss.map PyData.str)) ≤ 64)) = true
  rw [Bool.and_eq_true]
  refine ⟨?_, decide_eq_true ?_⟩
  · simp only [PyData.canLay0]
    rw [canLayAll_strs']
    exact h
  · simp only [PyData.depth, depthAll_strs']
    decide
section
variable {prog : Program} {w : World} {A : Around} {E : Value → Shared → Prop} {s : Shared}
theorem eq_strs {a b : Addr} {vs us : List Value} {ss : List Str} {Q : Value → Shared → Prop} (hl : s.heap.IsList a vs.toArray) (hi : StrsAre vs ss) (hl' : s.heap.IsList b us.toArray) (hi' : StrsAre us ss) (hok : ss.all PyData.strOk = true) (hu : A.units + 64 < cLine)
    (h : Q (.bool true) s) : wpAny (model prog w) A (compareOp .Eq (.ref a) (.ref b)) Q E s :=
  eq_dataH (reads_strs hl hi) (reads_strs hl' hi') (shaped_strs hok) (shaped_strs hok) hu (by simp only [PyData.eqv]; rw [eqvAll_strs]; exact h)
end
theorem okC_lt {c : Nat} (h : Co.okC c = true) : c < 0x110000 := by
  unfold Co.okC at h
  simp only [Bool.or_eq_true, decide_eq_true_eq, beq_iff_eq] at h
  omega
theorem strOk_pass {l : List Nat} (h : Pass l) : PyData.strOk (ofL l) = true := by
  unfold PyData.strOk
  rw [← Array.all_toList]
  exact List.all_eq_true.mpr fun c hc => decide_eq_true (okC_lt (h c hc).2)
end Mine
namespace Mine
theorem all2_ints {α : Type} {f : α → Int} {ps : List α} {vs : List Value} (h : All2 (fun p v => IV (f p) v) ps vs) : ∀ v ∈ vs, ∃ n t, v = .int n t := by
  induction h with
  | nil => exact fun v hv => nomatch hv
  | cons h _ ih =>
    intro v hv
    rcases List.mem_cons.mp hv with rfl | hv
    · obtain ⟨t, e⟩ := h
      exact ⟨_, t, e⟩
    · exact ih v hv
end Mine
end

section
open PySem PySem.W PyProof.Rows PySem.Calls
namespace Mine
section
variable {prog : Program} {w : World} {A : Around} {E : Value → Shared → Prop} {s : Shared} {env : Env} {h₀ : Heap} {x : Str} {body : List Stmt} {Q : Flow → Shared → Prop}
theorem iter_listO {l : Addr} {items : Array Value} {m₀ : Str → Option Value} {news : List (Addr × Obj)} (J : Nat → (Str → Option Value) → List (Addr × Obj) → Prop)
    (hh : A.handled = none) (hl : s.heap.IsList l items) (hlL : l ≠ env.locals) (F : Fr h₀ env.locals s.heap m₀) (N : News h₀ env.locals s.heap news) (h0 : J 0 m₀ news)
    (turn : ∀ I i v h tk m₁ news₁ own, items[i]? = some v → J i m₁ news₁ → (∀ p ∈ news₁, p.1 ∉ [I]) → (∃ oI, (I, oI) ∈ own ∧ oI.cls = .type "list_iterator") → Fr h₀ env.locals h (fun z => if z = x then some v else m₁ z) → News h₀ env.locals h (own ++ news₁) →
      wpAny (model prog w) A (execs body env) (TurnJ h₀ env.locals [I] own (J (i + 1)) Q { s with heap := h, toks := tk }) E { s with heap := h, toks := tk })
    (done : ∀ h tk m' news', Fr h₀ env.locals h m' → News h₀ env.locals h news' → J items.size m' news' → Q .next { s with heap := h, toks := tk }) :
    wpAny (model prog w) A (pyIter (.ref l)) (fun it s₂ => LoopAtV prog w A h₀ env x body Q E it s₂) E s := by
  obtain ⟨ol, hol, _⟩ := id hl
  have hne : l ≠ s.heap.objs.size := Nat.ne_of_lt (Heap.lt_size hol)
  refine wpAny_pyIter_list hl ?_
  have W := Walks.list (prog := prog) (w := w) hh s.heap.objs.size l hne items
  refine ⟨_, _, _, items.size, _, _, m₀, news, J, rfl, W, ?_, ?_, ?_, ⟨⟨_, Heap.get?_push_size _ rfl, rfl, rfl⟩, hl.at fun o e => Heap.get?_push_of_some _ e⟩, F.push _, fun p hp => ⟨Heap.get?_push_of_some _ (N p hp).1, (N p hp).2⟩, h0, ?_, fun h' tk m' news' F' N' _ hJ => done h' tk m' news' F' N' hJ⟩
  · intro hm
    rcases List.mem_cons.mp hm with e | hm
    · exact absurd F.ns.lt (e ▸ Nat.lt_irrefl _)
    · exact hlL (List.mem_singleton.mp hm).symm
  · intro b hb
    rw [List.mem_singleton.mp hb]
    exact next_is_new F
  · intro p hp hI
    exact absurd (Heap.lt_size (N p hp).1) ((List.mem_singleton.mp hI) ▸ Nat.lt_irrefl _)
  · rintro i v m₁ news₁ s₁ own ⟨hh', tk', rfl⟩ hin hP hJ hoff hown _ hall hSt F₁ N₁
    obtain ⟨⟨o, ho, hoc, _⟩, _⟩ := id hSt
    refine wpAny_mono (turn _ i v hh' tk' m₁ news₁ own hP hJ hoff ⟨o, hall _ (.head _) (next_is_new F) _ ho, hoc⟩ F₁ N₁) (fun f s₂ p => ?_) fun _ _ e => e
    cases f with
    | ret v => exact .ret p
    | brk => exact .brk p
    | next => obtain ⟨h', tk, m', news', e, F', N', hn, hm⟩ := p; exact .next ⟨rfl, h', tk, m', news', e, F', N', hn, hm⟩
    | cont => obtain ⟨h', tk, m', news', e, F', N', hn, hm⟩ := p; exact .cont ⟨rfl, h', tk, m', news', e, F', N', hn, hm⟩
end
/-- what the loops of the law keep -/
def LawJ (c : Addr) (o2 : Obj) (tl : List (Addr × Obj)) (rows : List (List Nat)) (m : Str → Option Value) (nw : List (Addr × Obj)) : Prop :=
  ∃ R vsR kR n1 t1 n2 t2, nw = (R, lobj vsR kR) :: (c, o2) :: tl ∧ m (Str.ofString "rows") = some (.ref R) ∧ m (Str.ofString "sendings") = some (.int n1 t1) ∧ m (Str.ofString "margins") = some (.int n2 t2) ∧ All2 SV rows vsR
theorem LawJ.next {h₀ h' : Heap} {L c R I : Addr} {o2 oI : Obj} {tl own N1 : List (Addr × Obj)} {rows : List (List Nat)} {m' : Str → Option Value} {vsR : List Value} {kR tk : Nat} {n1 n2 : Int} {t1 t2 : Tok} {Q : Flow → Shared → Prop} {s₁ : Shared} {p0 : Addr × Obj}
    (F : Fr h₀ L h' m') (N : News h₀ L h' N1) (hR : (R, lobj vsR kR) ∈ N1) (sub : ∀ p ∈ own ++ ((c, o2) :: tl), p ∈ N1) (hI : (I, oI) ∈ own) (hIc : oI.cls = .type "list_iterator") (hw : ∀ p ∈ p0 :: (c, o2) :: tl, p.1 ∉ [I])
    (h1 : m' (Str.ofString "rows") = some (.ref R)) (h2 : m' (Str.ofString "sendings") = some (.int n1 t1)) (h3 : m' (Str.ofString "margins") = some (.int n2 t2)) (hst : All2 SV rows vsR) :
    TurnJ h₀ L [I] own (LawJ c o2 tl rows) Q s₁ .next { s₁ with heap := h', toks := tk } := by
  have hne : R ≠ I := fun e => by
    have a1 := (N _ hR).1
    have a2 := (N _ (sub _ (List.mem_append_left _ hI))).1
    rw [e] at a1
    have e2 : oI = lobj vsR kR := Option.some.inj (a2.symm.trans a1)
    rw [e2] at hIc
    exact absurd (show Value.type "list" = Value.type "list_iterator" from hIc) (by decide)
  refine TurnJ.next F (News.perm N ?_) ?_ ⟨R, vsR, kR, n1, t1, n2, t2, rfl, h1, h2, h3, hst⟩
  · intro p hp
    rcases List.mem_append.mp hp with hp | hp
    · exact sub _ (List.mem_append_left _ hp)
    · rcases List.mem_cons.mp hp with rfl | hp
      · exact hR
      · exact sub _ (List.mem_append_right _ hp)
  · intro p hp
    rcases List.mem_cons.mp hp with rfl | hp
    · exact fun e => hne (List.mem_singleton.mp e)
    · exact hw p (.tail _ hp)
theorem map_law0 {m : Str → Option Value} {R : Addr} {n1 n2 : Int} {t1 t2 : Tok} (h1 : m (Str.ofString "rows") = some (.ref R)) (h2 : m (Str.ofString "sendings") = some (.int n1 t1)) (h3 : m (Str.ofString "margins") = some (.int n2 t2)) :
    m = fun z => if z = Str.ofString "rows" then some (.ref R) else if z = Str.ofString "sendings" then some (.int n1 t1) else if z = Str.ofString "margins" then some (.int n2 t2) else m z := by
  funext z
  by_cases hp : z = Str.ofString "rows"
  · rw [if_pos hp, hp, h1]
  · rw [if_neg hp]
    by_cases ho : z = Str.ofString "sendings"
    · rw [if_pos ho, ho, h2]
    · rw [if_neg ho]
      by_cases hs : z = Str.ofString "margins"
      · rw [if_pos hs, hs, h3]
      · rw [if_neg hs]
theorem map_law {m : Str → Option Value} {x : Str} {v : Option Value} {R : Addr} {n1 n2 : Int} {t1 t2 : Tok} (h1 : m (Str.ofString "rows") = some (.ref R)) (h2 : m (Str.ofString "sendings") = some (.int n1 t1)) (h3 : m (Str.ofString "margins") = some (.int n2 t2)) :
    (fun z => if z = x then v else m z) = fun z => if z = x then v else if z = Str.ofString "rows" then some (.ref R) else if z = Str.ofString "sendings" then some (.int n1 t1) else if z = Str.ofString "margins" then some (.int n2 t2) else m z := by
  funext z
  by_cases hx : z = x
  · rw [if_pos hx, if_pos hx]
  · rw [if_neg hx, if_neg hx]
    exact congrFun (map_law0 h1 h2 h3) z
end Mine
namespace Mine
theorem law_start {h₀ h : Heap} {L c R : Addr} {o2 : Obj} {tl N1 : List (Addr × Obj)} {rows : List (List Nat)} {m : Str → Option Value} {vsR : List Value} {kR : Nat} {n1 n2 : Int} {t1 t2 : Tok} (_ : Fr h₀ L h m) (N : News h₀ L h N1)
    (h1 : m (Str.ofString "rows") = some (.ref R)) (h2 : m (Str.ofString "sendings") = some (.int n1 t1)) (h3 : m (Str.ofString "margins") = some (.int n2 t2)) (hR : (R, lobj vsR kR) ∈ N1) (hc : (c, o2) ∈ N1) (ht : ∀ p ∈ tl, p ∈ N1) (hst : All2 SV rows vsR) :
    ∃ nw, News h₀ L h nw ∧ LawJ c o2 tl rows m nw := by
  refine ⟨(R, lobj vsR kR) :: (c, o2) :: tl, News.perm N ?_, R, vsR, kR, n1, t1, n2, t2, rfl, h1, h2, h3, hst⟩
  intro p hp
  rcases List.mem_cons.mp hp with rfl | hp
  · exact hR
  · rcases List.mem_cons.mp hp with rfl | hp
    · exact hc
    · exact ht p hp
theorem tab_is : Str.ofString "\t" = ofL [9] := by decide +kernel
theorem dots6_is : Str.ofString "......" = ofL (List.replicate 6 46) := by decide +kernel
theorem rows_start {ps : List (Int × List Nat)} {ys : List Value} {t1 t2 t3 t4 : Tok} (h : All2 (fun p v => SV (rowL p.1 p.2) v) ps ys) :
    All2 SV ([9] :: restL ps ((countsOf ps).take 0).sum (runN ((countsOf ps).take 0))) ([Value.str (Str.ofString "\t") t1, Value.str (Str.ofString ".") t2, Value.str (Str.ofString "") t3] ++ ys ++ [Value.str (Str.ofString ".") t4]) :=
  .cons ⟨t1, congrArg (fun z => Value.str z t1) tab_is⟩ (.cons ⟨t2, congrArg (fun z => Value.str z t2) dot_is⟩ (.cons ⟨t3, congrArg (fun z => Value.str z t3) empty_is⟩
    (All2.append (All2.map (f := fun p : Int × List Nat => runN [] (rowL p.1 p.2)) (fun _ _ h => h) h) (.cons ⟨t4, congrArg (fun z => Value.str z t4) dot_is⟩ .nil))))
end Mine
namespace Mine
theorem cut_row {ps : List (Int × List Nat)} {i c : Nat} (hc : (countsOf ps)[i]? = some c) :
    cutL [9] (List.replicate (((countsOf ps).take i).sum + c + 1) 46) [] (ps.map fun p => dotN c (runN ((countsOf ps).take i) (rowL p.1 p.2))) (List.replicate (((countsOf ps).take i).sum + c + 1) 46) = [9] :: restL ps ((countsOf ps).take (i + 1)).sum (runN ((countsOf ps).take (i + 1))) :=
  (rest_cut ps (((countsOf ps).take i).sum + c) fun w => dotN c (runN ((countsOf ps).take i) w)).trans (congrArg _ (mail_next hc))
end Mine
namespace Mine
/-- the rows that are asked for -/
def dueL (ps : List (Int × List Nat)) : List (List Nat) := [9] :: List.replicate 6 46 :: [] :: (ps.map (fun p => lastL ps p.1 p.2) ++ [List.replicate 6 46])
theorem rows_end {ps : List (Int × List Nat)} {ys : List Value} {t1 t2 t3 t4 : Tok} (h : All2 (fun p v => SV (lastL ps p.1 p.2) v) ps ys) :
    All2 SV (dueL ps) ([Value.str (Str.ofString "\t") t1, Value.str (Str.ofString "......") t2, Value.str (Str.ofString "") t3] ++ ys ++ [Value.str (Str.ofString "......") t4]) :=
  .cons ⟨t1, congrArg (fun z => Value.str z t1) tab_is⟩ (.cons ⟨t2, congrArg (fun z => Value.str z t2) dots6_is⟩ (.cons ⟨t3, congrArg (fun z => Value.str z t3) empty_is⟩
    (All2.append (All2.map (f := fun p : Int × List Nat => lastL ps p.1 p.2) (fun _ _ h => h) h) (.cons ⟨t4, congrArg (fun z => Value.str z t4) dots6_is⟩ .nil))))
theorem due_ok (ps : List (Int × List Nat)) : ((dueL ps).map ofL).all PyData.strOk = true := by
  refine List.all_eq_true.mpr fun x hx => ?_
  obtain ⟨r, hr, rfl⟩ := List.mem_map.mp hx
  refine strOk_pass ?_
  unfold dueL at hr
  simp only [List.mem_cons, List.mem_append, List.mem_map, List.not_mem_nil, or_false] at hr
  rcases hr with rfl | rfl | rfl | ⟨p, hp, rfl⟩ | rfl
  · intro c hc; rw [List.mem_singleton.mp hc]; decide
  · exact Pass.rep _
  · intro c hc; cases hc
  · exact last_pass p
  · exact Pass.rep _
end Mine
end

section
open PySem PySem.W PyProof.Rows PySem.Calls
set_option maxHeartbeats 4000000
namespace Mine

local macro_rules | `(tactic| walk_at "getMethod ref") => `(tactic| (k_here; (with_reducible show wpAny _ _ (getMethod (Value.ref _) (PySem.Str.ofString "sub") _) _ _ _); k_dflt (first | refine getMethod_pat (pat43 (by k_in)) ?_ | refine getMethod_pat (pat53 (by k_in)) ?_ | refine getMethod_pat (pat48 (by k_in)) ?_)))
local macro_rules | `(tactic| walk_at "mine kept") => `(tactic| ((with_reducible rename Mine.Keeps _ _ => kk0); (with_reducible rename Fr _ _ _ _ => kF0); (with_reducible rename News _ _ _ _ => kN0); k_dflt ((have F' := Fr.keeps kF0 kk0); (have N' := News.grown kN0 kk0)); clear kk0; (try k_sweep)))

local macro_rules | `(tactic| walk_at "exec For") => `(tactic| (k_here; refine stop ?_))
local macro_rules | `(tactic| walk_at "exec For Name") => `(tactic| (k_here; refine stop ?_))
local macro_rules | `(tactic| walk_at "exec For Name Call cons nil") => `(tactic| (k_here; refine stop ?_))
local macro_rules | `(tactic| walk_at "exec For Tuple") => `(tactic| (k_here; refine stop ?_))
local macro_rules | `(tactic| walk_at "pyIter") => `(tactic| (k_here; refine stop ?_))
local macro_rules | `(tactic| walk_at "pyIter str") => `(tactic| (k_here; refine stop ?_))
local macro_rules | `(tactic| walk_at "pyIter ref") => `(tactic| (k_here; refine stop ?_))
local macro_rules | `(tactic| walk_at "eval ListComp") => `(tactic| (k_here; refine stop ?_))
local macro_rules | `(tactic| walk_at "call ref") => `(tactic| (k_here; plain_pass; refine stop ?_))

local macro_rules | `(tactic| walk_at "call type:enumerate") => `(tactic| (k_here; refine stop ?_))
local macro_rules | `(tactic| walk_at "exec For Tuple Call cons nil") => `(tactic| (k_here; refine stop ?_))
local macro_rules | `(tactic| walk_at "exec For Tuple Call") => `(tactic| (k_here; refine stop ?_))

local macro_rules | `(tactic| walk_at "setItem ref int") => `(tactic| (k_here; refine stop ?_))

local macro_rules | `(tactic| walk_at "call builtin:str.encode") => `(tactic| (k_here; refine stop ?_))
local macro_rules | `(tactic| walk_at "call builtin:bytes.decode") => `(tactic| (k_here; refine stop ?_))
local macro_rules | `(tactic| walk_at "call builtin:str.join") => `(tactic| (k_here; refine stop ?_))
local macro_rules | `(tactic| walk_at "getMethod str") => `(tactic| (k_here; k_dflt (with_reducible refine Co.getMethod_enc ?_)))

local macro_rules | `(tactic| walk_at "exec Assign cons ListComp") => `(tactic| (k_here; refine stop ?_))

local macro_rules | `(tactic| walk_at "subscriptTail Name Slice ref ref") => `(tactic| (k_here; refine stop ?_))
local macro_rules | `(tactic| walk_at "call builtin:sum") => `(tactic| (k_here; refine stop ?_))

local macro_rules | `(tactic| walk_at "eval Name") => `(tactic| (k_dflt (first
  | (refine' blockName ?a ?b ?c ?d ?_ ?e; (case a => exact rfl); (case b => exact rfl); (case c => assumption); (case d => assumption); (case e => decide))
  | (refine' blockCell ?a ?b ?c ?d ?f ?_ ?e; (case a => exact rfl); (case b => exact rfl); (case c => exact rfl); (case d => assumption); (case f => assumption); (case e => decide)))))

local macro_rules | `(tactic| walk_at "eval Name") => `(tactic| (k_dflt (first
  | (refine' blockGlobal ?k1 ?k2 ?k3 ?k4 ?_ ?g ?a ?b ?c; (case k1 => assumption); (case k2 => assumption); (case k3 => assumption); (case k4 => k_is); (case g => rfl); (case a => rfl); (case b => rfl); (case c => decide))
  | (refine' blockBuilt ?k1 ?k2 ?k3 ?k4 ?v ?n ?_ ?g ?g2 ?a ?b ?c; (case k1 => assumption); (case k2 => assumption); (case k3 => assumption); (case k4 => k_is); (case v => rfl); (case n => decide); (case g => rfl); (case g2 => rfl); (case a => rfl); (case b => rfl); (case c => decide)))))

local macro_rules | `(tactic| walk_at "mine side") => `(tactic| ((case X => exact Rdy.X (by assumption)); (case hl => exact Rdy.nolimit (by assumption)); (case ho => k_is); (case hcd => k_is); (case hr => omega); (case hb => exact BindsTo.of_eq rfl); (case c5 => decide); (case hloc => exact locs rfl); (case c2 => exact rfl); (case c3 => exact rfl); (case c4 => exact rfl)))
local macro_rules | `(tactic| walk_at "mine go") => `(tactic| repeat' (first | (k_unfold; (try dsimp only)) | (walk1; (try dsimp only)) | fail "no step"))

local macro_rules | `(tactic| walk_at "mine sideC") => `(tactic| ((case X => exact Rdy.X (by assumption)); (case hl => exact Rdy.nolimit (by assumption)); (case ho => k_is); (case hcd => k_is); (case hr => omega); (case hb => exact BindsTo.of_eq rfl); (case hkd => exact rfl); (case hnd => decide +kernel); (case c2 => exact rfl); (case c3 => exact rfl); (case c4 => exact rfl)))
section
variable {prog : Program} {w : World} {A : Around} {s : Shared} {E : Value → Shared → Prop} {Q : Value → Shared → Prop}

local macro_rules | `(tactic| walk_at "mine ready") => `(tactic| exact ⟨by k_in, _, _, _, Top.keeps (by k_asm) (Fr.keep (by k_asm))⟩)
local macro_rules | `(tactic| walk_at "mine depth") => `(tactic| (simp only [depth_deeper]; omega))
local macro_rules | `(tactic| walk_at "mine list") => `(tactic| exact Heap.IsList.at (by assumption) (fun o e => Fr.keep (by assumption) _ _ e))

local macro_rules | `(tactic| walk_at "storeName") => `(tactic| (k_here; (with_reducible show wpAny _ _ (storeName _ (PySem.Str.ofString "places") _) _ _ _); refine stop ?_))
local macro_rules | `(tactic| walk_at "compareOp Eq ref ref") => `(tactic| (k_here; refine stop ?_))
local macro_rules | `(tactic| walk_at "call builtin:sorted") => `(tactic| (k_here; refine stop ?_))
local macro_rules | `(tactic| walk_at "binaryOp Add ref ref") => `(tactic| (k_here; (with_reducible show wpAny _ _ (binaryOp _ (Value.ref _) (Value.ref _)) _ _ _); k_dflt (refine' add_lists ?F ?N ?a ?b ?_ ?z; (case F => k_asm); (case N => k_asm); (case a => exact News.isList (by k_asm) (by k_mem)); (case b => exact News.isList (by k_asm) (by k_mem)); (case z => (rw [sizeLine_eq]; (try simp only [List.length_append, List.length_cons, List.length_nil]); omega))); intro h' F' N'; (try k_sweep)))
theorem law_spec {l : Addr} {vs : List Value} (R : Rdy w s.heap) (hdp : A.depth + 80 < recursionLimit) (hh : A.handled = none) (hlist : s.heap.IsList l vs.toArray) (hints : ∀ v ∈ vs, ∃ n t, v = .int n t) (hlen : vs.length ≤ 63) (hu : A.units + 100 < cLine)
   (hQ : ∀ h' tk', Keeps s.heap h' → Q (.bool true) { s with heap := h', toks := tk' }) :
   wpAny (model prog w) A (call (.ref 129) [.ref l]) Q E s := by
  k_dflt (refine' enterC (K := Mine.hd.heap_39 _) (binds := [(Str.ofString "script", .ref l)]) ?X ?hl ?ho ?hcd ?hr ?hb ?hkd ?hnd ?_ ?c2 ?c3 ?c4)
  walk_at "mine sideC"
  obtain ⟨X, T⟩ := R
  obtain ⟨mean, mg, mb, T⟩ := T
  intro h₁ tk cells F N Y
  k_cells Y
  generalize hQ' : (fun (fl : Flow) (s' : Shared) => Q (match fl with | .ret v => v | _ => .none) s') = Q'
  walk_at "mine go"
  refine places_spec ?rr1 ?dd1 hh (hlist.at fun o e => Fr.keep (by assumption) _ _ e) hints hlen ?_
  case rr1 => walk_at "mine ready"
  case dd1 => walk_at "mine depth"
  intro D ps vs0 k0 news h' tk' kk' hnw hDm hPN hG
  with_reducible rename Fr _ _ _ _ => F0
  with_reducible rename News _ _ _ _ => N0
  with_reducible rename (_ = Data.cell _) => hcell
  have hap : ∀ p ∈ news, p.1 ≠ s.heap.objs.size + 1 := fun p hp e => by
    have h1 := (hnw p hp).2
    have h2 := (N0 _ (.head _)).1
    rw [e] at h1
    exact absurd (h1.symm.trans h2) (by simp)
  have N1 : News s.heap s.heap.objs.size h' ((_, _) :: news) := news_join F0 N0 kk' hnw
  have F1 := Fr.keeps F0 kk'
  clear N0 F0 kk' hnw
  walk_at "mine go"
  refine store_cellN F1 N1 hcell hap rfl rfl rfl ?_
  intro h2 o2 F2 N2 hcell2
  clear N1 F1 hcell
  walk_at "mine go"
  refine comp_enter [] (fun _ => rfl) rfl rfl (by decide) ?_
  walk_at "mine go"
  with_reducible rename Fr _ _ _ _ => F3
  with_reducible rename News _ _ _ _ => N3
  have hpl3 := places_news N3 (D := D) (vs := vs0) (k := k0) (a := news) (by repeat' (first | exact hDm | apply List.Mem.tail)) (fun p hp => by repeat' (first | exact hp | apply List.Mem.tail)) hPN
  refine CompAt.pairs (fun p v => SV (rowL p.1 p.2) v) (fun _ => true) hh (by decide) rfl rfl rfl (by decide) hpl3 (by rw [hG.len]; decide) ?_ ?_ ?_
  · rintro r a t t' C s₂ m₂ E' ha ⟨h, tk, rfl⟩ hn h1 h2 hk
    exact wpAny_tests_nil ⟨rfl, _, _, rfl, fun _ _ e => e⟩
  · rintro r a t t' C s₂ m₂ E' ha hp ⟨h, tk, rfl⟩ hn h1 h2 hk
    have hbk : Mine.Keeps s.heap h := fun b o e => hk b o (F3.keep b o e)
    have hbk2 : Mine.Keeps h h := fun b o e => e
    walk_at "mine go"
    have hd := hG.digits (by decide) _ ha
    have hdp2 := hG.depth _ ha
    refine row_spec ⟨fun a o e => hbk _ _ (X a o e), mean, mg, mb, T.keeps hbk⟩ ?dd2 hh (fun c hc => by have := hd c hc; omega) (by simp only at hdp2; omega) ?_
    case dd2 => walk_at "mine depth"
    intro t4 h4 tk4 hk4
    exact ⟨⟨t4, rfl⟩, keeps_of (s := { s with heap := h, toks := _ }) hk4⟩
  · refine compDone_fr F3 N3 fun D3 ys3 k3 h3 tk3 hD3 hkk3 hys3 F4 N4 => ?_
    clear F3 N3
    have hyl3 := hys3.length
    rw [show List.filter (fun _ => true) ps = ps from List.filter_eq_self.mpr fun _ _ => rfl] at hyl3 hys3
    rw [hG.len] at hyl3
    walk_at "mine go"
    refine comp_enter [] (fun _ => rfl) rfl rfl (by decide) ?_
    walk_at "mine go"
    with_reducible rename Fr _ _ _ _ => F5
    with_reducible rename News _ _ _ _ => N5
    have hpl5 := places_news N5 (D := D) (vs := vs0) (k := k0) (a := news) (by repeat' (first | exact hDm | apply List.Mem.tail)) (fun p hp => by repeat' (first | exact hp | apply List.Mem.tail)) hPN
    refine CompAt.pairs (fun p v => IV p.1 v) (fun _ => true) hh (by decide) rfl rfl rfl (by decide) hpl5 (by rw [hG.len]; decide) ?_ ?_ ?_
    · rintro r a t t' C s₂ m₂ E' ha ⟨h, tk, rfl⟩ hn h1 h2 hk
      exact wpAny_tests_nil ⟨rfl, _, _, rfl, fun _ _ e => e⟩
    · rintro r a t t' C s₂ m₂ E' ha hp ⟨h, tk, rfl⟩ hn h1 h2 hk
      walk_at "mine go"
      · exact ⟨t, rfl⟩
      · exact keeps_of (s := { s with heap := h, toks := _ }) fun _ _ e => e
    refine compDone_fr F5 N5 fun D5 ys5 k5 h5 tk5 hD5 hkk5 hys5 F6 N6 => ?_
    clear F5 N5
    walk_at "mine go"
    obtain ⟨ms5, hms5⟩ := ints_some ys5 (all2_ints hys5)
    refine LSm.sum_ints F6 N6 hh ⟨_, (N6 _ (.head _)).1, rfl, k5, rfl⟩ hms5 ?_
    intro h7 tk7 t7 F7 N7
    clear F6 N6
    walk_at "mine go"
    refine For_invV s.heap rfl rfl ?_
    walk_at "mine go"
    refine comp_enter [] (fun _ => rfl) rfl rfl (by decide) ?_
    walk_at "mine go"
    with_reducible rename Fr _ _ _ _ => F8
    with_reducible rename News _ _ _ _ => N8
    have hpl8 := places_news N8 (D := D) (vs := vs0) (k := k0) (a := news) (by repeat' (first | exact hDm | apply List.Mem.tail)) (fun p hp => by repeat' (first | exact hp | apply List.Mem.tail)) hPN
    refine CompAt.pairs (fun p v => SV p.2 v) (fun _ => true) hh (by decide) rfl rfl rfl (by decide) hpl8 (by rw [hG.len]; decide) ?_ ?_ ?_
    · rintro r a t t' C s₂ m₂ E' ha ⟨h, tk, rfl⟩ hn h1 h2 hk
      exact wpAny_tests_nil ⟨rfl, _, _, rfl, fun _ _ e => e⟩
    · rintro r a t t' C s₂ m₂ E' ha hp ⟨h, tk, rfl⟩ hn h1 h2 hk
      walk_at "mine go"
      · exact ⟨t', rfl⟩
      · exact keeps_of (s := { s with heap := h, toks := _ }) fun _ _ e => e
    refine compDone_fr F8 N8 fun D9 ys9 k9 h9 tk9 hD9 hkk9 hys9 F9 N9 => ?_
    clear F8 N8
    walk_at "mine go"
    have hss9 := below_all hys9
    rw [show List.filter (fun _ => true) ps = ps from List.filter_eq_self.mpr fun _ _ => rfl] at hss9
    have hyl9 := strs_len hss9
    rw [List.length_map, List.length_map, hG.len] at hyl9
    refine sorted_N_str F9 N9 ⟨_, (N9 _ (.head _)).1, rfl, k9, rfl⟩ hss9 (by omega) ?_
    intro h10 vs10 ss10 e10 F10 N10 hss10 hp10 hs10
    clear F9 N9
    obtain rfl := sorted_is hG hp10 hs10
    clear hp10 hs10
    walk_at "mine go"
    obtain ⟨nw, Nw, hJ0⟩ := law_start F10 N10 (if_neg (by decide) |>.trans (if_neg (by decide) |>.trans (if_pos rfl))) (if_neg (by decide) |>.trans (if_pos rfl)) (if_pos rfl) (by repeat' (first | exact .head _ | apply List.Mem.tail)) (c := s.heap.objs.size + 1) (o2 := o2) (by repeat' (first | exact .head _ | apply List.Mem.tail)) (tl := news) (fun p hp => by repeat' (first | exact hp | apply List.Mem.tail)) (rows_start hys3)
    refine iter_listO (fun i => LawJ (s.heap.objs.size + 1) o2 news ([9] :: restL ps ((countsOf ps).take i).sum (runN ((countsOf ps).take i)))) hh (items := vs10.toArray) (News.isList N10 (.head _)) (N10 _ (.head _)).2.1 F10 Nw hJ0 ?_ ?_
    · rintro I i v h tk m₁ news₁ own hv ⟨R, vsR, kR, n1, t1, n2, t2, rfl, hm1, hm2, hm3, hst⟩ hw ⟨oI, hI, hIc⟩ F N
      clear F10 N10 Nw hJ0 hss9 hyl9 hkk9 hys9 hpl8 hms5 hys5 hpl5 hkk5 hkk3 hpl3 hyl3 hys3 hap
      replace F : Fr s.heap s.heap.objs.size _ _ := F
      rw [map_law hm1 hm2 hm3] at F
      replace N : News s.heap s.heap.objs.size h ((R, lobj vsR kR) :: (_, o2) :: (own ++ news)) := News.perm N fun p hp => by
        rcases List.mem_cons.mp hp with rfl | hp
        · exact List.mem_append_right _ (.head _)
        · rcases List.mem_cons.mp hp with rfl | hp
          · exact List.mem_append_right _ (.tail _ (.head _))
          · rcases List.mem_append.mp hp with hp | hp
            · exact List.mem_append_left _ hp
            · exact List.mem_append_right _ (.tail _ (.tail _ hp))
      obtain ⟨y, t, hy, rfl⟩ := strs_get hss10 (by simpa using hv)
      rw [List.getElem?_map] at hy
      obtain ⟨a, ha, rfl⟩ := Option.map_eq_some_iff.mp hy
      clear hy hv
      have hc := counts_get ha
      walk_at "mine go"
      refine For_invV s.heap rfl rfl ?_
      walk_at "mine go"
      with_reducible rename Fr _ _ _ _ => F1
      with_reducible rename News _ _ _ _ => N1
      have hpl := places_news N1 (D := D) (vs := vs0) (k := k0) (a := news) (by repeat' (first | exact List.mem_append_right _ hDm | apply List.Mem.tail)) (fun p hp => by repeat' (first | exact List.mem_append_right _ hp | apply List.Mem.tail)) hPN
      refine below_spec ?rr1b ?dd1b hh hpl (by rw [hG.len]; decide) (fun p hp => by have := hG.depth p hp; omega) ?_
      case rr1b => walk_at "mine ready"
      case dd1b => walk_at "mine depth"
      intro D2 vs2 k2 h8 tk8 kk8 hD2 hg2 hst2
      have N2 := news_add F1 N1 kk8 hD2 hg2
      have F2 := Fr.keeps F1 kk8
      have hl2 := strs_len hst2
      rw [List.length_map] at hl2
      clear F1 N1 kk8 hpl hst2
      walk_at "mine go"
      obtain ⟨nw2, Nw2, hJ2⟩ := law_start F2 N2 (if_neg (by decide) |>.trans (if_pos rfl)) (if_neg (by decide) |>.trans (if_neg (by decide) |>.trans (if_pos rfl))) (if_neg (by decide) |>.trans (if_neg (by decide) |>.trans (if_neg (by decide) |>.trans (if_pos rfl)))) (vsR := vsR) (kR := kR) (by repeat' (first | exact .head _ | apply List.Mem.tail)) (c := s.heap.objs.size + 1) (o2 := o2) (by repeat' (first | exact .head _ | apply List.Mem.tail)) (tl := own ++ news) (fun p hp => by repeat' (first | exact hp | apply List.Mem.tail)) hst
      refine iter_listO (fun j => LawJ (s.heap.objs.size + 1) o2 (own ++ news) ([9] :: restL ps (((countsOf ps).take i).sum + j) (fun w => dotN j (runN ((countsOf ps).take i) w)))) hh (items := vs2.toArray) (News.isList N2 (.head _)) (N2 _ (.head _)).2.1 F2 Nw2 hJ2 ?_ ?_
      · rintro I2 j v2 h tk m₂ news₂ own2 hv2 ⟨R, vsR, kR, n1, t1, n2, t2, rfl, hn1, hn2, hn3, hst⟩ hw2 ⟨oI2, hI2, hIc2⟩ F N
        clear F2 N2 Nw2 hJ2 hw hIc
        replace F : Fr s.heap s.heap.objs.size _ _ := F
        rw [map_law hn1 hn2 hn3] at F
        replace N : News s.heap s.heap.objs.size h ((R, lobj vsR kR) :: (_, o2) :: (own2 ++ (own ++ news))) := News.perm N fun p hp => by
          rcases List.mem_cons.mp hp with rfl | hp
          · exact List.mem_append_right _ (.head _)
          · rcases List.mem_cons.mp hp with rfl | hp
            · exact List.mem_append_right _ (.tail _ (.head _))
            · rcases List.mem_append.mp hp with hp | hp
              · exact List.mem_append_left _ hp
              · exact List.mem_append_right _ (.tail _ (.tail _ hp))
        have hj : j < (belowL ps a).length := by
          have := (Array.getElem?_eq_some_iff.mp hv2).1
          rw [List.size_toArray] at this
          omega
        have hM := mail_ok hG hc (Nat.le_of_lt hj)
        have hvl := hst.length
        cases hst with | cons hv0 hst => ?_
        rename_i v0 vsT
        have hvl2 : vsT.length = 9 := by
          have := hst.length
          unfold restL at this
          rw [List.length_cons, List.length_cons, List.length_append, List.length_map, hG.len, List.length_singleton] at this
          omega
        walk_at "mine go"
        with_reducible rename Fr _ _ _ _ => F1
        with_reducible rename News _ _ _ _ => N1
        refine slice_list (s := { s with heap := _, toks := _ }) F1 N1 (News.isList N1 (.head _)) .none (.int 1 _) ?_ (hsz := by rw [sizeLine_eq]; simp only [List.size_toArray, List.length_cons]; omega)
        rw [pick_upto1]
        intro h3 F3 N3
        clear F1 N1
        walk_at "mine go"
        with_reducible rename Fr _ _ _ _ => F1
        with_reducible rename News _ _ _ _ => N1
        refine slice_list (s := { s with heap := _, toks := _ }) F1 N1 (News.isList N1 (.tail _ (.head _))) (.int 1 _) .none ?_ (hsz := by rw [sizeLine_eq]; simp only [List.size_toArray, List.length_cons]; omega)
        rw [pick_from1]
        intro h4 F4 N4
        clear F1 N1
        walk_at "mine go"
        with_reducible rename Fr _ _ _ _ => F5
        with_reducible rename News _ _ _ _ => N5
        refine sent_spec (rows := restL ps (((countsOf ps).take i).sum + j) (fun w => dotN j (runN ((countsOf ps).take i) w))) ?rr1c ?dd1c hh (News.isList N5 (.head _)) (strs_all2 hst) hM.small rfl (by simp) (fun r hr => hM.free r (.tail _ hr)) (fun r hr => hM.ok r (.tail _ hr)) ?_
        case rr1c => walk_at "mine ready"
        case dd1c => walk_at "mine depth"
        rw [rest_dot]
        intro D6 vs6 k6 h6 tk6 kk6 hD6 hg6 hst6
        have N6 := news_add F5 N5 kk6 hD6 hg6
        have F6 := Fr.keeps F5 kk6
        have hl6 := strs_len hst6
        rw [List.length_map] at hl6
        have hl6' : vs6.length = 9 := by
          unfold restL at hl6
          rw [List.length_cons, List.length_cons, List.length_append, List.length_map, hG.len, List.length_singleton] at hl6
          omega
        clear F5 N5 kk6
        walk_at "mine go"
        with_reducible rename Fr _ _ _ _ => F7
        with_reducible rename News _ _ _ _ => N7
        refine LawJ.next (R := _) (vsR := [v0] ++ vs6) (kR := 0) F7 N7 (by repeat' (first | exact .head _ | apply List.Mem.tail)) ?_ hI2 hIc2 hw2 (if_pos rfl) (if_neg (by decide) |>.trans (if_pos rfl)) (if_neg (by decide) |>.trans (if_neg (by decide) |>.trans (if_neg (by decide) |>.trans (if_neg (by decide) |>.trans (if_neg (by decide) |>.trans (if_pos rfl)))))) (.cons hv0 ?_)
        · intro p hp
          rcases List.mem_append.mp hp with hp | hp
          · repeat' (first | exact List.mem_append_left _ hp | apply List.Mem.tail)
          · rcases List.mem_cons.mp hp with rfl | hp
            · repeat' (first | exact .head _ | apply List.Mem.tail)
            · repeat' (first | exact List.mem_append_right _ hp | apply List.Mem.tail)
        · have e := all2_strs hst6
          rw [Nat.add_assoc] at e
          simp only [← dotN_succ] at e
          exact e
      · rintro h tk m' news' F N ⟨R, vsR, kR, n1, t1, n2, t2, rfl, hn1, hn2, hn3, hst⟩
        clear F2 N2 Nw2 hJ2
        replace F : Fr s.heap s.heap.objs.size _ _ := F
        rw [map_law0 hn1 hn2 hn3] at F
        rw [List.size_toArray, hl2] at hst
        have hM := mail_ok hG hc (Nat.le_refl _)
        walk_at "mine go"
        with_reducible rename Fr _ _ _ _ => F5
        with_reducible rename News _ _ _ _ => N5
        refine cut_spec (r0 := [9]) (c0 := 9) (r0t := []) (r1 := List.replicate (((countsOf ps).take i).sum + (belowL ps a).length + 1) 46) (r2 := []) (mid := ps.map fun p : Int × List Nat => dotN (belowL ps a).length (runN ((countsOf ps).take i) (rowL p.1 p.2))) (last := List.replicate (((countsOf ps).take i).sum + (belowL ps a).length + 1) 46) ?rr1d ?dd1d hh (News.isList N5 (.head _)) hst (fun r hr => by have := (hM.each r hr).1; omega) (by rw [List.length_map, hG.len]; decide) (mail_ne hG hc) hM.free rfl (by decide) ?_
        case rr1d => walk_at "mine ready"
        case dd1d => walk_at "mine depth"
        rw [cut_row hc]
        intro D6 vs6 k6 h6 tk6 kk6 hD6 hg6 hst6
        have N6 := news_add F5 N5 kk6 hD6 hg6
        have F6 := Fr.keeps F5 kk6
        clear F5 N5 kk6
        walk_at "mine go"
        with_reducible rename Fr _ _ _ _ => F7
        with_reducible rename News _ _ _ _ => N7
        refine LawJ.next (R := _) (vsR := vs6) (kR := k6) F7 N7 (by repeat' (first | exact .head _ | apply List.Mem.tail)) ?_ hI hIc hw (if_pos rfl) (if_neg (by decide) |>.trans (if_neg (by decide) |>.trans (if_neg (by decide) |>.trans (if_pos rfl)))) (if_neg (by decide) |>.trans (if_pos rfl)) (all2_strs hst6)
        intro p hp
        rcases List.mem_append.mp hp with hp | hp
        · repeat' (first | exact List.mem_append_left _ hp | apply List.Mem.tail)
        · rcases List.mem_cons.mp hp with rfl | hp
          · repeat' (first | exact .head _ | apply List.Mem.tail)
          · repeat' (first | exact List.mem_append_right _ hp | apply List.Mem.tail)
    · rintro h tk m' news' F N ⟨R, vsR, kR, n1, t1, n2, t2, rfl, hn1, hn2, hn3, hst⟩
      clear F10 N10 Nw hJ0 hss9 hyl9 hkk9 hys9 hpl8 hms5 hys5 hpl5 hkk5 hkk3 hpl3 hyl3 hys3 hap
      replace F : Fr s.heap s.heap.objs.size _ _ := F
      rw [map_law0 hn1 hn2 hn3] at F
      have hl10 := strs_len hss10
      rw [List.length_map, isort_len hG] at hl10
      rw [List.size_toArray, hl10, mail_end hG] at hst
      walk_at "mine go"
      refine comp_let [(Str.ofString "places", s.heap.objs.size + 1)] rfl (fun _ => rfl) rfl rfl (by decide) ?_
      walk_at "mine go"
      with_reducible rename Fr _ _ _ _ => F1
      with_reducible rename News _ _ _ _ => N1
      have hpl1 := places_news N1 (D := D) (vs := vs0) (k := k0) (a := news) (by repeat' (first | exact hDm | apply List.Mem.tail)) (fun p hp => by repeat' (first | exact hp | apply List.Mem.tail)) hPN
      have hcg := (N1 (s.heap.objs.size + 1, o2) (by repeat' (first | exact .head _ | apply List.Mem.tail))).1
      refine CompAt.pairs (fun p v => SV (lastL ps p.1 p.2) v) (fun _ => true) hh (by decide) rfl rfl rfl (by decide) hpl1 (by rw [hG.len]; decide) ?_ ?_ ?_
      · rintro r a t t' C s₂ m₂ E' ha ⟨h, tk, rfl⟩ hn h1 h2 hk
        exact wpAny_tests_nil ⟨rfl, _, _, rfl, fun _ _ e => e⟩
      · rintro r a t t' C s₂ m₂ E' ha hp ⟨h, tk, rfl⟩ hn h1 h2 hk
        have hbk : Mine.Keeps s.heap h := fun b o e => hk b o (F1.keep b o e)
        have hc2 := hk _ _ hcg
        have hpl2 := hpl1.keeps hk
        walk_at "mine go"
        have hdp2 := hG.depth _ ha
        refine last_spec ⟨fun a o e => hbk _ _ (X a o e), mean, mg, mb, T.keeps hbk⟩ ?dd3 hh hpl2 (by rw [hG.len]; decide) (fun p hp => by have := hG.depth p hp; omega) (by simp only at hdp2; omega) (tree_row hG ha).1 ?_
        case dd3 => walk_at "mine depth"
        intro t4 h4 tk4 hk4
        exact ⟨⟨t4, rfl⟩, keeps_of (s := { s with heap := h, toks := _ }) hk4⟩
      refine compDone_letG F1 N1 (by rfl) (by rfl) fun D8 ys8 k8 h8 tk8 hD8 hys8 F2 N2 => ?_
      clear F1 N1
      replace F2 : Fr s.heap s.heap.objs.size _ _ := F2
      replace N2 : News s.heap s.heap.objs.size _ _ := N2
      have hyl8 := hys8.length
      rw [show List.filter (fun _ => true) ps = ps from List.filter_eq_self.mpr fun _ _ => rfl] at hyl8 hys8
      rw [hG.len] at hyl8
      walk_at "mine go"
      with_reducible rename Fr _ _ _ _ => F9
      with_reducible rename News _ _ _ _ => N9
      refine eq_strs (ss := (dueL ps).map ofL) (News.isList (items := vsR.toArray) (n := kR) N9 (by repeat' (first | exact .head _ | apply List.Mem.tail))) (strs_all2 hst) (News.isList N9 (.head _)) (strs_all2 (rows_end hys8)) (due_ok ps) (by rw [units_deeper]; omega) ?_
      subst hQ'
      exact hQ _ _ F9.keep
end
end Mine
end

open PySem PySem.W PyProof.Rows PySem.Calls
set_option maxHeartbeats 8000000
namespace Mine
theorem end_true {c : ClaimW} {cl : Str → Option Addr} {mean : ExcName → Option Value} {args : List WData} {s₁ : Shared} {h : Heap} {t : Nat} (k : Mine.Keeps s₁.heap h) (hg : s₁.gens = #[]) (hr : ∀ cls, c.raises args cls = false) (hp : c.post args (.bool true) args = true) :
    GoodWG c cl mean args s₁ (.ok (.ret (.bool true))) { s₁ with heap := h, toks := t } :=
  ⟨.inl ⟨_, _, [], rfl, hr, ReadsW.bool true, hp, fun _ => ⟨List.nodup_nil, fun _ hm => (nomatch hm)⟩⟩, OldK.of_keep k, rfl, AllBare.of_eq hg⟩
end Mine
theorem PySem.Challenge.cw_sc0022_01_holds : PySem.Challenge.rw_sc0022_01.Holds :=
  Mine.hd (by
  k_fill
  intro w s₀ s₁ mg mb G Y fa o pm cd doc dV kV ho hd hcd hD hmg hg args vals as hpre hlay hrd hwl hlo
  have KX := kIn_of Y
  have X := (Ground.X G).1
  have V := (Ground.X G).2
  refine Ground.open G ?_
  intro T B D TE TW
  have efa : fa = 129 := by
    have e1 := mg_of (n := Str.ofString "law") (v := .ref 129) KX T.g (by k_is)
    have e2 : some (Value.ref fa) = some (Value.ref 129) := hmg.symm.trans e1
    injection e2 with e3
    injection e3
  subst efa
  clear hmg hD hd hcd
  wrow_args hpre hlay hrd hwl hlo
  with_reducible rename Heap.IsList _ _ _ => hlist
  with_reducible rename IntsAre _ _ => hints
  have hlen := IntsAre.length hints
  refine Mine.law_spec ⟨KX, _, _, _, T⟩ (by decide) rfl hlist (Mine.ints_each hints) (by omega) (by decide) ?_
  intro h' tk' k
  refine Mine.end_true k hg (fun _ => rfl) ?_
  wrow_post)
