import PyProof.Rows.All
import Wide.All
import OpenK.AllK
import Wide.FinOn
import PySem.Builtin.Re_Pattern.W2All
import PySem.Builtin.Sre.Common
import PySem.Challenge.RW_ph0086_01

-- Rf
section
set_option linter.all false
set_option maxRecDepth 100000
set_option Elab.async false
namespace Mine
open PySem PySem.Calls PyProof.Rows

theorem plainAttrs_rp : PlainAttrs "re.Pattern" :=
  ⟨⟨"object.__getattribute__", by rw [typeLookup_type, builtinLookup_eq_fast]; kernel_rfl, PySem.F.canon_object_ga⟩, by rw [typeLookup_type, builtinLookup_eq_fast]; kernel_rfl⟩
theorem slot_rp_sub : Slot "re.Pattern" (Str.ofString "sub") "re.Pattern.sub" :=
  .of (owner := "re.Pattern") (n := "sub") (by rw [typeLookup_type, builtinLookup_eq_fast]; kernel_rfl) (by decide +kernel) (by decide +kernel) (by decide +kernel)
    (by first | exact .inl (by decide +kernel) | exact .inr (by decide +kernel)) (by rw [isSubtype_type]; kernel_rfl)
theorem type_rp_sub : typeOf (.builtin "re.Pattern.sub") = pure (.type "method_descriptor") := by show builtinType _ = _; rw [builtinType_eq_fast]; kernel_rfl
theorem entry_rp_sub : entryFor table "re.Pattern.sub" = some Builtin.«re.Pattern.sub» := entryFor_of_tree (by kernel_rfl)
theorem entry_rp_loop : entryFor table "re.Pattern.sub.loop" = some Builtin.«re.Pattern.sub.loop» := entryFor_of_tree (by kernel_rfl)
theorem args_rp_sub (a b c : Value) : argsOk "re.Pattern.sub" ⟨[a, b, c], []⟩ := by unfold argsOk; kernel_rfl
theorem plain_rp_loop : plainId "re.Pattern.sub.loop" = true := by decide +kernel
theorem named_rp (f r s : Value) : Builtin.Re.reNamed "re.Pattern.sub" "sub" ["repl", "string", "count"] 2 [r, s] [] = pure [some r, some s, none] := by kernel_rfl
theorem nocall_str : typeLookup (.type "str") "__call__" = pure none := by rw [typeLookup_type, builtinLookup_eq_fast]; kernel_rfl
end Mine
end

-- Sr
section
set_option linter.all false
set_option maxRecDepth 100000
namespace Mine
open PySem PySem.Sre PySem.Sre.M

def code1 : Array Nat := #[14, 4, 0, 1, 1, 6, 1, 16, 46, 1]
def code2 : Array Nat := #[14, 9, 4, 1, 2, 16, 10, 16, 13, 0, 7, 7, 16, 13, 16, 10, 15, 18, 5, 16, 10, 15, 13, 11, 16, 13, 5, 5, 0, 16, 10, 1, 15, 2, 0, 1]

/-- the machine comes to an end -/
def Ends (m m' : M) : Prop := ∃ k, k ≤ 2 ^ 60 ∧ runFor k m = m' ∧ m'.outcome.isSome = true
/-- in k steps to m', no end on the way told -/
def To (k : Nat) (m m' : M) : Prop := ∀ j, runFor (k + j) m = runFor j m'

theorem To.refl (m : M) : To 0 m m := fun j => by rw [Nat.zero_add]
theorem To.trans {a b : Nat} {m m' m'' : M} (h1 : To a m m') (h2 : To b m' m'') : To (a + b) m m'' := fun j => by rw [Nat.add_assoc, h1, h2]
theorem To.one {m m' : M} (h : m.outcome = none) (hs : m.step = m') : To 1 m m' := fun j => by
  rw [Nat.add_comm, runFor, h]
  simp [hs]
theorem runFor_done {m : M} (h : m.outcome.isSome = true) : ∀ j, runFor j m = m
  | 0 => rfl
  | j + 1 => by rw [runFor, if_pos h]


def mk (code text : Array Nat) (lim start last pc pos handed : Nat) (outer : Bool) (frames : List Sre.Frame) (weight : Nat) (ans : Option Bool) (sn : Seen) : M :=
  { code, text, lim, start, lastStart := last, pc, pos, handed, outermost := outer, marks := #[], frames, weight, answer := ans, seen := sn }

section
variable {text : Array Nat} {lim start last pos handed : Nat} {outer : Bool} {frames : List Sre.Frame} {wt : Nat} {sn : Seen}

/-- a literal is met -/
theorem lit_yes {code : Array Nat} {pc c : Nat} (hpc : pc < code.size) (hop : code.getD pc 0 = 16) (hw : code.getD (pc + 1) 0 = c) (hlt : pos < lim) (hc : text.getD pos 0 = c) :
    To 1 (mk code text lim start last pc pos handed outer frames wt none sn) (mk code text lim start last (pc + 2) (pos + 1) handed outer frames wt none (sn.add 16)) := by
  refine .one rfl ?_
  show (if pc < code.size then M.exec _ else _) = _
  rw [if_pos hpc]
  unfold M.exec
  have h0 : ops[(mk code text lim start last pc pos handed outer frames wt none sn).word 0]? = some .LITERAL := by
    show ops[code.getD (pc + 0) 0]? = _
    rw [Nat.add_zero, hop]; rfl
  have h0' : (mk code text lim start last pc pos handed outer frames wt none sn).word 0 = 16 := hop
  rw [h0, h0']
  show (if pos ≥ lim then _ else _) = _
  rw [if_neg (by omega)]
  have ha : accepts code pc (text.getD pos 0) (sn.add 16) = .ok (true, sn.add 16) := by
    unfold accepts
    dsimp only
    rw [hop, hw, hc]
    show Except.ok (c == c, sn.add 16) = _
    rw [beq_self_eq_true]
  show (match accepts code pc (text.getD pos 0) (sn.add 16) with | .error why => _ | .ok (false, seen) => _ | .ok (true, seen) => _) = _
  rw [ha]
  have hi : itemWidth code pc = 2 := by
    unfold itemWidth
    rw [hop]
    rfl
  show ({ mk code text lim start last pc pos handed outer frames wt none sn with seen := sn.add 16, pc := pc + itemWidth code pc, pos := pos + 1 } : M) = _
  rw [hi]
  rfl

/-- a literal is not met -/
theorem lit_no {code : Array Nat} {pc c : Nat} (hpc : pc < code.size) (hop : code.getD pc 0 = 16) (hw : code.getD (pc + 1) 0 = c) (hc : ¬ (pos < lim ∧ text.getD pos 0 = c)) :
    To 1 (mk code text lim start last pc pos handed outer frames wt none sn) (mk code text lim start last pc pos handed outer frames wt (some false) (sn.add 16)) := by
  refine .one rfl ?_
  show (if pc < code.size then M.exec _ else _) = _
  rw [if_pos hpc]
  unfold M.exec
  have h0 : ops[(mk code text lim start last pc pos handed outer frames wt none sn).word 0]? = some .LITERAL := by
    show ops[code.getD (pc + 0) 0]? = _
    rw [Nat.add_zero, hop]; rfl
  have h0' : (mk code text lim start last pc pos handed outer frames wt none sn).word 0 = 16 := hop
  rw [h0, h0']
  show (if pos ≥ lim then _ else _) = _
  by_cases hl : pos ≥ lim
  · rw [if_pos hl]; rfl
  rw [if_neg hl]
  have ha : accepts code pc (text.getD pos 0) (sn.add 16) = .ok (false, sn.add 16) := by
    unfold accepts
    dsimp only
    rw [hop, hw]
    show Except.ok (text.getD pos 0 == c, sn.add 16) = _
    have : (text.getD pos 0 == c) = false := by
      rw [beq_eq_false_iff_ne]
      exact fun e => hc ⟨by omega, e⟩
    rw [this]
  show (match accepts code pc (text.getD pos 0) (sn.add 16) with | .error why => _ | .ok (false, seen) => _ | .ok (true, seen) => _) = _
  rw [ha]
  rfl

theorem jump_ {code : Array Nat} {pc j : Nat} (hpc : pc < code.size) (hop : code.getD pc 0 = 15) (hw : code.getD (pc + 1) 0 = j) :
    To 1 (mk code text lim start last pc pos handed outer frames wt none sn) (mk code text lim start last (pc + 1 + j) pos handed outer frames wt none (sn.add 15)) := by
  refine .one rfl ?_
  show (if pc < code.size then M.exec _ else _) = _
  rw [if_pos hpc]
  unfold M.exec
  have h0 : ops[(mk code text lim start last pc pos handed outer frames wt none sn).word 0]? = some .JUMP := by
    show ops[code.getD (pc + 0) 0]? = _
    rw [Nat.add_zero, hop]; rfl
  have h0' : (mk code text lim start last pc pos handed outer frames wt none sn).word 0 = 15 := hop
  rw [h0, h0']
  show ({ mk code text lim start last pc pos handed outer frames wt none sn with seen := sn.add 15, pc := pc + 1 + code.getD (pc + 1) 0 } : M) = _
  rw [hw]
  rfl

theorem success_ {code : Array Nat} {pc : Nat} (hpc : pc < code.size) (hop : code.getD pc 0 = 1) :
    To 1 (mk code text lim start last pc pos handed outer frames wt none sn) (mk code text lim start last pc pos pos outer frames wt (some true) (sn.add 1)) := by
  refine .one rfl ?_
  show (if pc < code.size then M.exec _ else _) = _
  rw [if_pos hpc]
  unfold M.exec
  have h0 : ops[(mk code text lim start last pc pos handed outer frames wt none sn).word 0]? = some .SUCCESS := by
    show ops[code.getD (pc + 0) 0]? = _
    rw [Nat.add_zero, hop]; rfl
  have h0' : (mk code text lim start last pc pos handed outer frames wt none sn).word 0 = 1 := hop
  rw [h0, h0']
  show (if (outer && ((false && (pos != lim)) || (false && (pos == start)))) = true then _ else _) = _
  rw [if_neg (by simp)]
  rfl

def fBr (alt p : Nat) (o : Bool) : Sre.Frame := { wait := .nextBranch, pc := alt, pos := p, outermost := o }
def fSt (pc p : Nat) (o : Bool) : Sre.Frame := { wait := .nextStart, pc := pc, pos := p, outermost := o }
def fNo (pc p : Nat) (o : Bool) : Sre.Frame := { wait := .lookNot, pc := pc, pos := p, outermost := o }

theorem alternative_ {code : Array Nat} {pc alt : Nat} (ha : code.getD alt 0 ≠ 0) (hw : wt < 16777000) :
    (mk code text lim start last pc pos handed outer frames wt none sn).alternative alt {} = mk code text lim start last (alt + 1) pos pos outer (fBr alt pos outer :: frames) (wt + 1) none sn := by
  unfold alternative
  show (if (code.getD alt 0 == 0) = true then _ else _) = _
  rw [if_neg (by simpa using ha)]
  unfold M.attempt
  show (if wt + 1 + 0 > 16777216 then _ else _) = _
  rw [if_neg (by omega)]
  rfl

theorem branch_ {code : Array Nat} {pc : Nat} (hpc : pc < code.size) (hop : code.getD pc 0 = 7) (ha : code.getD (pc + 1) 0 ≠ 0) (hw : wt < 16777000) :
    To 1 (mk code text lim start last pc pos handed outer frames wt none sn) (mk code text lim start last (pc + 2) pos pos outer (fBr (pc + 1) pos outer :: frames) (wt + 1) none (sn.add 7)) := by
  refine .one rfl ?_
  show (if pc < code.size then M.exec _ else _) = _
  rw [if_pos hpc]
  unfold M.exec
  have h0 : ops[(mk code text lim start last pc pos handed outer frames wt none sn).word 0]? = some .BRANCH := by
    show ops[code.getD (pc + 0) 0]? = _
    rw [Nat.add_zero, hop]; rfl
  have h0' : (mk code text lim start last pc pos handed outer frames wt none sn).word 0 = 7 := hop
  rw [h0, h0']
  exact alternative_ (sn := sn.add 7) ha hw

theorem branchNo_ {code : Array Nat} {pc alt p j : Nat} {o : Bool} (hj : code.getD alt 0 = j) (ha : code.getD (alt + j) 0 ≠ 0) (hw : wt < 16777000) :
    To 1 (mk code text lim start last pc pos handed outer (fBr alt p o :: frames) (wt + 1) (some false) sn) (mk code text lim start last (alt + j + 1) p p o (fBr (alt + j) p o :: frames) (wt + 1) none sn) := by
  refine .one rfl ?_
  show (mk code text lim start last alt p handed o frames (wt + 1 - (1 + 0)) none sn).alternative (alt + code.getD alt 0) {} = _
  rw [hj]
  have : wt + 1 - (1 + 0) = wt := by omega
  rw [this]
  exact alternative_ ha hw
theorem branchYes_ {code : Array Nat} {pc alt p : Nat} {o : Bool} :
    To 1 (mk code text lim start last pc pos handed outer (fBr alt p o :: frames) (wt + 1) (some true) sn) (mk code text lim start last alt p handed o frames wt (some true) sn) := .one rfl rfl
theorem startYes_ {code : Array Nat} {pc q p : Nat} {o : Bool} :
    To 1 (mk code text lim start last pc pos handed outer (fSt q p o :: frames) (wt + 1) (some true) sn) (mk code text lim start last q p handed o frames wt (some true) sn) := .one rfl rfl
theorem lookYes_ {code : Array Nat} {pc q p : Nat} {o : Bool} :
    To 1 (mk code text lim start last pc pos handed outer (fNo q p o :: frames) (wt + 1) (some true) sn) (mk code text lim start last q p handed o frames wt (some false) sn) := .one rfl rfl
theorem lookNo_ {code : Array Nat} {pc q p j : Nat} {o : Bool} (hj : code.getD (q + 1) 0 = j) :
    To 1 (mk code text lim start last pc pos handed outer (fNo q p o :: frames) (wt + 1) (some false) sn) (mk code text lim start last (q + 1 + j) p handed o frames wt none sn) := by
  refine .one rfl ?_
  show ({ mk code text lim start last q p handed o frames (wt + 1 - (1 + 0)) none sn with pc := q + 1 + code.getD (q + 1) 0 } : M) = _
  rw [hj]
  rfl
theorem assertNot_ {code : Array Nat} {pc : Nat} (hpc : pc < code.size) (hop : code.getD pc 0 = 5) (h2 : code.getD (pc + 2) 0 = 0) (hw : wt < 16777000) :
    To 1 (mk code text lim start last pc pos handed outer frames wt none sn) (mk code text lim start last (pc + 3) pos pos false (fNo pc pos outer :: frames) (wt + 1) none (sn.add 5)) := by
  refine .one rfl ?_
  show (if pc < code.size then M.exec _ else _) = _
  rw [if_pos hpc]
  unfold M.exec
  have h0 : ops[(mk code text lim start last pc pos handed outer frames wt none sn).word 0]? = some .ASSERT_NOT := by
    show ops[code.getD (pc + 0) 0]? = _
    rw [Nat.add_zero, hop]; rfl
  have h0' : (mk code text lim start last pc pos handed outer frames wt none sn).word 0 = 5 := hop
  rw [h0, h0']
  show (if pos < code.getD (pc + 2) 0 then _ else _) = _
  rw [h2, if_neg (by omega)]
  unfold M.attempt
  show (if wt + 1 + 0 > 16777216 then _ else _) = _
  rw [if_neg (by omega)]
  show mk code text lim start last (pc + 3) (pos - code.getD (pc + 2) 0) (pos - code.getD (pc + 2) 0) false _ _ none _ = _
  rw [h2, Nat.sub_zero]
  rfl
theorem atLine_ {code : Array Nat} {pc : Nat} {b : Bool} (hpc : pc < code.size) (hop : code.getD pc 0 = 6) (h1 : code.getD (pc + 1) 0 = 1) (hb : (pos == 0 || text.getD (pos - 1) 0 == 10) = b) :
    ∃ sn', To 1 (mk code text lim start last pc pos handed outer frames wt none sn) (mk code text lim start last (if b then pc + 2 else pc) pos handed outer frames wt (if b then none else some false) sn') := by
  refine ⟨(sn.add 6).add 44, .one rfl ?_⟩
  show (if pc < code.size then M.exec _ else _) = _
  rw [if_pos hpc]
  unfold M.exec
  have h0 : ops[(mk code text lim start last pc pos handed outer frames wt none sn).word 0]? = some .AT := by
    show ops[code.getD (pc + 0) 0]? = _
    rw [Nat.add_zero, hop]; rfl
  have h0' : (mk code text lim start last pc pos handed outer frames wt none sn).word 0 = 6 := hop
  rw [h0, h0']
  show (match isAt (mk code text lim start last pc pos handed outer frames wt none (sn.add 6)) (code.getD (pc + 1) 0) with | .error why => _ | .ok yes => _) = _
  rw [h1]
  show (if (pos == 0 || text.getD (pos - 1) 0 == 10) = true then ({ mk code text lim start last pc pos handed outer frames wt none sn with seen := (sn.add 6).add (43 + code.getD (pc + 1) 0), pc := pc + 2 } : M) else M.say { mk code text lim start last pc pos handed outer frames wt none sn with seen := (sn.add 6).add (43 + code.getD (pc + 1) 0) } false) = _
  rw [hb, h1]
  cases b <;> rfl
theorem done_ {code : Array Nat} {pc : Nat} {b : Bool} :
    To 1 (mk code text lim start last pc pos handed outer [] wt (some b) sn) { mk code text lim start last pc pos handed outer [] wt (some b) sn with outcome := some (if b then .matched else .failed) } := .one rfl rfl
end
end Mine
end

-- Sr2
section
set_option linter.all false
set_option maxRecDepth 100000
namespace Mine
open PySem PySem.Sre PySem.Sre.M

def isNl (c : Nat) : Bool := c == 10 || c == 13

/-- what a found machine tells -/
structure Found (m : M) (s e : Nat) : Prop where
  out : m.outcome = some .matched
  s : m.start = s
  e : m.handed = e

theorem toEnds {k : Nat} {m m' : M} (h : To k m m') (ho : m'.outcome.isSome = true) (hk : k ≤ 2 ^ 60) : Ends m m' := ⟨k, hk, by have := h 0; rw [Nat.add_zero] at this; exact this, ho⟩

section
variable {text : Array Nat} {lim last : Nat} {first : Bool} {sn : Seen}

/-- an attempt of the line-end pattern at such a sign -/
theorem try2 {s : Nat} (hlt : s < lim) (hc : text.getD s 0 = 10 ∨ text.getD s 0 = 13) :
    ∃ k m', k ≤ 30 ∧ To k (mk code2 text lim s last 10 s s first [fSt 10 s first] 1 none sn) m' ∧ Found m' s (if text.getD s 0 = 13 ∧ s + 1 < lim ∧ text.getD (s + 1) 0 = 10 then s + 2 else s + 1) := by
  have b1 := branch_ (code := code2) (text := text) (lim := lim) (start := s) (last := last) (pc := 10) (pos := s) (handed := s) (outer := first) (frames := [fSt 10 s first]) (wt := 1) (sn := sn) (by decide) rfl (by decide) (by decide)
  have fin : ∀ (alt e w' : Nat) (sn : Seen), To 4 (mk code2 text lim s last 35 e s first [fBr alt s first, fSt 10 s first] 2 none sn) { mk code2 text lim s last 10 s e first [] 0 (some true) (sn.add 1) with outcome := some .matched } := fun alt e w' sn =>
    ((success_ (code := code2) (pc := 35) (by decide) rfl).trans (branchYes_ (wt := 1))).trans ((startYes_ (wt := 0)).trans (done_ (b := true)))
  rcases hc with h10 | h13
  · -- a feed
    have e : (if text.getD s 0 = 13 ∧ s + 1 < lim ∧ text.getD (s + 1) 0 = 10 then s + 2 else s + 1) = s + 1 := by rw [if_neg]; rintro ⟨h, _⟩; rw [h10] at h; cases h
    rw [e]
    have s2 := lit_no (code := code2) (text := text) (lim := lim) (start := s) (last := last) (pc := 12) (pos := s) (handed := s) (outer := first) (frames := [fBr 11 s first, fSt 10 s first]) (wt := 2) (sn := sn.add 7) (c := 13) (by decide) rfl rfl (by rintro ⟨_, h⟩; rw [h10] at h; cases h)
    have s3 := branchNo_ (code := code2) (text := text) (lim := lim) (start := s) (last := last) (pc := 12) (pos := s) (handed := s) (outer := first) (alt := 11) (p := s) (o := first) (j := 7) (frames := [fSt 10 s first]) (wt := 1) (sn := (sn.add 7).add 16) rfl (by decide) (by decide)
    have s4 := lit_yes (code := code2) (text := text) (lim := lim) (start := s) (last := last) (pc := 19) (pos := s) (handed := s) (outer := first) (frames := [fBr 18 s first, fSt 10 s first]) (wt := 2) (sn := (sn.add 7).add 16) (c := 10) (by decide) rfl rfl hlt h10
    have s5 := jump_ (code := code2) (text := text) (lim := lim) (start := s) (last := last) (pc := 21) (pos := s + 1) (handed := s) (outer := first) (frames := [fBr 18 s first, fSt 10 s first]) (wt := 2) (sn := ((sn.add 7).add 16).add 16) (j := 13) (by decide) rfl rfl
    exact ⟨_, _, by decide, (b1.trans (s2.trans (s3.trans (s4.trans s5)))).trans (fin 18 (s + 1) 0 _), ⟨rfl, rfl, rfl⟩⟩
  · have s2 := lit_yes (code := code2) (text := text) (lim := lim) (start := s) (last := last) (pc := 12) (pos := s) (handed := s) (outer := first) (frames := [fBr 11 s first, fSt 10 s first]) (wt := 2) (sn := sn.add 7) (c := 13) (by decide) rfl rfl hlt h13
    by_cases h2 : s + 1 < lim ∧ text.getD (s + 1) 0 = 10
    · rw [if_pos ⟨h13, h2⟩]
      have s3 := lit_yes (code := code2) (text := text) (lim := lim) (start := s) (last := last) (pc := 14) (pos := s + 1) (handed := s) (outer := first) (frames := [fBr 11 s first, fSt 10 s first]) (wt := 2) (sn := (sn.add 7).add 16) (c := 10) (by decide) rfl rfl h2.1 h2.2
      have s5 := jump_ (code := code2) (text := text) (lim := lim) (start := s) (last := last) (pc := 16) (pos := s + 1 + 1) (handed := s) (outer := first) (frames := [fBr 11 s first, fSt 10 s first]) (wt := 2) (sn := ((sn.add 7).add 16).add 16) (j := 18) (by decide) rfl rfl
      exact ⟨_, _, by decide, (b1.trans (s2.trans (s3.trans s5))).trans (fin 11 (s + 2) 0 _), ⟨rfl, rfl, rfl⟩⟩
    · rw [if_neg (fun h => h2 h.2)]
      have s3 := lit_no (code := code2) (text := text) (lim := lim) (start := s) (last := last) (pc := 14) (pos := s + 1) (handed := s) (outer := first) (frames := [fBr 11 s first, fSt 10 s first]) (wt := 2) (sn := (sn.add 7).add 16) (c := 10) (by decide) rfl rfl h2
      have s4 := branchNo_ (code := code2) (text := text) (lim := lim) (start := s) (last := last) (pc := 14) (pos := s + 1) (handed := s) (outer := first) (alt := 11) (p := s) (o := first) (j := 7) (frames := [fSt 10 s first]) (wt := 1) (sn := ((sn.add 7).add 16).add 16) rfl (by decide) (by decide)
      have s5 := lit_no (code := code2) (text := text) (lim := lim) (start := s) (last := last) (pc := 19) (pos := s) (handed := s) (outer := first) (frames := [fBr 18 s first, fSt 10 s first]) (wt := 2) (sn := ((sn.add 7).add 16).add 16) (c := 10) (by decide) rfl rfl (by rintro ⟨_, h⟩; rw [h13] at h; cases h)
      have s6 := branchNo_ (code := code2) (text := text) (lim := lim) (start := s) (last := last) (pc := 19) (pos := s) (handed := s) (outer := first) (alt := 18) (p := s) (o := first) (j := 5) (frames := [fSt 10 s first]) (wt := 1) (sn := (((sn.add 7).add 16).add 16).add 16) rfl (by decide) (by decide)
      have s7 := lit_yes (code := code2) (text := text) (lim := lim) (start := s) (last := last) (pc := 24) (pos := s) (handed := s) (outer := first) (frames := [fBr 23 s first, fSt 10 s first]) (wt := 2) (sn := (((sn.add 7).add 16).add 16).add 16) (c := 13) (by decide) rfl rfl hlt h13
      have s8 := assertNot_ (code := code2) (text := text) (lim := lim) (start := s) (last := last) (pc := 26) (pos := s + 1) (handed := s) (outer := first) (frames := [fBr 23 s first, fSt 10 s first]) (wt := 2) (sn := ((((sn.add 7).add 16).add 16).add 16).add 16) (by decide) rfl rfl (by decide)
      have s9 := lit_no (code := code2) (text := text) (lim := lim) (start := s) (last := last) (pc := 29) (pos := s + 1) (handed := s + 1) (outer := false) (frames := [fNo 26 (s + 1) first, fBr 23 s first, fSt 10 s first]) (wt := 3) (sn := (((((sn.add 7).add 16).add 16).add 16).add 16).add 5) (c := 10) (by decide) rfl rfl h2
      have s10 := lookNo_ (code := code2) (text := text) (lim := lim) (start := s) (last := last) (pc := 29) (pos := s + 1) (handed := s + 1) (outer := false) (q := 26) (p := s + 1) (j := 5) (o := first) (frames := [fBr 23 s first, fSt 10 s first]) (wt := 2) (sn := ((((((sn.add 7).add 16).add 16).add 16).add 16).add 5).add 16) rfl
      have s11 := jump_ (code := code2) (text := text) (lim := lim) (start := s) (last := last) (pc := 32) (pos := s + 1) (handed := s + 1) (outer := first) (frames := [fBr 23 s first, fSt 10 s first]) (wt := 2) (sn := ((((((sn.add 7).add 16).add 16).add 16).add 16).add 5).add 16) (j := 2) (by decide) rfl rfl
      have fin' : ∀ (alt e hd : Nat) (sn : Seen), To 4 (mk code2 text lim s last 35 e hd first [fBr alt s first, fSt 10 s first] 2 none sn) { mk code2 text lim s last 10 s e first [] 0 (some true) (sn.add 1) with outcome := some .matched } := fun alt e hd sn =>
        ((success_ (code := code2) (pc := 35) (by decide) rfl).trans (branchYes_ (wt := 1))).trans ((startYes_ (wt := 0)).trans (done_ (b := true)))
      exact ⟨_, _, by decide, (b1.trans (s2.trans (s3.trans (s4.trans (s5.trans (s6.trans (s7.trans (s8.trans (s9.trans (s10.trans s11)))))))))).trans (fin' 23 (s + 1) (s + 1) _), ⟨rfl, rfl, rfl⟩⟩

theorem inSet2 {c : Nat} : ∃ sn', inSet code2 c code2.size 5 true sn = .ok (isNl c, sn') := by
  by_cases h1 : c = 10
  · subst h1; exact ⟨_, rfl⟩
  by_cases h2 : c = 13
  · subst h2; exact ⟨_, rfl⟩
  have e : isNl c = false := by unfold isNl; simp [h1, h2]
  rw [e]
  have b1 : ¬ (c == 10) = true := by simpa using h1
  have b2 : ¬ (c == 13) = true := by simpa using h2
  refine ⟨((sn.add 16).add 16).add 0, ?_⟩
  show (if (c == 10) = true then Except.ok (true, sn.add 16) else if (c == 13) = true then Except.ok (true, (sn.add 16).add 16) else Except.ok (!true, ((sn.add 16).add 16).add 0)) = _
  rw [if_neg b1, if_neg b2]
  rfl
end

theorem getD_toArray (cs : List Nat) (i : Nat) : cs.toArray.getD i 0 = cs.getD i 0 := by simp [Array.getD_eq_getD_getElem?, List.getD_eq_getElem?_getD]
theorem drop_cons_of_lt {cs : List Nat} {i : Nat} (h : i < cs.length) : cs.drop i = cs.getD i 0 :: cs.drop (i + 1) := by
  rw [List.drop_eq_getElem_cons h, List.getD_eq_getElem?_getD, List.getElem?_eq_getElem h]; rfl

theorem adm2 {m : M} {cs : List Nat} (hc : m.code = code2) (ht : m.text = cs.toArray) (hl : m.lim = cs.length) : ∀ (fuel s : Nat) (sn : Seen), cs.length < s + fuel →
    ∃ sn', admitted m fuel s sn = .ok (((cs.drop s).findIdx? isNl).map (s + ·), sn') := by
  intro fuel
  induction fuel with
  | zero => intro s sn h; exact ⟨sn, by rw [List.drop_eq_nil_of_le (by omega)]; rfl⟩
  | succ fuel ih =>
    intro s sn h
    unfold admitted
    by_cases hs : s ≥ m.lim
    · rw [if_pos hs]
      exact ⟨sn, by rw [List.drop_eq_nil_of_le (by omega)]; rfl⟩
    · rw [if_neg hs]
      obtain ⟨sn', e⟩ := inSet2 (sn := sn) (c := cs.getD s 0)
      rw [hc, ht, getD_toArray, e, drop_cons_of_lt (by omega), List.findIdx?_cons]
      cases hb : isNl (cs.getD s 0) with
      | true => exact ⟨sn', by simp⟩
      | false =>
        obtain ⟨sn'', e2⟩ := ih (s + 1) sn' (by omega)
        refine ⟨sn'', ?_⟩
        show admitted m fuel (s + 1) sn' = _
        rw [e2]
        simp only [Bool.false_eq_true, if_false, Option.map_map]
        congr 3
        funext x
        simp; omega

/-- the search for a line's end -/
theorem search2 {cs : List Nat} {s : Nat} (hs : s ≤ cs.length) (hsz : cs.length < 2 ^ 30) :
    ∃ m', Ends (forSearch code2 cs.toArray 0 s cs.length false) m' ∧ (match (cs.drop s).findIdx? isNl with
      | none => m'.outcome = some .failed
      | some i => Found m' (s + i) (if cs.getD (s + i) 0 = 13 ∧ s + i + 1 < cs.length ∧ cs.getD (s + i + 1) 0 = 10 then s + i + 2 else s + i + 1)) := by
  have e0 : forSearch code2 cs.toArray 0 s cs.length false = if (decide (s > cs.length) || decide (cs.length - s < 1)) = true then (mk code2 cs.toArray cs.length s 0 10 s s true [] 0 none (({} : Seen).add 14)).say false
      else (mk code2 cs.toArray cs.length s cs.length 10 s s true [] 0 none (({} : Seen).add 14)).attemptFrom s true := rfl
  rw [e0]
  by_cases hlt : s < cs.length
  · rw [if_neg (by simp; omega)]
    have e1 : (mk code2 cs.toArray cs.length s cs.length 10 s s true [] 0 none (({} : Seen).add 14)).attemptFrom s true =
        (match admitted (mk code2 cs.toArray cs.length s cs.length 10 s s true [] 0 none (({} : Seen).add 14)) (cs.length + 1 - s) s (({} : Seen).add 14) with
        | .ok (some s', seen) => ({ mk code2 cs.toArray cs.length s cs.length 10 s s true [] 0 none (({} : Seen).add 14) with mustAdvance := false, seen } : M).attemptAt s' true
        | .ok (none, seen) => ({ mk code2 cs.toArray cs.length s cs.length 10 s s true [] 0 none (({} : Seen).add 14) with seen } : M).say false
        | .error why => (mk code2 cs.toArray cs.length s cs.length 10 s s true [] 0 none (({} : Seen).add 14)).stick why) := rfl
    obtain ⟨sn', e2⟩ := adm2 (m := mk code2 cs.toArray cs.length s cs.length 10 s s true [] 0 none (({} : Seen).add 14)) rfl rfl rfl (cs.length + 1 - s) s (({} : Seen).add 14) (by omega)
    rw [e1, e2]
    cases hf : (cs.drop s).findIdx? isNl with
    | none => exact ⟨_, toEnds (done_ (b := false)) rfl (by decide), rfl⟩
    | some i =>
      obtain ⟨hi, hp, _⟩ := List.findIdx?_eq_some_iff_getElem.mp hf
      have hil : s + i < cs.length := by rw [List.length_drop] at hi; omega
      have hci : isNl (cs.getD (s + i) 0) = true := by
        rw [List.getElem_drop] at hp
        rw [List.getD_eq_getElem?_getD, List.getElem?_eq_getElem hil]; exact hp
      have hor : cs.toArray.getD (s + i) 0 = 10 ∨ cs.toArray.getD (s + i) 0 = 13 := by
        rw [getD_toArray]
        unfold isNl at hci
        simpa using hci
      obtain ⟨k, m', hk, hto, hfd⟩ := try2 (text := cs.toArray) (lim := cs.length) (last := cs.length) (first := true) (sn := sn') hil hor
      rw [getD_toArray, getD_toArray] at hfd
      exact ⟨m', toEnds hto (by rw [hfd.out]; rfl) (by omega), hfd⟩
  · have e : s = cs.length := by omega
    rw [if_pos (by simp; omega)]
    rw [List.drop_eq_nil_of_le (by omega)]
    exact ⟨_, toEnds (done_ (b := false)) rfl (by decide), rfl⟩

/-- where a dot stands first in a row -/
def dotAt : Bool → List Nat → Option Nat
  | _, [] => none
  | b, c :: r => if b && c == 46 then some 0 else (dotAt (c == 10) r).map (· + 1)

/-- at the beginning of a row -/
def bol (cs : List Nat) (s : Nat) : Bool := s == 0 || cs.getD (s - 1) 0 == 10

theorem go1 {cs : List Nat} : ∀ (j s : Nat) (first : Bool) (st : Nat) (sn : Seen), s ≤ cs.length → cs.length - s ≤ j →
    ∃ k m', k ≤ 6 * (j + 1) ∧ To k (mk code1 cs.toArray cs.length s cs.length 5 s s first [fSt 5 s first] 1 none sn) m' ∧ (match dotAt (bol cs s) (cs.drop s) with
      | none => m'.outcome = some .failed
      | some i => Found m' (s + i) (s + i + 1)) := by
  intro j
  induction j with
  | zero =>
    intro s first st sn hs hj
    have hsl : s = cs.length := by omega
    rw [List.drop_eq_nil_of_le (by omega)]
    obtain ⟨sn1, t1⟩ := atLine_ (code := code1) (text := cs.toArray) (lim := cs.length) (start := s) (last := cs.length) (pc := 5) (pos := s) (handed := s) (outer := first) (frames := [fSt 5 s first]) (wt := 1) (sn := sn) (b := (s == 0 || cs.toArray.getD (s - 1) 0 == 10)) (by decide) rfl rfl rfl
    have fin : ∀ (pc hd : Nat) (sn : Seen), To 2 (mk code1 cs.toArray cs.length s cs.length pc s hd first [fSt 5 s first] 1 (some false) sn) { mk code1 cs.toArray cs.length s cs.length 5 s hd first [] 0 (some false) sn with outcome := some .failed } := fun pc hd sn => by
      refine To.trans (m' := mk code1 cs.toArray cs.length s cs.length 5 s hd first [] 0 (some false) sn) (.one rfl ?_) (done_ (b := false))
      show (if s < cs.length then _ else _) = _
      rw [if_neg (by omega)]
      rfl
    cases hb : (s == 0 || cs.toArray.getD (s - 1) 0 == 10) with
    | false =>
      rw [hb] at t1
      exact ⟨_, _, by decide, t1.trans (fin 5 s sn1), rfl⟩
    | true =>
      rw [hb] at t1
      have t2 := lit_no (code := code1) (text := cs.toArray) (lim := cs.length) (start := s) (last := cs.length) (pc := 7) (pos := s) (handed := s) (outer := first) (frames := [fSt 5 s first]) (wt := 1) (sn := sn1) (c := 46) (by decide) rfl rfl (by omega)
      exact ⟨_, _, by decide, (t1.trans t2).trans (fin 7 s _), rfl⟩
  | succ j ih =>
    intro s first st sn hs hj
    by_cases hsl : s = cs.length
    · obtain ⟨k, m', hk, h⟩ := ih s first st sn hs (by omega)
      exact ⟨k, m', by omega, h⟩
    have hlt : s < cs.length := by omega
    obtain ⟨sn1, t1⟩ := atLine_ (code := code1) (text := cs.toArray) (lim := cs.length) (start := s) (last := cs.length) (pc := 5) (pos := s) (handed := s) (outer := first) (frames := [fSt 5 s first]) (wt := 1) (sn := sn) (b := (s == 0 || cs.toArray.getD (s - 1) 0 == 10)) (by decide) rfl rfl rfl
    have hbol : (s == 0 || cs.toArray.getD (s - 1) 0 == 10) = bol cs s := by rw [getD_toArray]; rfl
    rw [hbol] at t1
    rw [drop_cons_of_lt hlt, dotAt]
    have hnext : (cs.getD s 0 == 10) = bol cs (s + 1) := by unfold bol; simp
    have step : ∀ (pc hd : Nat) (sn : Seen), To 1 (mk code1 cs.toArray cs.length s cs.length pc s hd first [fSt 5 s first] 1 (some false) sn) (mk code1 cs.toArray cs.length (s + 1) cs.length 5 (s + 1) (s + 1) false [fSt 5 (s + 1) false] 1 none sn) := fun pc hd sn => by
      refine .one rfl ?_
      show (if s < cs.length then _ else _) = _
      rw [if_pos hlt]
      rfl
    cases hb : bol cs s with
    | false =>
      rw [hb] at t1
      simp only [Bool.false_and, Bool.false_eq_true, if_false]
      obtain ⟨k, m', hk, hto, hm⟩ := ih (s + 1) false st sn1 (by omega) (by omega)
      refine ⟨1 + 1 + k, m', by omega, (t1.trans (step 5 s sn1)).trans hto, ?_⟩
      rw [hnext]
      cases hd : dotAt (bol cs (s + 1)) (cs.drop (s + 1)) with
      | none => rw [hd] at hm; exact hm
      | some i =>
        rw [hd] at hm
        show Found m' (s + (i + 1)) (s + (i + 1) + 1)
        have e : s + (i + 1) = s + 1 + i := by omega
        rw [e]; exact hm
    | true =>
      rw [hb] at t1
      by_cases hc : cs.getD s 0 = 46
      · have t2 := lit_yes (code := code1) (text := cs.toArray) (lim := cs.length) (start := s) (last := cs.length) (pc := 7) (pos := s) (handed := s) (outer := first) (frames := [fSt 5 s first]) (wt := 1) (sn := sn1) (c := 46) (by decide) rfl rfl hlt (by rw [getD_toArray]; exact hc)
        rw [hc]
        exact ⟨_, _, by omega, (t1.trans t2).trans (((success_ (code := code1) (pc := 9) (by decide) rfl).trans (startYes_ (wt := 0))).trans (done_ (b := true))), ⟨rfl, rfl, rfl⟩⟩
      · have t2 := lit_no (code := code1) (text := cs.toArray) (lim := cs.length) (start := s) (last := cs.length) (pc := 7) (pos := s) (handed := s) (outer := first) (frames := [fSt 5 s first]) (wt := 1) (sn := sn1) (c := 46) (by decide) rfl rfl (by rw [getD_toArray]; exact fun h => hc h.2)
        have hcb : ¬ (true && cs.getD s 0 == 46) = true := by simpa using hc
        rw [if_neg hcb]
        obtain ⟨k, m', hk, hto, hm⟩ := ih (s + 1) false st (sn1.add 16) (by omega) (by omega)
        refine ⟨1 + 1 + 1 + k, m', by omega, ((t1.trans t2).trans (step 7 s _)).trans hto, ?_⟩
        rw [hnext]
        cases hd : dotAt (bol cs (s + 1)) (cs.drop (s + 1)) with
        | none => rw [hd] at hm; exact hm
        | some i =>
          rw [hd] at hm
          show Found m' (s + (i + 1)) (s + (i + 1) + 1)
          have e : s + (i + 1) = s + 1 + i := by omega
          rw [e]; exact hm

/-- the search for a dot at a row's beginning -/
theorem search1 {cs : List Nat} {s : Nat} (hs : s ≤ cs.length) (hsz : cs.length < 2 ^ 30) :
    ∃ m', Ends (forSearch code1 cs.toArray 0 s cs.length false) m' ∧ (match dotAt (bol cs s) (cs.drop s) with
      | none => m'.outcome = some .failed
      | some i => Found m' (s + i) (s + i + 1)) := by
  have e0 : forSearch code1 cs.toArray 0 s cs.length false = if (decide (s > cs.length) || decide (cs.length - s < 1)) = true then (mk code1 cs.toArray cs.length s 0 5 s s true [] 0 none (({} : Seen).add 14)).say false
      else mk code1 cs.toArray cs.length s cs.length 5 s s true [fSt 5 s true] 1 none (({} : Seen).add 14) := rfl
  rw [e0]
  by_cases hlt : s < cs.length
  · rw [if_neg (by simp; omega)]
    obtain ⟨k, m', hk, hto, hm⟩ := go1 (cs := cs) cs.length s true 0 (({} : Seen).add 14) hs (by omega)
    refine ⟨m', toEnds hto ?_ (by omega), hm⟩
    cases hd : dotAt (bol cs s) (cs.drop s) with
    | none => rw [hd] at hm; rw [hm]; rfl
    | some i => rw [hd] at hm; rw [hm.out]; rfl
  · rw [if_pos (by simp; omega), List.drop_eq_nil_of_le (by omega)]
    exact ⟨_, toEnds (done_ (b := false)) rfl (by decide), rfl⟩
end Mine
end

-- PHead
section
open PySem PySem.W PyProof.Rows
set_option Elab.async false
namespace Mine
set_option maxRecDepth 100000 in
set_option maxHeartbeats 8000000 in
open_top hd for PySem.Challenge.rw_ph0086_01
end Mine
end

-- Fw
section
open PySem PySem.W PyProof.Rows PySem.Calls
set_option Elab.async false
set_option maxRecDepth 100000
set_option linter.all false
namespace Mine

def PR : Program := PySem.Challenge.rw_ph0086_01.row.prog
noncomputable abbrev KK (w : World) : Frag := hd.heap_39 w.params
abbrev Led := List (Addr × Obj)
abbrev Mp := Str → Option Value

/-- a tree's run, told as a structure (kept closed on purpose) -/
abbrev NoE : Value → Shared → Prop := fun _ _ => False
structure Go {α : Type} (w : World) (A : Around) (t : Sem α) (Q : α → Shared → Prop) (s : Shared) : Prop where
  run : wpAny (model PR w) A t Q NoE s

/-- the standing facts of a frame -/
structure Here (w : World) (A : Around) (env : Env) (g : Heap) (L : Addr) : Prop where
  X : (KK w).In g
  T : ∃ p loose mean mg mb, Top p loose mean mg mb g
  B : ∃ A₀ base outer, Below A₀ base outer g ∧ A.frames = some (env :: outer)
  hf : env.frame = some L
  hk : env.scope.kind = .function
  hh : A.handled = none

structure Room (A : Around) (d : Nat) : Prop where
  dep : A.depth + d < recursionLimit
  uni : A.units + 8 * d < cLine

theorem Room.deeper {A : Around} {env : Env} {d : Nat} (R : Room A (d + 1)) : Room (A.deeper env) d := by
  obtain ⟨a, b⟩ := R
  refine ⟨?_, ?_⟩
  · show A.depth + 1 + d < recursionLimit
    omega
  · show A.units + 3 + 8 * d < cLine
    omega
theorem Room.le {A : Around} {d d' : Nat} (R : Room A d) (h : d' ≤ d) : Room A d' := ⟨by have := R.1; omega, by have := R.2; omega⟩

/-- what a return does -/
abbrev RR (Q E : Value → Shared → Prop) : Result → Shared → Prop := fun r s' => match r with | .ok (.ret v) => Q v s' | .ok _ => False | .error e => E e s'

/-- the place behind a call: the callee's frame, what the caller asks -/
structure Lv (g : Heap) (L : Addr) (m : Mp) (g' : Heap) (Q : Value → Shared → Prop) (v : Value) (s' : Shared) : Prop where
  run : LeaveK g L m g' (RR Q NoE) v s'

section
variable {w : World} {A : Around} {env : Env} {g : Heap} {L : Addr} {m : Mp} {s : Shared} {news : Led} {Q E : Value → Shared → Prop}

theorem Lv.mk' {g' : Heap} {L' : Addr} {m' : Mp} {news' : Led} {v : Value} {s' : Shared} (F' : Fr g' L' s'.heap m') (N' : News g' L' s'.heap news') (k : Fr g L s'.heap m → News g L s'.heap news' → Q v s') : Lv g L m g' Q v s' :=
  ⟨L', m', news', F', N', k⟩

theorem enter {name qual : Str} {params : Arguments} {body : List Stmt} {scope : Scope} {dV kV doc pm cdv ct oc : Value} {an od : Option Addr} {osl : Array (Option Value)} {f : Addr} {args : List Value} {binds : List (Str × Value)} {d : Nat}
    (H : Here w A env g L) (F : Fr g L s.heap m) (N : News g L s.heap news) (R : Room A (d + 1))
    (ho : (KK w).lookup f = some ⟨oc, od, .func (fnOf name qual params body scope dV kV doc pm an cdv ct), osl⟩) (hcd : codeIn (KK w) cdv qual = true)
    (hbind : bindArgs (fnOf name qual params body scope dV kV doc pm an cdv ct) ⟨args, []⟩ = pure binds) (hloc : (binds.all fun x => decide (scope.names.lookup x.1 = some .local)) = true)
    (hco : scope.isCoroutine = false) (hgen : scope.isGenerator = false) (hk : scope.kind = .function) (hcell : ∀ x ∈ scope.names, x.2 ≠ .cell)
    (h : ∀ g' L' h₁ A' tk, Here w A' (envX qual scope L' f cdv []) g' L' → Fr g' L' h₁ (fun y => binds.reverse.lookup y) → News g' L' h₁ news → Room A' d →
      (∀ p ∈ news, p.1 < L') →
      Go w A' (execs body (envX qual scope L' f cdv []))
        (fun fl s' => Lv g L m g' Q (match fl with | .ret v => v | _ => .none) s') { s with heap := h₁, toks := tk }) :
    Go w A (call (.ref f) args) Q s := by
  obtain ⟨p, loose, mean, mg, mb, T⟩ := H.T
  obtain ⟨A₀, base, outer, B, hA⟩ := H.B
  refine ⟨wpAny_call (callX_plain (cl := []) B F N T.nolimit hA H.hf H.hk ((H.X.keeps F.keep) _ _ ho) rfl (codeRec_of (H.X.keeps F.keep) hcd) (by have := R.1; omega) (BindsTo.of_eq hbind) (locs hloc) (fun g' L' h₁ FG F' N' B' st lt => ?_) hcell hco hgen hk)⟩
  refine wpAny_mono (h g' L' h₁ _ _ ⟨H.X.keeps st, ⟨p, loose, mean, mg, mb, T.keeps st⟩, ⟨A, base, env :: outer, B', Around.frames_deeper hA⟩, rfl, hk, H.hh⟩ F' N' R.deeper lt).run (fun _ s' x => ?_) fun _ _ x => x.elim
  obtain ⟨L2, m2, news2, F2, N2, k⟩ := x.run
  exact ⟨L2, m2, news2, F2, N2, k⟩
end

/-- the frame's map with one name more -/
abbrev upd (m : Mp) (x : Str) (v : Value) : Mp := fun y => if y = x then some v else m y

/-- an expression that leaves the heap as it is, and gives a value of which P holds -/
structure Ev (w : World) (A : Around) (env : Env) (h : Heap) (e : Expr) (P : Value → Prop) : Prop where
  run : ∀ (s : Shared) (Q E : Value → Shared → Prop), s.heap = h → (∀ v tk, P v → Q v { s with toks := tk }) → wpAny (model PR w) A (eval e env) Q E s
def IsI (c : Int) (v : Value) : Prop := ∃ t, v = .int c t
def IsS (x : Str) (v : Value) : Prop := ∃ t, v = .str x t
theorem isI {c : Int} {t : Tok} : IsI c (.int c t) := ⟨t, rfl⟩
theorem isS {c : Str} {t : Tok} : IsS c (.str c t) := ⟨t, rfl⟩
abbrev IsV (u : Value) (v : Value) : Prop := v = u
abbrev EvI (w : World) (A : Around) (env : Env) (h : Heap) (e : Expr) (c : Int) : Prop := Ev w A env h e (IsI c)
abbrev EvS (w : World) (A : Around) (env : Env) (h : Heap) (e : Expr) (x : Str) : Prop := Ev w A env h e (IsS x)

section
variable {w : World} {A : Around} {env : Env} {g h : Heap} {L : Addr} {m : Mp} {cn : Str} {cs : Scope} {a : Addr} {ccd : Value} {cl : List (Str × Addr)} {l r e : Expr} {x : Str} {pos : Pos} {i j : Int} {v : Value} {P : Value → Prop}

theorem Ev.mono {P' : Value → Prop} (h1 : Ev w A env h e P) (h2 : ∀ v, P v → P' v) : Ev w A env h e P' := ⟨fun s Q E e0 k => h1.run s Q E e0 fun v tk hp => k v tk (h2 v hp)⟩
theorem Ev.go {s : Shared} {Q : Value → Shared → Prop} (h1 : Ev w A env s.heap e P) (k : ∀ v tk, P v → Q v { s with toks := tk }) : Go w A (eval e env) Q s := ⟨h1.run s Q NoE rfl k⟩

theorem evName (F : Fr g L h m) (hv : m x = some v) (hP : P v)
    (hk : cs.kind = .function := by rfl) (hx : (envX cn cs L a ccd cl).kindOf x = some .local := by rfl) (hd : (x == ("__debug__" : Str)) = false := by decide) :
    Ev w A (envX cn cs L a ccd cl) h (.Name x pos) P := ⟨fun s Q E e k => by
  subst e
  exact @nameX_L _ _ _ _ _ _ _ _ _ _ _ _ _ _ _ _ F hv (k v s.toks hP) hk hx hd⟩

theorem evGlob (H : Here w A env g L) (F : Fr g L h m) (hv : nsIn (KK w) mainGlobals x = some (some v)) (hP : P v)
    (hk : cs.kind = .function := by rfl) (hx : (envX cn cs L a ccd cl).kindOf x = some .globalImplicit := by rfl) (hd : (x == ("__debug__" : Str)) = false := by decide) :
    Ev w A (envX cn cs L a ccd cl) h (.Name x pos) P := ⟨fun s Q E e k => by
  subst e
  obtain ⟨p, loose, mean, mg, mb, T⟩ := H.T
  exact nameX_K F H.X (topRead_of T) hv (k v s.toks hP) hk hx hd⟩

theorem evBoot (H : Here w A env g L) (F : Fr g L h m) (hv : nsIn (KK w) mainGlobals x = some none) (hb : bootBuiltins x = some v) (hP : P v) (hn : x ≠ "__name__" := by decide)
    (hk : cs.kind = .function := by rfl) (hx : (envX cn cs L a ccd cl).kindOf x = some .globalImplicit := by rfl) (hd : (x == ("__debug__" : Str)) = false := by decide) :
    Ev w A (envX cn cs L a ccd cl) h (.Name x pos) P := ⟨fun s Q E e k => by
  subst e
  obtain ⟨p, loose, mean, mg, mb, T⟩ := H.T
  exact nameX_B F H.X (topRead_of T) hv hb hn (k v s.toks hP) hk hx hd⟩

theorem evInt {k : Nat} : EvI w A env h (.Constant (.int i) k pos) i := ⟨fun s Q E e k => wpAny_Constant_int (k _ _ isI)⟩
theorem evStr {k : Nat} : EvS w A env h (.Constant (.str x) k pos) x := ⟨fun s Q E e k => wpAny_Constant_str (k _ _ isS)⟩

theorem evBin {op : Operator} {P1 P2 P3 : Value → Prop} (h1 : Ev w A env h l P1) (h2 : Ev w A env h r P2)
    (h3 : ∀ (s : Shared) (Q E : Value → Shared → Prop) (u v : Value), s.heap = h → P1 u → P2 v → (∀ v tk, P3 v → Q v { s with toks := tk }) → wpAny (model PR w) A (binaryOp op u v) Q E s) :
    Ev w A env h (.BinOp l op r pos) P3 := ⟨fun s Q E e k =>
  wpAny_BinOp (h1.run s _ _ e fun u tk hu => h2.run { s with toks := tk } _ _ e fun v tk' hv => h3 { s with toks := tk' } _ _ u v e hu hv fun v' tk'' hp => k v' tk'' hp)⟩
theorem evBinI {op : Operator} {k : Int} (h1 : EvI w A env h l i) (h2 : EvI w A env h r j)
    (h3 : ∀ (s : Shared) (Q E : Value → Shared → Prop) (t u : Tok), (∀ t tk, Q (.int k t) { s with toks := tk }) → wpAny (model PR w) A (binaryOp op (.int i t) (.int j u)) Q E s) :
    EvI w A env h (.BinOp l op r pos) k :=
  evBin h1 h2 fun s Q E u v _ hu hv k => by obtain ⟨t, rfl⟩ := hu; obtain ⟨t', rfl⟩ := hv; exact h3 s Q E t t' fun t tk => k _ _ isI

theorem evAdd (h1 : EvI w A env h l i) (h2 : EvI w A env h r j) : EvI w A env h (.BinOp l .Add r pos) (i + j) := evBinI h1 h2 fun s Q E t u k => P.add_int (k _ _)
theorem evSub (h1 : EvI w A env h l i) (h2 : EvI w A env h r j) : EvI w A env h (.BinOp l .Sub r pos) (i - j) := evBinI h1 h2 fun s Q E t u k => P.sub_int (k _ _)
theorem evMul (h1 : EvI w A env h l i) (h2 : EvI w A env h r j) (hm : IntMulOk i j) : EvI w A env h (.BinOp l .Mult r pos) (i * j) := evBinI h1 h2 fun s Q E t u k => P.mul_int (k _ _) hm
theorem evAnd (h1 : EvI w A env h l i) (h2 : EvI w A env h r j) : EvI w A env h (.BinOp l .BitAnd r pos) (Builtin.bitAnd i j) := evBinI h1 h2 fun s Q E t u k => and_int (k _ _)
theorem evOr (h1 : EvI w A env h l i) (h2 : EvI w A env h r j) : EvI w A env h (.BinOp l .BitOr r pos) (Builtin.bitOr i j) := evBinI h1 h2 fun s Q E t u k => or_int (k _ _)
theorem evXor (h1 : EvI w A env h l i) (h2 : EvI w A env h r j) : EvI w A env h (.BinOp l .BitXor r pos) (Builtin.bitXor i j) := evBinI h1 h2 fun s Q E t u k => xor_int (k _ _)
theorem evShl (h1 : EvI w A env h l i) (h2 : EvI w A env h r j) (hn : 0 ≤ j) (hs : (Builtin.Int.intBits i : Int) + j ≤ 2 ^ 27) : EvI w A env h (.BinOp l .LShift r pos) (i * 2 ^ j.toNat) := evBinI h1 h2 fun s Q E t u k => lshift_int hn hs (k _ _)
theorem evShr (h1 : EvI w A env h l i) (h2 : EvI w A env h r j) (hn : 0 ≤ j) : EvI w A env h (.BinOp l .RShift r pos) (i.fdiv (2 ^ j.toNat)) := evBinI h1 h2 fun s Q E t u k => rshift_int hn (k _ _)
theorem evFDiv (h1 : EvI w A env h l i) (h2 : EvI w A env h r j) (hn : j ≠ 0) (hp : Builtin.divisionGoesByPylong i j = false) : EvI w A env h (.BinOp l .FloorDiv r pos) (i.fdiv j) := evBinI h1 h2 fun s Q E t u k => floordiv_int hn (k _ _) (.inl hp)
theorem evMod (h1 : EvI w A env h l i) (h2 : EvI w A env h r j) (hn : j ≠ 0) : EvI w A env h (.BinOp l .Mod r pos) (i.fmod j) := evBinI h1 h2 fun s Q E t u k => mod_int hn (k _ _)
theorem evPow (h1 : EvI w A env h l i) (h2 : EvI w A env h r j) (hn : 0 ≤ j) (hs : (Builtin.Int.intBits i : Int) * j ≤ 2 ^ 27) : EvI w A env h (.BinOp l .Pow r pos) (i ^ j.toNat) := evBinI h1 h2 fun s Q E t u k => pow_int hn hs (k _ _)
theorem evNeg (h1 : EvI w A env h l i) : EvI w A env h (.UnaryOp .USub l pos) (-i) := ⟨fun s Q E e k =>
  UnaryOp_ (h1.run s _ _ e fun u tk hu => by obtain ⟨t, rfl⟩ := hu; exact P.neg_int (k _ _ isI))⟩
theorem evInv (h1 : EvI w A env h l i) : EvI w A env h (.UnaryOp .Invert l pos) (Builtin.bitNot i) := ⟨fun s Q E e k =>
  UnaryOp_ (h1.run s _ _ e fun u tk hu => by obtain ⟨t, rfl⟩ := hu; exact PyProof.Rows.invert_int (k _ _ isI))⟩
theorem evBits {apos : Pos} {pl : Sem Bool} (h1 : EvI w A env h l i)
    (he : eval (.Call (.Attribute l (Str.ofString "bit_length") apos) [] [] pos) env = (do
      let ov ← eval l env
      standAt apos.atName
      let (f, first) ← holding [ov] (getMethod ov (Str.ofString "bit_length") pl)
      callWith pos f first (backTo pos (starEach [] env)) [])) :
    EvI w A env h (.Call (.Attribute l (Str.ofString "bit_length") apos) [] [] pos) (Builtin.Int.intBits i) := ⟨fun s Q E e k =>
  MethodCall_ (h1.run s _ _ e fun u tk hu => by obtain ⟨t, rfl⟩ := hu; exact getMethod_int_bit_length (callWith_method0 (call_int_bit_length (k _ _ isI)))) he⟩

/-- a test -/
structure EvT (w : World) (A : Around) (env : Env) (h : Heap) (e : Expr) (b : Bool) : Prop where
  run : ∀ (s : Shared) (Q : Bool → Shared → Prop) (E : Value → Shared → Prop), s.heap = h → (∀ tk, Q b { s with toks := tk }) → wpAny (model PR w) A (isTrue e env (eval e env)) Q E s

theorem evCmp {op : CmpOp} {P1 P2 : Value → Prop} {b : Bool} (h1 : Ev w A env h l P1) (h2 : Ev w A env h r P2)
    (h3 : ∀ (s : Shared) (Q E : Value → Shared → Prop) (u v : Value), s.heap = h → P1 u → P2 v → (∀ tk, Q (.bool b) { s with toks := tk }) → wpAny (model PR w) A (compareOp op u v) Q E s)
    (hm : behindInMarks op r = false := by with_unfolding_all rfl) : EvT w A env h (.Compare l [op] [r] pos) b := ⟨fun s Q E e k =>
  wpAny_isTrue_Compare1 (h1.run s _ _ e fun u tk hu => h2.run { s with toks := tk } _ _ e fun v tk' hv => h3 { s with toks := tk' } _ _ u v e hu hv fun tk'' => wpAny_truthy_bool (k tk'')) hm⟩
theorem evCmpI {op : CmpOp} {b : Bool} (h1 : EvI w A env h l i) (h2 : EvI w A env h r j)
    (h3 : ∀ (s : Shared) (Q E : Value → Shared → Prop) (t u : Tok), Q (.bool b) s → wpAny (model PR w) A (compareOp op (.int i t) (.int j u)) Q E s)
    (hm : behindInMarks op r = false := by with_unfolding_all rfl) : EvT w A env h (.Compare l [op] [r] pos) b :=
  evCmp h1 h2 (fun s Q E u v _ hu hv k => by obtain ⟨t, rfl⟩ := hu; obtain ⟨t', rfl⟩ := hv; exact h3 s Q E t t' (k s.toks)) hm
theorem evEq (h1 : EvI w A env h l i) (h2 : EvI w A env h r j) (hm : behindInMarks .Eq r = false := by with_unfolding_all rfl) : EvT w A env h (.Compare l [.Eq] [r] pos) (i == j) := evCmpI h1 h2 (fun s Q E t u k => P.eq_int k) hm
theorem evNe (h1 : EvI w A env h l i) (h2 : EvI w A env h r j) (hm : behindInMarks .NotEq r = false := by with_unfolding_all rfl) : EvT w A env h (.Compare l [.NotEq] [r] pos) (i != j) := evCmpI h1 h2 (fun s Q E t u k => P.ne_int k) hm
theorem evLt (h1 : EvI w A env h l i) (h2 : EvI w A env h r j) (hm : behindInMarks .Lt r = false := by with_unfolding_all rfl) : EvT w A env h (.Compare l [.Lt] [r] pos) (decide (i < j)) := evCmpI h1 h2 (fun s Q E t u k => P.lt_int k) hm
theorem evLe (h1 : EvI w A env h l i) (h2 : EvI w A env h r j) (hm : behindInMarks .LtE r = false := by with_unfolding_all rfl) : EvT w A env h (.Compare l [.LtE] [r] pos) (decide (i ≤ j)) := evCmpI h1 h2 (fun s Q E t u k => P.le_int k) hm
theorem evTruth (h1 : EvI w A env h e i) (he : isTrue e env (eval e env) = (do let v ← eval e env; standAt e.pos; holding [v] (truthy v)) := by rfl) : EvT w A env h e (i != 0) := ⟨fun s Q E e0 k =>
  isTrue_plain (h1.run s _ _ e0 fun u tk hu => by obtain ⟨t, rfl⟩ := hu; exact P.truthy_int (k tk)) he⟩
end

section
variable {w : World} {A : Around} {g : Heap} {L : Addr} {m : Mp} {s : Shared} {news : Led} {Q : Flow → Shared → Prop} {E : Value → Shared → Prop} {cn : Str} {cs : Scope} {a : Addr} {ccd : Value} {cl : List (Str × Addr)} {e : Expr} {x : Str} {pos pos' : Pos} {rest : List Stmt} {P : Value → Prop} {env : Env}

/-- x = e, e pure -/
theorem exAsg (F : Fr g L s.heap m) (N : News g L s.heap news) (ev : Ev w A (envX cn cs L a ccd cl) s.heap e P)
    (h : ∀ v h' tk, P v → Fr g L h' (upd m x v) → News g L h' news → Go w A (execs rest (envX cn cs L a ccd cl)) Q { s with heap := h', toks := tk })
    (hs : swapsWith e (some (.Name x pos')) pos.line (envX cn cs L a ccd cl) = pure false := by rfl)
    (hk : cs.kind = .function := by rfl) (hx : (envX cn cs L a ccd cl).kindOf x = some .local := by rfl) :
    Go w A (execs (.Assign [.Name x pos'] e pos :: rest) (envX cn cs L a ccd cl)) Q s :=
  ⟨wpAny_execs_cons (wpAny_Assign_Name (ev.run s _ _ rfl fun v tk hp => storeX_L (s := { s with toks := tk }) F N (fun h' F' N' => (h v h' (tk + 1) hp F' N').run) hk hx) hs)⟩

/-- x = i, an int -/
theorem exAsgI {i : Int} (F : Fr g L s.heap m) (N : News g L s.heap news) (ev : EvI w A (envX cn cs L a ccd cl) s.heap e i)
    (h : ∀ t h' tk, Fr g L h' (upd m x (.int i t)) → News g L h' news → Go w A (execs rest (envX cn cs L a ccd cl)) Q { s with heap := h', toks := tk })
    (hs : swapsWith e (some (.Name x pos')) pos.line (envX cn cs L a ccd cl) = pure false := by rfl)
    (hk : cs.kind = .function := by rfl) (hx : (envX cn cs L a ccd cl).kindOf x = some .local := by rfl) :
    Go w A (execs (.Assign [.Name x pos'] e pos :: rest) (envX cn cs L a ccd cl)) Q s :=
  exAsg F N ev (fun v h' tk hp F' N' => by obtain ⟨t, rfl⟩ := hp; exact h t h' tk F' N') hs hk hx

/-- x op= e on ints -/
theorem exAug {op : Operator} {i j k : Int} {t : Tok} (F : Fr g L s.heap m) (N : News g L s.heap news) (hv : m x = some (.int i t)) (ev : EvI w A (envX cn cs L a ccd cl) s.heap e j)
    (hop : ∀ (s : Shared) (Q E : Value → Shared → Prop) (t' : Tok), (∀ t tk, Q (.int k t) { s with toks := tk }) → wpAny (model PR w) A (inplaceOp op (.int i t) (.int j t')) Q E s)
    (h : ∀ t h' tk, Fr g L h' (upd m x (.int k t)) → News g L h' news → Go w A (execs rest (envX cn cs L a ccd cl)) Q { s with heap := h', toks := tk })
    (hk : cs.kind = .function := by rfl) (hx : (envX cn cs L a ccd cl).kindOf x = some .local := by rfl) :
    Go w A (execs (.AugAssign (.Name x pos') op e pos :: rest) (envX cn cs L a ccd cl)) Q s :=
  ⟨wpAny_execs_cons (wpAny_AugAssign_Name (wpAny_loadName_local hk hx F.ns hv (ev.run s _ _ rfl fun v tk hp => by
    obtain ⟨t', rfl⟩ := hp
    exact hop _ _ _ t' fun t2 tk2 => storeX_L (s := { s with toks := tk2 }) F N (fun h' F' N' => (h t2 h' (tk2 + 1) F' N').run) hk hx)))⟩
theorem exAugAdd {i j : Int} {t : Tok} (F : Fr g L s.heap m) (N : News g L s.heap news) (hv : m x = some (.int i t)) (ev : EvI w A (envX cn cs L a ccd cl) s.heap e j)
    (h : ∀ t h' tk, Fr g L h' (upd m x (.int (i + j) t)) → News g L h' news → Go w A (execs rest (envX cn cs L a ccd cl)) Q { s with heap := h', toks := tk })
    (hk : cs.kind = .function := by rfl) (hx : (envX cn cs L a ccd cl).kindOf x = some .local := by rfl) :
    Go w A (execs (.AugAssign (.Name x pos') .Add e pos :: rest) (envX cn cs L a ccd cl)) Q s := exAug F N hv ev (fun s Q E t' k => P.iadd_int (k _ _)) h hk hx
theorem exAugSub {i j : Int} {t : Tok} (F : Fr g L s.heap m) (N : News g L s.heap news) (hv : m x = some (.int i t)) (ev : EvI w A (envX cn cs L a ccd cl) s.heap e j)
    (h : ∀ t h' tk, Fr g L h' (upd m x (.int (i - j) t)) → News g L h' news → Go w A (execs rest (envX cn cs L a ccd cl)) Q { s with heap := h', toks := tk })
    (hk : cs.kind = .function := by rfl) (hx : (envX cn cs L a ccd cl).kindOf x = some .local := by rfl) :
    Go w A (execs (.AugAssign (.Name x pos') .Sub e pos :: rest) (envX cn cs L a ccd cl)) Q s := exAug F N hv ev (fun s Q E t' k => P.isub_int (k _ _)) h hk hx
theorem exAugShl {i j : Int} {t : Tok} (F : Fr g L s.heap m) (N : News g L s.heap news) (hv : m x = some (.int i t)) (ev : EvI w A (envX cn cs L a ccd cl) s.heap e j) (hn : 0 ≤ j) (hsz : (Builtin.Int.intBits i : Int) + j ≤ 2 ^ 27)
    (h : ∀ t h' tk, Fr g L h' (upd m x (.int (i * 2 ^ j.toNat) t)) → News g L h' news → Go w A (execs rest (envX cn cs L a ccd cl)) Q { s with heap := h', toks := tk })
    (hk : cs.kind = .function := by rfl) (hx : (envX cn cs L a ccd cl).kindOf x = some .local := by rfl) :
    Go w A (execs (.AugAssign (.Name x pos') .LShift e pos :: rest) (envX cn cs L a ccd cl)) Q s := exAug F N hv ev (fun s Q E t' k => ilshift_int hn hsz (k _ _)) h hk hx
theorem exAugShr {i j : Int} {t : Tok} (F : Fr g L s.heap m) (N : News g L s.heap news) (hv : m x = some (.int i t)) (ev : EvI w A (envX cn cs L a ccd cl) s.heap e j) (hn : 0 ≤ j)
    (h : ∀ t h' tk, Fr g L h' (upd m x (.int (i.fdiv (2 ^ j.toNat)) t)) → News g L h' news → Go w A (execs rest (envX cn cs L a ccd cl)) Q { s with heap := h', toks := tk })
    (hk : cs.kind = .function := by rfl) (hx : (envX cn cs L a ccd cl).kindOf x = some .local := by rfl) :
    Go w A (execs (.AugAssign (.Name x pos') .RShift e pos :: rest) (envX cn cs L a ccd cl)) Q s := exAug F N hv ev (fun s Q E t' k => irshift_int hn (k _ _)) h hk hx

/-- what stands behind a statement of a row -/
abbrev Then (w : World) (A : Around) (env : Env) (rest : List Stmt) (Q : Flow → Shared → Prop) : Flow → Shared → Prop :=
  fun f s' => match f with | .next => Go w A (execs rest env) Q s' | f => Q f s'
theorem go_then {st : Stmt} (h : Go w A (exec st env) (Then w A env rest Q) s) : Go w A (execs (st :: rest) env) Q s :=
  ⟨wpAny_execs_cons (wpAny_mono h.run (fun f s' x => by cases f <;> first | exact x.run | exact x) fun _ _ x => x)⟩

/-- if -/
theorem exIf {test : Expr} {body orelse : List Stmt} {b : Bool} (ev : EvT w A env s.heap test b)
    (h1 : b = true → ∀ tk, Go w A (execs body env) (Then w A env rest Q) { s with toks := tk })
    (h2 : b = false → ∀ tk, Go w A (execs orelse env) (Then w A env rest Q) { s with toks := tk }) :
    Go w A (execs (.If test body orelse pos :: rest) env) Q s :=
  go_then ⟨wpAny_If (ev.run s _ _ rfl fun tk => by
    cases b with
    | true => exact (h1 rfl tk).run
    | false => exact (h2 rfl tk).run)⟩

theorem exNil (h : Q .next s) : Go w A (execs [] env) Q s := ⟨wpAny_execs_nil h⟩

/-- while, by an invariant -/
theorem exWhile {test : Expr} {body : List Stmt} (I : Nat → Shared → Prop)
    (turn : ∀ n s, I n s → ∃ b, EvT w A env s.heap test b ∧ (b = true → ∀ tk, Go w A (execs body env) (fun f s3 => f = .next ∧ ∃ k, k < n ∧ I k s3) { s with toks := tk }) ∧ (b = false → ∀ tk, Go w A (execs rest env) Q { s with toks := tk }))
    (n : Nat) (h : I n s) : Go w A (execs (.While test body [] pos :: rest) env) Q s := by
  refine go_then ⟨wpAny_While (codeAny_whileLoop I (fun n s hI => ?_) n h)⟩
  obtain ⟨b, ev, h1, h2⟩ := turn n s hI
  refine ev.run s _ _ rfl fun tk => ?_
  cases b with
  | true =>
    refine wpAny_mono (h1 rfl tk).run (fun f s3 x => ?_) fun _ _ x => x.elim
    obtain ⟨rfl, k, hk, hI⟩ := x
    exact ⟨k, hk, hI⟩
  | false => exact wpAny_execs_nil (h2 rfl tk)

/-- return e, e pure -/
theorem exRet (ev : Ev w A env s.heap e P) (h : ∀ v tk, P v → Q (.ret v) { s with toks := tk }) : Go w A (execs (.Return (some e) pos :: rest) env) Q s :=
  ⟨wpAny_execs_cons (wpAny_Return_some (ev.run s _ _ rfl fun v tk hp => h v tk hp))⟩
theorem exRetE (h : Go w A (eval e env) (fun v s' => Q (.ret v) s') s) : Go w A (execs (.Return (some e) pos :: rest) env) Q s :=
  ⟨wpAny_execs_cons (wpAny_Return_some h.run)⟩
/-- x = e, any e -/
theorem exAsgE (h : Go w A (eval e (envX cn cs L a ccd cl)) (fun v s' => ∃ m' news', Fr g L s'.heap m' ∧ News g L s'.heap news' ∧ ∀ h' tk, Fr g L h' (upd m' x v) → News g L h' news' → Go w A (execs rest (envX cn cs L a ccd cl)) Q { s' with heap := h', toks := tk }) s)
    (hs : swapsWith e (some (.Name x pos')) pos.line (envX cn cs L a ccd cl) = pure false := by rfl)
    (hk : cs.kind = .function := by rfl) (hx : (envX cn cs L a ccd cl).kindOf x = some .local := by rfl) :
    Go w A (execs (.Assign [.Name x pos'] e pos :: rest) (envX cn cs L a ccd cl)) Q s :=
  ⟨wpAny_execs_cons (wpAny_Assign_Name (wpAny_mono h.run (fun v s' x => by
    obtain ⟨m', news', F', N', k⟩ := x
    exact storeX_L F' N' (fun h' F2 N2 => (k h' _ F2 N2).run) hk hx) fun _ _ x => x) hs)⟩
end

/-- a row of arguments -/
def Evs (w : World) (A : Around) (env : Env) (h : Heap) : List Expr → List (Value → Prop) → Prop
  | [], [] => True
  | e :: es, P :: Ps => Ev w A env h e P ∧ starEach (e :: es) env = (false, eval e env) :: starEach es env ∧ Evs w A env h es Ps
  | _, _ => False
def AllV : List Value → List (Value → Prop) → Prop
  | [], [] => True
  | v :: vs, P :: Ps => P v ∧ AllV vs Ps
  | _, _ => False

theorem evArgs {w : World} {A : Around} {env : Env} {pos : Pos} : ∀ {es : List Expr} {Ps : List (Value → Prop)} {s : Shared} {Q : List Value → Shared → Prop}, Evs w A env s.heap es Ps →
    (∀ vs tk, AllV vs Ps → Q vs { s with toks := tk }) → Go w A (spliced (backTo pos (starEach es env))) Q s
  := by
  intro es
  induction es with
  | nil =>
    intro Ps s Q he k
    cases Ps with
    | nil => exact ⟨args_nil (k [] s.toks trivial)⟩
    | cons P Ps => exact he.elim
  | cons e es ih =>
    intro Ps s Q he k
    cases Ps with
    | nil => exact he.elim
    | cons P Ps => exact ⟨args_cons (he.1.run s _ _ rfl fun v tk hp => (ih (s := { s with toks := tk }) he.2.2 fun vs tk' hv => k (v :: vs) tk' ⟨hp, hv⟩).run) he.2.1⟩

section
variable {w : World} {A : Around} {g : Heap} {L : Addr} {m : Mp} {s : Shared} {news : Led} {Q E : Value → Shared → Prop} {cn : Str} {cs : Scope} {a : Addr} {ccd : Value} {cl : List (Str × Addr)} {env : Env}
/-- a call of a def of the top's by its name -/
theorem callName {fn : Str} {f : Addr} {arg : Expr} {args : List Expr} {Ps : List (Value → Prop)} {p pos : Pos} (H : Here w A env g L) (F : Fr g L s.heap m)
    (hv : nsIn (KK w) mainGlobals fn = some (some (.ref f))) (hkeep : keepIn (KK w) (.ref f) = true) (evs : Evs w A (envX cn cs L a ccd cl) s.heap (arg :: args) Ps)
    (h : ∀ vs tk, AllV vs Ps → Go w A (call (.ref f) vs) Q { s with toks := tk })
    (he : eval (.Call (.Name fn p) (arg :: args) [] pos) (envX cn cs L a ccd cl) = (do callWith pos (← eval (.Name fn p) (envX cn cs L a ccd cl)) [] (backTo pos (starEach (arg :: args) (envX cn cs L a ccd cl))) (backToKw pos (keywordEach [] (envX cn cs L a ccd cl)))) := by rfl)
    (he2 : starEach (arg :: args) (envX cn cs L a ccd cl) = (false, eval arg (envX cn cs L a ccd cl)) :: starEach args (envX cn cs L a ccd cl) := by rfl) (hplain : (backTo pos (starEach args (envX cn cs L a ccd cl))).any (·.1) = false := by rfl)
    (hk : cs.kind = .function := by rfl) (hx : (envX cn cs L a ccd cl).kindOf fn = some .globalImplicit := by rfl) (hd : (fn == ("__debug__" : Str)) = false := by decide) :
    Go w A (eval (.Call (.Name fn p) (arg :: args) [] pos) (envX cn cs L a ccd cl)) Q s :=
  ⟨Call_ ((evGlob H F hv (P := IsV (.ref f)) rfl hk hx hd).run s _ _ rfl fun v tk hp => by
    subst hp
    exact callWith_K H.X hkeep (evArgs (s := { s with toks := tk }) evs fun vs tk' hvs => ⟨H.X.keeps F.keep, (h vs tk' hvs).run⟩).run he2 hplain) he⟩
end
end Mine
end

-- Pd
section
set_option linter.all false
namespace Mine
open PySem

/-- numbers below a power of two -/
theorem pow_pos' (n : Nat) : (0 : Int) < 2 ^ n := Int.pow_pos (by decide)

theorem pow_le' {m n : Nat} (h : m ≤ n) : (2 : Int) ^ m ≤ 2 ^ n := by
  have e1 : (2 : Int) ^ m = ((2 ^ m : Nat) : Int) := by simp
  have e2 : (2 : Int) ^ n = ((2 ^ n : Nat) : Int) := by simp
  have := Nat.pow_le_pow_right (n := 2) (by decide) h
  rw [e1, e2]; omega

theorem qr_unique {a b q r : Int} (hb : 0 < b) (h : q * b + r = a) (h0 : 0 ≤ r) (h1 : r < b) : q = a / b ∧ r = a % b := by
  have := (Int.ediv_emod_unique (a := a) (b := b) (q := q) (r := r) hb).mpr ⟨by rw [Int.mul_comm]; omega, h0, h1⟩
  exact ⟨this.1.symm, this.2.symm⟩

theorem fdiv_pos {a b : Int} (hb : 0 < b) : a.fdiv b = a / b := Int.fdiv_eq_ediv_of_nonneg a (by omega)
theorem fmod_pos {a b : Int} (hb : 0 < b) : a.fmod b = a % b := Int.fmod_eq_emod_of_nonneg a (by omega)

theorem bitAnd_mask {x : Int} (hx : 0 ≤ x) (n : Nat) : Builtin.bitAnd x (2 ^ n - 1) = x % 2 ^ n := by
  have h2 := pow_pos' n
  have e : ((2 : Int) ^ n - 1).toNat = 2 ^ n - 1 := by
    have : (2 : Int) ^ n = ((2 ^ n : Nat) : Int) := by simp
    rw [this]; have := Nat.two_pow_pos n; omega
  rw [PyProof.Rows.bitAnd_pp hx (by omega), e, Nat.and_two_pow_sub_one_eq_mod]
  have e2 : (2 : Int) ^ n = ((2 ^ n : Nat) : Int) := by simp
  obtain ⟨k, rfl⟩ := Int.eq_ofNat_of_zero_le hx
  rw [e2, Int.toNat_natCast]
  generalize (2 ^ n : Nat) = M
  omega

theorem and_low_zero {x y : Nat} {n : Nat} (hy : y < 2 ^ n) : (x * 2 ^ n) &&& y = 0 := by
  apply Nat.eq_of_testBit_eq
  intro i
  rw [Nat.testBit_and, Nat.zero_testBit]
  by_cases hi : i < n
  · rw [Nat.testBit_mul_two_pow]
    simp [Nat.not_le.mpr hi]
  · have : y.testBit i = false := Nat.testBit_lt_two_pow (Nat.lt_of_lt_of_le hy (Nat.pow_le_pow_right (by decide) (Nat.le_of_not_lt hi)))
    rw [this, Bool.and_false]

theorem bitAnd_low {x y : Int} {n : Nat} (hx : 0 ≤ x) (hy : 0 ≤ y) (hy2 : y < 2 ^ n) : Builtin.bitAnd (x * 2 ^ n) y = 0 := by
  have h2 := pow_pos' n
  rw [PyProof.Rows.bitAnd_pp (Int.mul_nonneg hx (by omega)) hy]
  have e2 : (2 : Int) ^ n = ((2 ^ n : Nat) : Int) := by simp
  have : (x * 2 ^ n).toNat = x.toNat * 2 ^ n := by
    obtain ⟨k, rfl⟩ := Int.eq_ofNat_of_zero_le hx
    rw [e2, ← Int.natCast_mul, Int.toNat_natCast, Int.toNat_natCast]
  rw [this, and_low_zero (by rw [e2] at hy2; omega)]
  rfl
theorem bitOr_low {x y : Int} {n : Nat} (hx : 0 ≤ x) (hy : 0 ≤ y) (hy2 : y < 2 ^ n) : Builtin.bitOr (x * 2 ^ n) y = x * 2 ^ n + y := by
  rw [PyProof.Rows.bitOr_and, bitAnd_low hx hy hy2]; omega

/-- the division of three halves by two, before it is set right -/
theorem d3_start {a12 a3 b b1 b2 q r B : Int} (hB : 0 < B) (hb1 : 0 < b1) (hb2 : 0 ≤ b2 ∧ b2 < B) (hb : b = b1 * B + b2) (ha3 : 0 ≤ a3 ∧ a3 < B) (ha : a12 * B + a3 < b * B) (ha12 : 0 ≤ a12)
    (hqr : q * b1 + r = a12) (hq : 0 ≤ q) (hr : 0 ≤ r) (hc : (q = B - 1 ∧ r = a12 - b1 * B + b1) ∨ r < b1) :
    q * b + (r * B + a3 - q * b2) = a12 * B + a3 ∧ r * B + a3 - q * b2 < b := by
  constructor
  · subst hb
    have e1 : q * (b1 * B + b2) = q * b1 * B + q * b2 := by rw [Int.mul_add, Int.mul_assoc]
    have e2 : a12 * B = q * b1 * B + r * B := by rw [← hqr, Int.add_mul]
    omega
  · rcases hc with ⟨h1, h2⟩ | h1
    · -- a12 < b
      have h3 : a12 < b := by
        apply Int.lt_of_mul_lt_mul_right (a := B) _ (by omega)
        omega
      have h4 : r ≤ b2 + b1 - 1 := by omega
      have h5 : r * B ≤ (b2 + b1 - 1) * B := Int.mul_le_mul_of_nonneg_right h4 (by omega)
      have h6 : (b2 + b1 - 1) * B = b2 * B + b1 * B - B := by rw [Int.sub_mul, Int.add_mul, Int.one_mul]
      have h7 : q * b2 = b2 * B - b2 := by rw [h1, Int.sub_mul, Int.one_mul, Int.mul_comm]
      omega
    · have h5 : r * B ≤ (b1 - 1) * B := Int.mul_le_mul_of_nonneg_right (by omega) (by omega)
      have h6 : (b1 - 1) * B = b1 * B - B := by rw [Int.sub_mul, Int.one_mul]
      have h7 : 0 ≤ q * b2 := Int.mul_nonneg hq hb2.1
      omega

theorem d3_case {a12 b b1 b2 a3 B : Int} (hB : 0 < B) (hb1 : 0 < b1) (hb2 : 0 ≤ b2 ∧ b2 < B) (hb : b = b1 * B + b2) (ha3 : 0 ≤ a3) (ha : a12 * B + a3 < b * B) (ha12 : 0 ≤ a12) :
    (a12 / B = b1 → 0 ≤ a12 - b1 * B + b1 ∧ (B - 1) * b1 + (a12 - b1 * B + b1) = a12) ∧ (a12 / B ≠ b1 → a12 < b1 * B) := by
  have h3 : a12 < b := by
    apply Int.lt_of_mul_lt_mul_right (a := B) _ (by omega)
    omega
  have hd := Int.mul_ediv_add_emod a12 B
  have hm := Int.emod_nonneg a12 (b := B) (by omega)
  have hm2 := Int.emod_lt_of_pos a12 hB
  constructor
  · intro h
    rw [h] at hd
    have e : (B - 1) * b1 = b1 * B - b1 := by rw [Int.sub_mul, Int.one_mul, Int.mul_comm]
    have e2 : B * b1 = b1 * B := Int.mul_comm _ _
    omega
  · intro h
    have h4 : a12 / B < b1 := by
      have : a12 / B < b1 + 1 := by
        apply Int.ediv_lt_of_lt_mul hB
        rw [Int.add_mul, Int.one_mul]; omega
      omega
    exact (Int.ediv_lt_iff_lt_mul hB).mp h4
end Mine
namespace Mine
open PySem
theorem noPylong {a b : Int} {k : Nat} (hk : 1 ≤ k) (hb : 2 ^ (k - 1) ≤ b) (hb' : b < 2 ^ k) (ha : (Builtin.Int.intBits a : Int) - k ≤ 4000) : Builtin.divisionGoesByPylong a b = false := by
  have hB1 := pow_pos' (k - 1)
  have e1 : (2 : Int) ^ (k - 1) = ((2 ^ (k - 1) : Nat) : Int) := by simp
  have hbn : b.natAbs ≠ 0 := by omega
  have hl : k - 1 ≤ b.natAbs.log2 := (Nat.le_log2 hbn).mpr (by rw [e1] at hb; omega)
  have hb0 : ¬ (b == 0) = true := by simpa using (show b ≠ 0 by omega)
  refine Bool.and_eq_false_iff.mpr (.inr (decide_eq_false ?_))
  show ¬ ((if (a == 0) = true then 0 else a.natAbs.log2 / 30 + 1) > (if (b == 0) = true then 0 else b.natAbs.log2 / 30 + 1) + 150)
  rw [if_neg hb0]
  unfold Builtin.Int.intBits at ha
  by_cases h0 : (a == 0) = true
  · rw [if_pos h0]; omega
  · rw [if_neg h0] at ha ⊢
    omega

theorem d2_parts {a b B : Int} (hB : 0 < B) (hb : 0 < b) (ha : 0 ≤ a) (hab : a < b * (B * B)) :
    a / (B * B) * B + a / B % B = a / B ∧ a / B < b * B ∧ 0 ≤ a / B ∧ (a / B % b) * B + a % B < b * B ∧ 0 ≤ ((a / B % b) * B + a % B) / b ∧ ((a / B % b) * B + a % B) / b < B ∧
    (a / B / b) * B + ((a / B % b) * B + a % B) / b = a / b ∧ ((a / B % b) * B + a % B) % b = a % b := by
  have e0 : a / (B * B) = a / B / B := (Int.ediv_ediv_of_nonneg (by omega)).symm
  have e1 := Int.mul_ediv_add_emod (a / B) B
  have h1 : a / B < b * B := by
    apply Int.ediv_lt_of_lt_mul hB
    rw [Int.mul_assoc]; exact hab
  have h2 : 0 ≤ a / B := Int.ediv_nonneg ha (by omega)
  have h3 := Int.emod_nonneg (a / B) (b := b) (by omega)
  have h4 := Int.emod_lt_of_pos (a / B) hb
  have h5 := Int.emod_nonneg a (b := B) (by omega)
  have h6 := Int.emod_lt_of_pos a hB
  have h7 : (a / B % b) * B ≤ (b - 1) * B := Int.mul_le_mul_of_nonneg_right (by omega) (by omega)
  rw [Int.sub_mul, Int.one_mul] at h7
  have h8 : 0 ≤ (a / B % b) * B := Int.mul_nonneg h3 (by omega)
  have h9 : ((a / B % b) * B + a % B) / b < B := by
    apply Int.ediv_lt_of_lt_mul hb
    rw [Int.mul_comm B b]; omega
  have e2 := Int.mul_ediv_add_emod ((a / B % b) * B + a % B) b
  have e3 := Int.mul_ediv_add_emod (a / B) b
  have e4 := Int.mul_ediv_add_emod a B
  have h10 := Int.emod_nonneg ((a / B % b) * B + a % B) (b := b) (by omega)
  have h11 := Int.emod_lt_of_pos ((a / B % b) * B + a % B) hb
  have key : ((a / B / b) * B + ((a / B % b) * B + a % B) / b) * b + ((a / B % b) * B + a % B) % b = a := by
    rw [Int.add_mul]
    have f1 : (a / B / b) * B * b = b * (a / B / b) * B := by rw [Int.mul_comm (a / B / b * B) b, Int.mul_assoc]
    have f2 : b * (a / B / b) * B + (a / B % b) * B = a / B * B := by rw [← Int.add_mul, e3]
    have f3 : a / B * B = B * (a / B) := Int.mul_comm _ _
    rw [f1]
    rw [Int.mul_comm b] at e2
    omega
  obtain ⟨k1, k2⟩ := qr_unique hb key h10 h11
  refine ⟨by rw [e0]; rw [Int.mul_comm] at e1; exact e1, h1, h2, by omega, Int.ediv_nonneg (by omega) (by omega), h9, k1, k2⟩

theorem half_bounds {b : Int} {j : Nat} (hj : 1 ≤ j) (h1 : 2 ^ (2 * j - 1) ≤ b) (h2 : b < 2 ^ (2 * j)) : 2 ^ (j - 1) ≤ b / 2 ^ j ∧ b / 2 ^ j < 2 ^ j ∧ b = b / 2 ^ j * 2 ^ j + b % 2 ^ j := by
  have hB := pow_pos' j
  refine ⟨?_, ?_, ?_⟩
  · apply Int.le_ediv_of_mul_le hB
    rw [← Int.pow_add]
    have : j - 1 + j = 2 * j - 1 := by omega
    rw [this]; exact h1
  · apply Int.ediv_lt_of_lt_mul hB
    rw [← Int.pow_add]
    have : j + j = 2 * j := by omega
    rw [this]; exact h2
  · have := Int.mul_ediv_add_emod b (2 ^ j)
    rw [Int.mul_comm] at this; omega
end Mine
namespace Mine
/-! rows of a ledger, their order changed -/
section
variable {α : Type} {x a b c d e f g h : α} {l r s t : List α}
theorem sb_in1 (q : x ∈ a :: l) : x ∈ a :: b :: l := by
  rcases List.mem_cons.mp q with rfl | q
  · exact .head _
  · exact .tail _ (.tail _ q)
theorem sb_in2 (q : x ∈ a :: l) : x ∈ a :: b :: c :: l := sb_in1 (sb_in1 q)
theorem sb_in3 (q : x ∈ a :: l) : x ∈ a :: b :: c :: d :: l := sb_in1 (sb_in2 q)
theorem sb_dup (q : x ∈ a :: a :: l) : x ∈ a :: l := by
  rcases List.mem_cons.mp q with rfl | q
  · exact .head _
  · exact q
theorem sb_c1 (q : x ∈ s ++ (d :: l)) : x ∈ d :: (s ++ l) := by
  rcases List.mem_append.mp q with q | q
  · exact .tail _ (List.mem_append_left _ q)
  · rcases List.mem_cons.mp q with rfl | q
    · exact .head _
    · exact .tail _ (List.mem_append_right _ q)
theorem sb_c2 (q : x ∈ s ++ l) : x ∈ s ++ (d :: l) := by
  rcases List.mem_append.mp q with q | q
  · exact List.mem_append_left _ q
  · exact List.mem_append_right _ (.tail _ q)
theorem sb_c3 (q : x ∈ t ++ (s ++ l)) : x ∈ s ++ (t ++ l) := by
  rcases List.mem_append.mp q with q | q
  · exact List.mem_append_right _ (List.mem_append_left _ q)
  · rcases List.mem_append.mp q with q | q
    · exact List.mem_append_left _ q
    · exact List.mem_append_right _ (List.mem_append_right _ q)
theorem sb_under (k : x ∈ l → x ∈ r) (q : x ∈ d :: l) : x ∈ d :: r := by
  rcases List.mem_cons.mp q with rfl | q
  · exact .head _
  · exact .tail _ (k q)
theorem sb_app (k : x ∈ l → x ∈ r) (q : x ∈ s ++ l) : x ∈ s ++ r := by
  rcases List.mem_append.mp q with q | q
  · exact List.mem_append_left _ q
  · exact List.mem_append_right _ (k q)
theorem sb_t1 (q : x ∈ s ++ (t ++ (d :: l))) : x ∈ d :: (s ++ (t ++ l)) := sb_c1 (sb_app sb_c1 q)
theorem sb_t2 (q : x ∈ s ++ (t ++ l)) : x ∈ e :: (s ++ (t ++ (d :: l))) := .tail _ (sb_app sb_c2 q)
theorem sb_swap (q : x ∈ a :: b :: l) : x ∈ b :: a :: l := by
  rcases List.mem_cons.mp q with rfl | q
  · exact .tail _ (.head _)
  · exact sb_under (.tail _) q
theorem sb_law (q : x ∈ [a] ++ ([b] ++ (l ++ [c, d, e, f, g]))) : x ∈ l ++ [c, d, e, f, g, h, a, b] := by
  simp only [List.mem_append, List.mem_cons, List.not_mem_nil, or_false] at q ⊢
  rcases q with h | h | h | h | h | h | h | h <;> simp [h]
theorem sb_m1 (q : x ∈ a :: b :: c :: d :: (l ++ r)) : x ∈ d :: (l ++ (c :: a :: b :: r)) := by
  simp only [List.mem_append, List.mem_cons] at q ⊢
  rcases q with h | h | h | h | h | h <;> simp [h]
theorem sb_m2 (q : x ∈ g :: a :: b :: c :: d :: (l ++ (e :: r))) : x ∈ g :: e :: a :: b :: c :: d :: (l ++ r) := by
  simp only [List.mem_append, List.mem_cons] at q ⊢
  rcases q with h | h | h | h | h | h | h | h <;> simp [h]
theorem sb_m3 (q : x ∈ e :: a :: b :: c :: g :: (l ++ r)) : x ∈ g :: a :: b :: c :: d :: (l ++ (e :: r)) := by
  simp only [List.mem_append, List.mem_cons] at q ⊢
  rcases q with h | h | h | h | h | h | h <;> simp [h]
theorem sb_m4 (k : x ∈ r → x ∈ s) (q : x ∈ l ++ (c :: r)) : x ∈ a :: b :: c :: d :: (l ++ s) := by
  simp only [List.mem_append, List.mem_cons] at q ⊢
  rcases q with h | h | h
  · simp [h]
  · simp [h]
  · simp [k h]
theorem sb_m6 (q : x ∈ a :: b :: c :: g :: (l ++ r)) : x ∈ g :: a :: b :: c :: d :: (l ++ r) := by
  simp only [List.mem_append, List.mem_cons] at q ⊢
  rcases q with h | h | h | h | h | h <;> simp [h]
theorem sb_m5 (q : x ∈ a :: b :: c :: d :: (l ++ r)) : x ∈ a :: b :: c :: d :: e :: (l ++ r) := sb_under (sb_under (sb_under (sb_under (.tail _)))) q
end
end Mine
end

-- Fw2
section
open PySem PySem.W PyProof.Rows PySem.Calls
set_option Elab.async false
set_option maxRecDepth 100000
set_option linter.all false
namespace Mine

theorem bits_of {x : Int} {k : Nat} (h0 : 0 ≤ x) (h1 : x < 2 ^ k) : Builtin.Int.intBits x ≤ k := by
  refine intBits_le ?_
  have e2 : (2 : Int) ^ k = ((2 ^ k : Nat) : Int) := by simp
  rw [e2] at h1
  omega
theorem mulOk {a b : Int} (h : Builtin.Int.intBits a + Builtin.Int.intBits b ≤ 2 ^ 27) : IntMulOk a b := by
  unfold IntMulOk
  intro x
  simp only [Bool.and_eq_true, decide_eq_true_eq] at x
  have := x.2
  unfold Builtin.Int.intTooBig at this
  simp only [decide_eq_true_eq] at this
  unfold bitsLine at this
  omega

section
variable {w : World} {A : Around} {env : Env} {h : Heap} {l r : Expr} {pos : Pos} {i : Int} {k : Nat}
theorem evShlN (h1 : EvI w A env h l i) (h2 : EvI w A env h r (k : Int)) (hs : Builtin.Int.intBits i + k ≤ 2 ^ 27) : EvI w A env h (.BinOp l .LShift r pos) (i * 2 ^ k) := evShl (j := (k : Int)) h1 h2 (by omega) (by omega)
theorem evShrN (h1 : EvI w A env h l i) (h2 : EvI w A env h r (k : Int)) : EvI w A env h (.BinOp l .RShift r pos) (i / 2 ^ k) := by
  rw [← fdiv_pos (pow_pos' k)]
  exact evShr (j := (k : Int)) h1 h2 (by omega)
end

section
variable {w : World} {A : Around} {g : Heap} {L : Addr} {m : Mp} {s : Shared} {news : Led} {Q : Flow → Shared → Prop} {cn : Str} {cs : Scope} {a : Addr} {ccd : Value} {cl : List (Str × Addr)} {e e₁ e₂ : Expr} {x y : Str} {pos px py tp vp : Pos} {k1 k2 : Nat} {rest : List Stmt} {P P₁ P₂ : Value → Prop} {env : Env}

/-- x, y = e, e gives a pair -/
theorem exPairE (H : Here w A env g L)
    (h : Go w A (eval e (envX cn cs L a ccd cl)) (fun v s' => ∃ p v1 v2 m' news', v = .ref p ∧ IsTup s'.heap p #[v1, v2] ∧ Fr g L s'.heap m' ∧ News g L s'.heap news' ∧
      ∀ h' tk, Fr g L h' (upd (upd m' x v1) y v2) → News g L h' news' → Go w A (execs rest (envX cn cs L a ccd cl)) Q { s' with heap := h', toks := tk }) s)
    (hs : swapsWithSole [.Tuple [.Name x px, .Name y py] k1 tp] e pos.line (envX cn cs L a ccd cl) = pure false := by rfl)
    (hw : swappedStores [.Tuple [.Name x px, .Name y py] k1 tp] e (envX cn cs L a ccd cl) = pure none := by rfl)
    (hk : cs.kind = .function := by rfl) (hx : (envX cn cs L a ccd cl).kindOf x = some .local := by rfl) (hy : (envX cn cs L a ccd cl).kindOf y = some .local := by rfl) :
    Go w A (execs (.Assign [.Tuple [.Name x px, .Name y py] k1 tp] e pos :: rest) (envX cn cs L a ccd cl)) Q s := by
  refine go_then ⟨Assign_Tuple (wpAny_mono h.run (fun v s' z => ?_) fun _ _ z => z) hs hw⟩
  obtain ⟨p, v1, v2, m', news', rfl, ht, F', N', kk⟩ := z
  refine unpackN_ F' N' ht H.hh rfl rfl fun h' F2 N2 => ?_
  show wpAny _ _ (assignInOrder [assign (.Name x px) (envX cn cs L a ccd cl), assign (.Name y py) (envX cn cs L a ccd cl)] [v1, v2]) _ _ _
  refine assignInOrder_cons (assign_Name (storeX_L (s := { s' with heap := h' }) F2 N2 (fun h3 F3 N3 => ?_) hk hx))
  refine assignInOrder_cons (assign_Name (storeX_L (s := { s' with heap := h3, toks := _ }) F3 N3 (fun h4 F4 N4 => ?_) hk hy))
  exact assignInOrder_nil (kk h4 _ F4 N4)

/-- x, y = e₁, e₂ -/
theorem exPair (H : Here w A env g L) (F : Fr g L s.heap m) (N : News g L s.heap news) (ev₁ : Ev w A (envX cn cs L a ccd cl) s.heap e₁ P₁) (ev₂ : Ev w A (envX cn cs L a ccd cl) s.heap e₂ P₂)
    (h : ∀ v1 v2 h' tk, P₁ v1 → P₂ v2 → Fr g L h' (upd (upd m y v2) x v1) → News g L h' news → Go w A (execs rest (envX cn cs L a ccd cl)) Q { s with heap := h', toks := tk })
    (hs : swapsWithSole [.Tuple [.Name x px, .Name y py] k1 tp] (.Tuple [e₁, e₂] k2 vp) pos.line (envX cn cs L a ccd cl) = pure false := by rfl)
    (hw : swappedStores [.Tuple [.Name x px, .Name y py] k1 tp] (.Tuple [e₁, e₂] k2 vp) (envX cn cs L a ccd cl) = pure (some [x, y]) := by rfl)
    (hk : cs.kind = .function := by rfl) (hx : (envX cn cs L a ccd cl).kindOf x = some .local := by rfl) (hy : (envX cn cs L a ccd cl).kindOf y = some .local := by rfl)
    (he1 : starEach [e₁, e₂] (envX cn cs L a ccd cl) = (false, eval e₁ (envX cn cs L a ccd cl)) :: starEach [e₂] (envX cn cs L a ccd cl) := by rfl) (he2 : starEach [e₂] (envX cn cs L a ccd cl) = (false, eval e₂ (envX cn cs L a ccd cl)) :: starEach [] (envX cn cs L a ccd cl) := by rfl) :
    Go w A (execs (.Assign [.Tuple [.Name x px, .Name y py] k1 tp] (.Tuple [e₁, e₂] k2 vp) pos :: rest) (envX cn cs L a ccd cl)) Q s := by
  refine go_then ⟨Assign_Tuple_swapped (Tuple_ (args_cons (ev₁.run s _ _ rfl fun v1 tk1 p1 => args_cons (ev₂.run { s with toks := tk1 } _ _ rfl fun v2 tk2 p2 => args_nil ?_) he2) he1)) hs hw⟩
  refine newTuple_N (s := { s with toks := tk2 }) F N (fun h' F' N' => ?_) (by show 2 ≤ sizeLine; decide)
  refine unpackItemsN_ (s := { s with toks := tk2, heap := h' }) F' N' (News.isTup N' (.head _)) H.hh rfl fun h2 F2 N2 => ?_
  show wpAny _ _ (assignInOrder [bindName (envX cn cs L a ccd cl) y, bindName (envX cn cs L a ccd cl) x] [v2, v1]) _ _ _
  refine assignInOrder_cons (bindName_ (storeX_L (s := { s with toks := tk2, heap := h2 }) F2 N2 (fun h3 F3 N3 => ?_) hk hy))
  refine assignInOrder_cons (bindName_ (storeX_L (s := { s with heap := h3, toks := _ }) F3 N3 (fun h4 F4 N4 => ?_) hk hx))
  exact assignInOrder_nil (h v1 v2 h4 _ p1 p2 F4 fun p hp => N4 p (.tail _ hp))

/-- return e₁, e₂ -/
abbrev tupObj (vs : List Value) : Obj := { cls := .type "tuple", data := .seq vs.toArray }
theorem exRetPair (F : Fr g L s.heap m) (N : News g L s.heap news) (ev₁ : Ev w A (envX cn cs L a ccd cl) s.heap e₁ P₁) (ev₂ : Ev w A (envX cn cs L a ccd cl) s.heap e₂ P₂)
    (h : ∀ v1 v2 p h' tk, P₁ v1 → P₂ v2 → Fr g L h' m → News g L h' ((p, tupObj [v1, v2]) :: news) → (∀ q ∈ news, q.1 < p) → Q (.ret (.ref p)) { s with heap := h', toks := tk })
    (he1 : starEach [e₁, e₂] (envX cn cs L a ccd cl) = (false, eval e₁ (envX cn cs L a ccd cl)) :: starEach [e₂] (envX cn cs L a ccd cl) := by rfl) (he2 : starEach [e₂] (envX cn cs L a ccd cl) = (false, eval e₂ (envX cn cs L a ccd cl)) :: starEach [] (envX cn cs L a ccd cl) := by rfl) :
    Go w A (execs (.Return (some (.Tuple [e₁, e₂] k2 vp)) pos :: rest) (envX cn cs L a ccd cl)) Q s := by
  refine exRetE ⟨Tuple_ (args_cons (ev₁.run s _ _ rfl fun v1 tk1 p1 => args_cons (ev₂.run { s with toks := tk1 } _ _ rfl fun v2 tk2 p2 => args_nil ?_) he2) he1)⟩
  refine newTuple_N (s := { s with toks := tk2 }) F N (fun h' F' N' => ?_) (by show 2 ≤ sizeLine; decide)
  exact h v1 v2 _ h' _ p1 p2 F' N' fun q hq => Heap.lt_size (N q hq).1
end
end Mine
namespace Mine
section
variable {w : World} {A : Around} {g : Heap} {L : Addr} {m : Mp} {s : Shared} {news : Led} {Q : Flow → Shared → Prop} {cn : Str} {cs : Scope} {a : Addr} {ccd : Value} {cl : List (Str × Addr)} {e e₁ e₂ : Expr} {x y : Str} {pos px py tp vp : Pos} {k1 k2 : Nat} {rest : List Stmt} {P P₁ P₂ : Value → Prop} {env : Env}
/-- an if whose ways meet -/
theorem exIfJoin {test : Expr} {body orelse : List Stmt} {b : Bool} {J : Shared → Prop} (ev : EvT w A env s.heap test b)
    (h1 : b = true → ∀ tk, Go w A (execs body env) (fun f s' => f = .next ∧ J s') { s with toks := tk })
    (h2 : b = false → ∀ tk, Go w A (execs orelse env) (fun f s' => f = .next ∧ J s') { s with toks := tk })
    (h3 : ∀ s', J s' → Go w A (execs rest env) Q s') :
    Go w A (execs (.If test body orelse pos :: rest) env) Q s :=
  exIf ev (fun e tk => ⟨wpAny_mono (h1 e tk).run (fun f s' x => by obtain ⟨rfl, hj⟩ := x; exact h3 s' hj) fun _ _ x => x⟩)
    (fun e tk => ⟨wpAny_mono (h2 e tk).run (fun f s' x => by obtain ⟨rfl, hj⟩ := x; exact h3 s' hj) fun _ _ x => x⟩)
end
section
variable {w : World} {A : Around} {g : Heap} {L : Addr} {m : Mp} {s : Shared} {news : Led} {Q : Value → Shared → Prop} {cn : Str} {cs : Scope} {a : Addr} {ccd : Value} {cl : List (Str × Addr)} {env : Env}
/-- a call of a built-in by its name -/
theorem callBoot {fn : Str} {id : String} {arg : Expr} {args : List Expr} {Ps : List (Value → Prop)} {p pos : Pos} (H : Here w A env g L) (F : Fr g L s.heap m)
    (hv : nsIn (KK w) mainGlobals fn = some none) (hb : bootBuiltins fn = some (.builtin id)) (evs : Evs w A (envX cn cs L a ccd cl) s.heap (arg :: args) Ps)
    (h : ∀ vs tk, AllV vs Ps → Go w A (call (.builtin id) vs) Q { s with toks := tk })
    (hn : fn ≠ "__name__" := by decide)
    (he : eval (.Call (.Name fn p) (arg :: args) [] pos) (envX cn cs L a ccd cl) = (do callWith pos (← eval (.Name fn p) (envX cn cs L a ccd cl)) [] (backTo pos (starEach (arg :: args) (envX cn cs L a ccd cl))) (backToKw pos (keywordEach [] (envX cn cs L a ccd cl)))) := by rfl)
    (he2 : starEach (arg :: args) (envX cn cs L a ccd cl) = (false, eval arg (envX cn cs L a ccd cl)) :: starEach args (envX cn cs L a ccd cl) := by rfl) (hplain : (backTo pos (starEach args (envX cn cs L a ccd cl))).any (·.1) = false := by rfl)
    (hk : cs.kind = .function := by rfl) (hx : (envX cn cs L a ccd cl).kindOf fn = some .globalImplicit := by rfl) (hd : (fn == ("__debug__" : Str)) = false := by decide) :
    Go w A (eval (.Call (.Name fn p) (arg :: args) [] pos) (envX cn cs L a ccd cl)) Q s :=
  ⟨Call_ ((evBoot H F hv hb (P := IsV (.builtin id)) rfl hn hk hx hd).run s _ _ rfl fun v tk hp => by
    subst hp
    exact PyProof.Rows.callWith_builtin1 (evArgs (s := { s with toks := tk }) evs fun vs tk' hvs => (h vs tk' hvs).run).run he2 hplain) he⟩
end
theorem allV1 {vs : List Value} {P1 : Value → Prop} (h : AllV vs [P1]) : ∃ v1, vs = [v1] ∧ P1 v1 := by
  match vs, h with
  | [v1], ⟨a, _⟩ => exact ⟨v1, rfl, a⟩
theorem allV2 {vs : List Value} {P1 P2 : Value → Prop} (h : AllV vs [P1, P2]) : ∃ v1 v2, vs = [v1, v2] ∧ P1 v1 ∧ P2 v2 := by
  match vs, h with
  | [v1, v2], ⟨a, b, _⟩ => exact ⟨v1, v2, rfl, a, b⟩
theorem allV3 {vs : List Value} {P1 P2 P3 : Value → Prop} (h : AllV vs [P1, P2, P3]) : ∃ v1 v2 v3, vs = [v1, v2, v3] ∧ P1 v1 ∧ P2 v2 ∧ P3 v3 := by
  match vs, h with
  | [v1, v2, v3], ⟨a, b, c, _⟩ => exact ⟨v1, v2, v3, rfl, a, b, c⟩
theorem allV4 {vs : List Value} {P1 P2 P3 P4 : Value → Prop} (h : AllV vs [P1, P2, P3, P4]) : ∃ v1 v2 v3 v4, vs = [v1, v2, v3, v4] ∧ P1 v1 ∧ P2 v2 ∧ P3 v3 ∧ P4 v4 := by
  match vs, h with
  | [v1, v2, v3, v4], ⟨a, b, c, d, _⟩ => exact ⟨v1, v2, v3, v4, rfl, a, b, c, d⟩
theorem allV6 {vs : List Value} {P1 P2 P3 P4 P5 P6 : Value → Prop} (h : AllV vs [P1, P2, P3, P4, P5, P6]) : ∃ v1 v2 v3 v4 v5 v6, vs = [v1, v2, v3, v4, v5, v6] ∧ P1 v1 ∧ P2 v2 ∧ P3 v3 ∧ P4 v4 ∧ P5 v5 ∧ P6 v6 := by
  match vs, h with
  | [v1, v2, v3, v4, v5, v6], ⟨a, b, c, d, e, f, _⟩ => exact ⟨v1, v2, v3, v4, v5, v6, rfl, a, b, c, d, e, f⟩
end Mine
end

-- Fw3
section
open PySem PySem.W PyProof.Rows PySem.Calls
set_option Elab.async false
set_option maxRecDepth 100000
set_option linter.all false
namespace Mine

abbrev lstObj (vs : List Value) : Obj := { cls := .type "list", data := .seq vs.toArray }

section
variable {w : World} {A : Around} {env : Env} {g : Heap} {L : Addr} {m : Mp} {s : Shared} {news : Led} {Q : Value → Shared → Prop}

/-- a call of a def that was made in a body -/
theorem enterN {name qual : Str} {params : Arguments} {body : List Stmt} {scope : Scope} {cl : List (Str × Addr)} {doc pm ctv : Value} {c' : Addr} {oc : Obj} {vs : Array Value} {tq : Tok} {f : Addr} {args : List Value} {binds : List (Str × Value)} {d : Nat}
    (H : Here w A env g L) (F : Fr g L s.heap m) (N : News g L s.heap news) (R : Room A (d + 1))
    (ho : (f, fnMade name qual params body scope cl doc pm c' ctv) ∈ news) (hc : (c', oc) ∈ news) (hcd : oc.data = .fields vs) (hcv : vs[1]? = some (.str qual tq))
    (hbind : bindArgs (fnX name qual params body scope cl .none .none doc pm none (.ref c') ctv) ⟨args, []⟩ = pure binds) (hloc : (binds.all fun x => decide (scope.names.lookup x.1 = some .local)) = true)
    (hco : scope.isCoroutine = false) (hgen : scope.isGenerator = false) (hk : scope.kind = .function) (hcell : ∀ x ∈ scope.names, x.2 ≠ .cell)
    (h : ∀ g' L' h₁ A' tk, Here w A' (envX qual scope L' f (.ref c') cl) g' L' → Fr g' L' h₁ (fun y => binds.reverse.lookup y) → News g' L' h₁ news → Room A' d →
      (∀ p ∈ news, p.1 < L') →
      Go w A' (execs body (envX qual scope L' f (.ref c') cl))
        (fun fl s' => Lv g L m g' Q (match fl with | .ret v => v | _ => .none) s') { s with heap := h₁, toks := tk }) :
    Go w A (call (.ref f) args) Q s := by
  obtain ⟨p, loose, mean, mg, mb, T⟩ := H.T
  obtain ⟨A₀, base, outer, B, hA⟩ := H.B
  refine ⟨wpAny_call (callX_plain (cl := cl) B F N T.nolimit hA H.hf H.hk (N _ ho).1 rfl (codeRec_news N hc hcd hcv) (by have := R.1; omega) (BindsTo.of_eq hbind) (locs hloc) (fun g' L' h₁ FG F' N' B' st lt => ?_) hcell hco hgen hk)⟩
  refine wpAny_mono (h g' L' h₁ _ _ ⟨H.X.keeps st, ⟨p, loose, mean, mg, mb, T.keeps st⟩, ⟨A, base, env :: outer, B', Around.frames_deeper hA⟩, rfl, hk, H.hh⟩ F' N' R.deeper lt).run (fun _ s' x => ?_) fun _ _ x => x.elim
  obtain ⟨L2, m2, news2, F2, N2, k⟩ := x.run
  exact ⟨L2, m2, news2, F2, N2, k⟩

/-- a call of a def of the top's whose names are caught by a def within -/
theorem enterC {name qual : Str} {params : Arguments} {body : List Stmt} {scope : Scope} {dV kV doc pm cdv ct oc : Value} {an od : Option Addr} {osl : Array (Option Value)} {f : Addr} {args : List Value} {binds : List (Str × Value)} {d : Nat}
    (H : Here w A env g L) (F : Fr g L s.heap m) (N : News g L s.heap news) (R : Room A (d + 1))
    (ho : (KK w).lookup f = some ⟨oc, od, .func (fnOf name qual params body scope dV kV doc pm an cdv ct), osl⟩) (hcd : codeIn (KK w) cdv qual = true)
    (hbind : bindArgs (fnOf name qual params body scope dV kV doc pm an cdv ct) ⟨args, []⟩ = pure binds) (hkind : (binds.all fun y => scope.names.lookup y.1 == some .local || scope.names.lookup y.1 == some .cell) = true)
    (hnd : ((cellsFrom 0 scope.names []).map (·.1)).Nodup)
    (hco : scope.isCoroutine = false) (hgen : scope.isGenerator = false) (hk : scope.kind = .function)
    (h : ∀ g' L' h₁ A' tk cells, Here w A' (envX qual scope L' f cdv (cellsFrom (L' + 1) scope.names [])) g' L' → Fr g' L' h₁ (bindL (envOfC qual scope L' f cdv).kindOf binds fun _ => none) → News g' L' h₁ (cells ++ news) →
      CellsAre (bindC (envOfC qual scope L' f cdv).kindOf binds fun _ => none) (cellsFrom (L' + 1) scope.names []) cells → Room A' d →
      (∀ p ∈ news, p.1 < L') →
      Go w A' (execs body (envX qual scope L' f cdv (cellsFrom (L' + 1) scope.names [])))
        (fun fl s' => Lv g L m g' Q (match fl with | .ret v => v | _ => .none) s') { s with heap := h₁, toks := tk }) :
    Go w A (call (.ref f) args) Q s := by
  obtain ⟨p, loose, mean, mg, mb, T⟩ := H.T
  obtain ⟨A₀, base, outer, B, hA⟩ := H.B
  refine ⟨wpAny_call (callX_cells B F N T.nolimit hA H.hf H.hk ((H.X.keeps F.keep) _ _ ho) rfl (codeRec_of (H.X.keeps F.keep) hcd) (by have := R.1; omega) (BindsTo.of_eq hbind) (kindsX hkind) hnd (fun g' L' h₁ tk cells FG F' N' Y B' st lt => ?_) hco hgen hk)⟩
  refine wpAny_mono (h g' L' h₁ _ _ cells ⟨H.X.keeps st, ⟨p, loose, mean, mg, mb, T.keeps st⟩, ⟨A, base, env :: outer, B', Around.frames_deeper hA⟩, rfl, hk, H.hh⟩ F' N' Y R.deeper lt).run (fun _ s' x => ?_) fun _ _ x => x.elim
  obtain ⟨L2, m2, news2, F2, N2, k⟩ := x.run
  exact ⟨L2, m2, news2, F2, N2, k⟩
end

/-- the table of a def's own codes: empty, or with the one def in it -/
def TabL (P : Addr) (ln col : Nat) (qual : Str) (t : Led) : Prop :=
  t = [(P, tabObj #[])] ∨ ∃ c' oc vs tk, t = [(P, tabObj #[rawInt ln, rawInt col, .ref c']), (c', oc)] ∧ oc.data = .fields vs ∧ vs[1]? = some (.str qual tk)

theorem TabL.mem {P : Addr} {ln col : Nat} {qual : Str} {t : Led} (T : TabL P ln col qual t) : ∃ ps, (P, tabObj ps) ∈ t := by
  rcases T with rfl | ⟨c', oc, vs, tk, rfl, _⟩
  · exact ⟨_, .head _⟩
  · exact ⟨_, .head _⟩

section
variable {w : World} {A : Around} {g : Heap} {L : Addr} {m : Mp} {s : Shared} {news : Led} {Q : Value → Shared → Prop} {cn : Str} {cs : Scope} {a : Addr} {cl : List (Str × Addr)} {env : Env} {c P : Addr}
  {name qual : Str} {params : Arguments} {body : List Stmt} {scope : Scope} {pos : Pos} {firstLine : Nat} {clos : List (Str × Addr)} {t : Led}

theorem mkNest (H : Here w A env g L) (F : Fr g L s.heap m) (N : News g L s.heap (t ++ news)) (T : TabL P pos.line pos.col qual t) (hne : ∀ p ∈ news, p.1 ≠ P) (C : CodeHd g c P)
    (hcl : closureFor scope (envX cn cs L a (.ref c) cl) = pure clos)
    (h : ∀ f c' oc vs tq ctv doc pm t' h' tk, Fr g L h' m → News g L h' ((f, fnMade name qual params body scope clos doc pm c' ctv) :: (t' ++ news)) → TabL P pos.line pos.col qual t' → (c', oc) ∈ t' → oc.data = .fields vs → vs[1]? = some (.str qual tq) →
      (∀ q ∈ news, q.1 < f) → P < f → Q (.ref f) { s with heap := h', toks := tk }) :
    wpAny (model PR w) A (makeFunction name qual params (.stmts body) scope (envX cn cs L a (.ref c) cl) [] [] [] pos firstLine) Q NoE s := by
  obtain ⟨p, loose, mean, mg, mb, Tp⟩ := H.T
  rcases T with rfl | ⟨c', oc, vs, tk, rfl, hd, hv⟩
  · refine nest_K (ps := #[]) F N Tp C rfl (.head hne) trivial rfl hcl fun f c' oc vs tq ctv doc h' tk F' N' hd hv l1 l2 => ?_
    refine h f c' oc vs tq ctv doc ((mg "__name__").getD .none) [(P, tabObj #[rawInt pos.line, rawInt pos.col, .ref c']), (c', oc)] h' tk F' (fun q hq => N' q ?_) (.inr ⟨c', oc, vs, tq, rfl, hd, hv⟩) (.tail _ (.head _)) hd hv (fun q hq => Nat.lt_trans (l1 q (.tail _ hq)) l2) (Nat.lt_trans (l1 _ (.head _)) l2)
    simp only [List.cons_append, List.nil_append, List.mem_cons] at hq ⊢
    rcases hq with e | e | e | e
    · exact .inl e
    · exact .inr (.inr (.inl e))
    · exact .inr (.inl e)
    · exact .inr (.inr (.inr e))
  · refine nestHit_K (ps := #[rawInt pos.line, rawInt pos.col, .ref c']) (c' := c') F N Tp C rfl (.head _) (by simp [TriplesOk, rawInt]) (by simp [codeAmong, rawInt]) hcl fun f ctv doc h' tk2 F' N' l1 => ?_
    exact h f c' oc vs tk ctv doc ((mg "__name__").getD .none) _ h' tk2 F' N' (.inr ⟨c', oc, vs, tk, rfl, hd, hv⟩) (.tail _ (.head _)) hd hv (fun q hq => l1 q (List.mem_append_right _ hq)) (l1 _ (.head _))
end

section
variable {w : World} {A : Around} {g : Heap} {L : Addr} {m : Mp} {s : Shared} {news : Led} {Q : Flow → Shared → Prop} {cn : Str} {cs : Scope} {a : Addr} {cl : List (Str × Addr)} {env : Env} {c P : Addr}
  {name qual : Str} {params : Arguments} {body : List Stmt} {scope : Scope} {pos : Pos} {clos : List (Str × Addr)} {t : Led} {rest : List Stmt} {ci : Addr} {oi : Obj}

/-- def name(..): .. within a body, its name caught by itself -/
theorem exDef (H : Here w A env g L) (F : Fr g L s.heap m) (N : News g L s.heap (t ++ ((ci, oi) :: news))) (T : TabL P pos.line pos.col qual t) (hne : ∀ p ∈ (ci, oi) :: news, p.1 ≠ P) (hci : ∀ p ∈ news, p.1 ≠ ci) (hoi : oi.data = .cell none) (hct : ∀ p ∈ t, p.1 ≠ ci)
    (C : CodeHd g c P) (hcl : closureFor scope (envX cn cs L a (.ref c) cl) = pure clos) (hlook : cl.lookup name = some ci)
    (h : ∀ f c' oc vs tq ctv doc pm t' oi' h' tk, Fr g L h' m → News g L h' ((f, fnMade name qual params body scope clos doc pm c' ctv) :: (t' ++ ((ci, oi') :: news))) → TabL P pos.line pos.col qual t' → (c', oc) ∈ t' → oc.data = .fields vs → vs[1]? = some (.str qual tq) →
      oi'.data = .cell (some (.ref f)) → (∀ q ∈ news, q.1 < f) → P < f → ci < f → Go w A (execs rest (envX cn cs L a (.ref c) cl)) Q { s with heap := h', toks := tk })
    (hd0 : params.defaults = [] := by rfl) (hk0 : params.kw_defaults = [] := by rfl) (ha : annTrees params none (envX cn cs L a (.ref c) cl) = [] := by rfl)
    (hq : qualnameIn (envX cn cs L a (.ref c) cl) name name = qual := by rfl)
    (hk : cs.kind = .function := by rfl) (hx : (envX cn cs L a (.ref c) cl).kindOf name = some .cell := by rfl) :
    Go w A (execs (.FunctionDef name params body [] none [] scope none name pos :: rest) (envX cn cs L a (.ref c) cl)) Q s := by
  refine go_then ⟨nestDef_K hd0 hk0 ha ?_⟩
  rw [hq]
  refine mkNest H F N T hne C hcl fun f c' oc vs tq ctv doc pm t' h' tk F' N' T' hc' hd hv l1 l2 => ?_
  have hlt : ci < f := l1 _ (.head _)
  have hct' : ∀ p ∈ t', p.1 ≠ ci := fun p hp e => by
    have h1 := (N' p (.tail _ (List.mem_append_left _ hp))).1
    have h2 := (N' (ci, oi) (.tail _ (List.mem_append_right _ (.head _)))).1
    rw [e] at h1
    rw [h1] at h2
    have h3 : p.2 = oi := Option.some.inj h2
    rcases T' with rfl | ⟨c2, oc2, vs2, tk2, rfl, hd2, hv2⟩
    · rcases List.mem_singleton.mp hp with rfl
      rw [← h3] at hoi
      cases hoi
    · rcases List.mem_cons.mp hp with rfl | hp
      · rw [← h3] at hoi
        cases hoi
      · rcases List.mem_singleton.mp hp with rfl
        rw [← h3, hd2] at hoi
        cases hoi
  have U : UpdF ci oi ((f, fnMade name qual params body scope clos doc pm c' ctv) :: (t' ++ ((ci, oi) :: news))) (fun o' => (f, fnMade name qual params body scope clos doc pm c' ctv) :: (t' ++ ((ci, o') :: news))) := by
    refine .tail (Nat.ne_of_gt hlt) ?_
    clear T' N' hc'
    induction t' with
    | nil => exact .head hci
    | cons p r ih => exact .tail (hct' p (.head _)) (ih fun q hq => hct' q (.tail _ hq))
  exact storeX_C (s := { s with heap := h', toks := tk }) F' N' hlook U hoi (fun h2 o2 F2 N2 d2 => h f c' oc vs tq ctv doc pm t' o2 h2 tk F2 N2 T' hc' hd hv d2 (fun q hq => l1 q (.tail _ hq)) l2 hlt) hk hx
end

section
variable {w : World} {A : Around} {env : Env} {g h : Heap} {L : Addr} {m : Mp} {news : Led} {cn : Str} {cs : Scope} {a : Addr} {ccd : Value} {cl : List (Str × Addr)} {l r e : Expr} {x : Str} {pos : Pos} {i j : Int} {v : Value} {P : Value → Prop} {c : Addr} {o : Obj}
theorem evFree (N : News g L h news) (hc : cl.lookup x = some c) (hm : (c, o) ∈ news) (hd : o.data = .cell (some v)) (hP : P v)
    (hk : cs.kind = .function := by rfl) (hx : (envX cn cs L a ccd cl).kindOf x = some .free := by rfl) (hb : (x == ("__debug__" : Str)) = false := by decide) (hn : (x == ("__classdict__" : Str)) = false := by decide) :
    Ev w A (envX cn cs L a ccd cl) h (.Name x pos) P := ⟨fun s Q E e k => by
  subst e
  exact nameX_F N hc hm hd (k v s.toks hP) hk hx hb hn⟩
theorem evCell (N : News g L h news) (hc : cl.lookup x = some c) (hm : (c, o) ∈ news) (hd : o.data = .cell (some v)) (hP : P v)
    (hk : cs.kind = .function := by rfl) (hx : (envX cn cs L a ccd cl).kindOf x = some .cell := by rfl) (hb : (x == ("__debug__" : Str)) = false := by decide) :
    Ev w A (envX cn cs L a ccd cl) h (.Name x pos) P := ⟨fun s Q E e k => by
  subst e
  exact nameX_C N hc hm hd (k v s.toks hP) hk hx hb⟩

/-- l[i], l a list -/
theorem evItem {value slice : Expr} {lst : Addr} {items : Array Value} (h1 : Ev w A env h value (IsV (.ref lst))) (h2 : EvI w A env h slice i) (hl : h.IsList lst items) (h0 : 0 ≤ i) (hfit : i < 2 ^ 63) (hx : items[i.toNat]? = some v) (hP : P v)
    (hs : ∀ u, subscripted slice false (.ref lst) (.int i u) = operate [.ref lst, .int i u] (getItem (.ref lst) (.int i u)) := by intro _; with_unfolding_all rfl) :
    Ev w A env h (.Subscript value slice pos) P := ⟨fun s Q E e k => by
  subst e
  refine Subscript_ (h1.run s _ _ rfl fun u tk hu => h2.run { s with toks := tk } _ _ rfl fun u2 tk2 hu2 => ?_)
  subst hu
  obtain ⟨t, rfl⟩ := hu2
  exact tail_any (T := "list") (s := { s with toks := tk2 }) (Heap.IsList.typeIs (s := { s with toks := tk2 }) hl) slot_list_getitem.lookup (wpAny_getItem_list (s := { s with toks := tk2 }) hl h0 hfit hx (k v tk2 hP)) (hs t)⟩
end

section
variable {w : World} {A : Around} {env : Env} {s : Shared} {Q : Value → Shared → Prop} {l r e e' : Expr} {pos : Pos} {op : Operator}
theorem goBin (h : Go w A (eval l env) (fun u s1 => Go w A (eval r env) (fun v s2 => Go w A (binaryOp op u v) Q s2) s1) s) : Go w A (eval (.BinOp l op r pos) env) Q s :=
  ⟨wpAny_BinOp (wpAny_mono h.run (fun u s1 h1 => wpAny_mono h1.run (fun v s2 h2 => h2.run) fun _ _ x => x) fun _ _ x => x)⟩
theorem goIfExp {test : Expr} {b : Bool} (ev : EvT w A env s.heap test b) (h1 : b = true → ∀ tk, Go w A (eval e env) Q { s with toks := tk }) (h2 : b = false → ∀ tk, Go w A (eval e' env) Q { s with toks := tk }) : Go w A (eval (.IfExp test e e' pos) env) Q s :=
  ⟨IfExp_ (ev.run s _ _ rfl fun tk => by
    cases b with
    | true => exact (h1 rfl tk).run
    | false => exact (h2 rfl tk).run)⟩
theorem go_mono {α : Type} {t : Sem α} {Q Q' : α → Shared → Prop} (h : Go w A t Q s) (k : ∀ a s', Q a s' → Q' a s') : Go w A t Q' s := ⟨wpAny_mono h.run k fun _ _ x => x⟩
end

section
variable {w : World} {A : Around} {g : Heap} {L : Addr} {m : Mp} {s : Shared} {news : Led} {Q : Value → Shared → Prop} {cn : Str} {cs : Scope} {a : Addr} {ccd : Value} {cl : List (Str × Addr)} {env : Env}
/-- len(e), e a list -/
theorem evLen {lst : Addr} {items : Array Value} {h : Heap} {e : Expr} {p pos : Pos} (H : Here w A env g L) (F : Fr g L h m) (h1 : Ev w A (envX cn cs L a ccd cl) h e (IsV (.ref lst))) (hl : h.IsList lst items) (hfit : (items.size : Int) < 2 ^ 63)
    (he : eval (.Call (.Name (Str.ofString "len") p) [e] [] pos) (envX cn cs L a ccd cl) = (do callWith pos (← eval (.Name (Str.ofString "len") p) (envX cn cs L a ccd cl)) [] (backTo pos (starEach [e] (envX cn cs L a ccd cl))) (backToKw pos (keywordEach [] (envX cn cs L a ccd cl)))) := by rfl)
    (he2 : starEach [e] (envX cn cs L a ccd cl) = (false, eval e (envX cn cs L a ccd cl)) :: starEach [] (envX cn cs L a ccd cl) := by rfl)
    (hk : cs.kind = .function := by rfl) (hx : (envX cn cs L a ccd cl).kindOf (Str.ofString "len") = some .globalImplicit := by rfl) :
    EvI w A (envX cn cs L a ccd cl) h (.Call (.Name (Str.ofString "len") p) [e] [] pos) items.size := ⟨fun s Q E e0 k => by
  subst e0
  refine Call_ ((evBoot H F rfl boot_len (P := IsV (.builtin "len")) rfl (hk := hk) (hx := hx)).run s _ _ rfl fun v tk hp => ?_) he
  subst hp
  refine PyProof.Rows.callWith_builtin1 (args_cons (h1.run { s with toks := tk } _ _ rfl fun u tk2 hu => args_nil ?_) he2) he2 rfl
  subst hu
  exact len_list (s := { s with toks := tk2 }) hl hfit (k _ _ isI)⟩
theorem evTruthL {lst : Addr} {items : Array Value} {h : Heap} {e : Expr} (h1 : Ev w A env h e (IsV (.ref lst))) (hl : h.IsList lst items) (hfit : (items.size : Int) < 2 ^ 63) (he : isTrue e env (eval e env) = (do let v ← eval e env; standAt e.pos; holding [v] (truthy v)) := by rfl) : EvT w A env h e (!items.isEmpty) := ⟨fun s Q E e0 k =>
  isTrue_plain (h1.run s _ _ e0 fun u tk hu => by subst hu; subst e0; exact wpAny_truthy_list (s := { s with toks := tk }) hl hfit (k _)) he⟩

/-- a call of a function object of the ledger's, by any pure expression -/
theorem callMade {func : Expr} {f : Addr} {fo : FuncData} {fc : Value} {fod : Option Addr} {fsl : Array (Option Value)} {arg : Expr} {args : List Expr} {Ps : List (Value → Prop)} {pos : Pos} (F : Fr g L s.heap m) (N : News g L s.heap news)
    (hf : Ev w A env s.heap func (IsV (.ref f))) (ho : (f, (⟨fc, fod, .func fo, fsl⟩ : Obj)) ∈ news) (evs : Evs w A env s.heap (arg :: args) Ps)
    (h : ∀ vs tk, AllV vs Ps → Go w A (call (.ref f) vs) Q { s with toks := tk })
    (he : eval (.Call func (arg :: args) [] pos) env = (do callWith pos (← eval func env) [] (backTo pos (starEach (arg :: args) env)) (backToKw pos (keywordEach [] env))) := by rfl)
    (he2 : starEach (arg :: args) env = (false, eval arg env) :: starEach args env := by rfl) (hplain : (backTo pos (starEach args env)).any (·.1) = false := by rfl) :
    Go w A (eval (.Call func (arg :: args) [] pos) env) Q s :=
  ⟨Call_ (hf.run s _ _ rfl fun v tk hp => by
    subst hp
    exact callWith_F (FnAt.of N ho) (evArgs (s := { s with toks := tk }) evs fun vs tk' hvs => ⟨FnAt.of N ho, (h vs tk' hvs).run⟩).run he2 hplain) he⟩
end

section
variable {w : World} {A : Around} {g : Heap} {L : Addr} {m : Mp} {s : Shared} {news : Led} {Q : Flow → Shared → Prop} {cn : Str} {cs : Scope} {a : Addr} {ccd : Value} {cl : List (Str × Addr)} {e : Expr} {x : Str} {pos pos' : Pos} {rest : List Stmt} {P : Value → Prop} {env : Env}
/-- e as a statement, e gives None -/
theorem exExpr (h : Go w A (eval e env) (fun v s' => v = .none ∧ Go w A (execs rest env) Q s') s)
    (hi : interactive env = false := by rfl) (hs : swapsWith e none pos.line env = pure false := by rfl) : Go w A (execs (.Expr e pos :: rest) env) Q s :=
  go_then ⟨wpAny_Expr (wpAny_mono h.run (fun v s' x => by obtain ⟨rfl, h2⟩ := x; exact h2) fun _ _ x => x) hi hs⟩
/-- o[i] = v -/
theorem exSet {o i value : Expr} {l : Addr} {k : Int} (h1 : Ev w A env s.heap value P) (h2 : Ev w A env s.heap o (IsV (.ref l))) (h3 : EvI w A env s.heap i k)
    (h : ∀ v t tk, P v → Go w A (setItem (.ref l) (.int k t) v) (fun _ s' => Go w A (execs rest env) Q s') { s with toks := tk })
    (hs : swapsWith value (some (.Subscript o i pos')) pos.line env = pure false := by rfl) : Go w A (execs (.Assign [.Subscript o i pos'] value pos :: rest) env) Q s :=
  go_then ⟨wpAny_Assign_Subscript (h1.run s _ _ rfl fun v tk hv => h2.run { s with toks := tk } _ _ rfl fun ov tk2 ho => h3.run { s with toks := tk2 } _ _ rfl fun iv tk3 hi => by
    subst ho
    obtain ⟨t, rfl⟩ := hi
    exact (h v t tk3 hv).run) hs⟩
theorem exRetNone (h : Q (.ret .none) s) : Go w A (execs (.Return none pos :: rest) env) Q s := go_then ⟨wpAny_Return_none h⟩
/-- x = e, x caught by a def within -/
theorem exAsgC {ci : Addr} (h : Go w A (eval e (envX cn cs L a ccd cl)) (fun v s' => ∃ m' news' oi v₀ u, Fr g L s'.heap m' ∧ News g L s'.heap news' ∧ UpdF ci oi news' u ∧ oi.data = .cell v₀ ∧
      ∀ h' o', Fr g L h' m' → News g L h' (u o') → o'.data = .cell (some v) → Go w A (execs rest (envX cn cs L a ccd cl)) Q { s' with heap := h' }) s)
    (hlook : cl.lookup x = some ci)
    (hs : swapsWith e (some (.Name x pos')) pos.line (envX cn cs L a ccd cl) = pure false := by rfl)
    (hk : cs.kind = .function := by rfl) (hx : (envX cn cs L a ccd cl).kindOf x = some .cell := by rfl) :
    Go w A (execs (.Assign [.Name x pos'] e pos :: rest) (envX cn cs L a ccd cl)) Q s :=
  go_then ⟨wpAny_Assign_Name (wpAny_mono h.run (fun v s' x => by
    obtain ⟨m', news', oi, v₀, u, F', N', U, hd, k⟩ := x
    exact storeX_C F' N' hlook U hd (fun h' o' F2 N2 d2 => k h' o' F2 N2 d2) hk hx) fun _ _ x => x) hs⟩
end
theorem led_gen {g h : Heap} {L : Addr} {p : Addr × Obj} {r : Led} (N : News g L h (p :: r)) : ∃ led : Led, News g L h led ∧ p ∈ led ∧ ∀ q ∈ r, q ∈ led := ⟨p :: r, N, .head _, fun q hq => .tail _ hq⟩

theorem TabL.fields {P : Addr} {ln col : Nat} {qual : Str} {t : Led} (T : TabL P ln col qual t) : ∀ p ∈ t, ∃ vs, p.2.data = .fields vs := by
  intro p hp
  rcases T with rfl | ⟨c', oc, vs, tk, rfl, hd, _⟩
  · rcases List.mem_singleton.mp hp with rfl
    exact ⟨_, rfl⟩
  · rcases List.mem_cons.mp hp with rfl | hp
    · exact ⟨_, rfl⟩
    · rcases List.mem_singleton.mp hp with rfl
      exact ⟨_, hd⟩
theorem news_ne {g h : Heap} {L : Addr} {led : Led} {p q : Addr × Obj} (N : News g L h led) (h1 : p ∈ led) (h2 : q ∈ led) (hd : p.2.data ≠ q.2.data) : p.1 ≠ q.1 := fun e => by
  have h3 := (N _ h1).1
  rw [e, (N _ h2).1] at h3
  exact hd (by rw [Option.some.inj h3])
/-- one object apart, the def's own forward, the rest closed -/
theorem led_out {g h : Heap} {L l : Addr} {p : Addr × Obj} {o : Obj} {r r' : Led} (N : News g L h (p :: r)) (hl : (l, o) ∈ r) (hr : ∀ q ∈ r', q ∈ r) (hp : p.1 ≠ l) (hne : ∀ q ∈ r', q.1 ≠ l) :
    ∃ led : Led, News g L h ((l, o) :: led) ∧ p ∈ led ∧ (∀ q ∈ r', q ∈ led) ∧ ∀ q ∈ led, q.1 ≠ l :=
  ⟨p :: r', fun q hq => by
    rcases List.mem_cons.mp hq with rfl | hq
    · exact N _ (.tail _ hl)
    rcases List.mem_cons.mp hq with rfl | hq
    · exact N _ (.head _)
    · exact N _ (.tail _ (hr q hq)), .head _, fun q hq => .tail _ hq, fun q hq => by
    rcases List.mem_cons.mp hq with rfl | hq
    · exact hp
    · exact hne q hq⟩

theorem codeHd75 {w : World} {g : Heap} (X : (KK w).In g) : CodeHd g 75 71 :=
  ⟨_, _, _, _, _, _, _, _, _, X 75 _ rfl, rfl, rfl, rfl, rfl, rfl, rfl, rfl, rfl, by decide⟩
theorem codeHd68 {w : World} {g : Heap} (X : (KK w).In g) : CodeHd g 68 64 :=
  ⟨_, _, _, _, _, _, _, _, _, X 68 _ rfl, rfl, rfl, rfl, rfl, rfl, rfl, rfl, rfl, by decide⟩
end Mine
end

-- Fw4
section
open PySem PySem.W PyProof.Rows PySem.Calls
set_option Elab.async false
set_option maxRecDepth 100000
set_option linter.all false
namespace Mine

theorem off_step {g h h' : Heap} {L I : Addr} {m : Mp} {oI oI' : Obj} {led : Led} (F : Fr g L h m) (N : News g L h ((I, oI) :: led)) (hne : ∀ p ∈ led, p.1 ≠ I)
    (hk : ∀ b o, b ∉ [I] → h.get? b = some o → h'.get? b = some o) (ho : h'.get? I = some oI') : Fr g L h' m ∧ News g L h' ((I, oI') :: led) := by
  have hI := N _ (.head _)
  obtain ⟨oL, es, ep, hL, r⟩ := F.ns
  refine ⟨⟨⟨oL, es, ep, hk _ _ (fun q => hI.2.1 (List.mem_singleton.mp q).symm) hL, r⟩, fun b o e => hk _ _ (fun q => ?_) (F.keep b o e), F.above⟩, fun p hp => ?_⟩
  · rw [List.mem_singleton.mp q, hI.2.2] at e; cases e
  · rcases List.mem_cons.mp hp with rfl | hp
    · exact ⟨ho, hI.2⟩
    · have P := N p (.tail _ hp)
      exact ⟨hk _ _ (fun q => hne p hp (List.mem_singleton.mp q)) P.1, P.2⟩
theorem off_done {g h h' : Heap} {L I : Addr} {m : Mp} {oI : Obj} {led : Led} (F : Fr g L h m) (N : News g L h ((I, oI) :: led)) (hne : ∀ p ∈ led, p.1 ≠ I)
    (hk : ∀ b o, b ∉ [I] → h.get? b = some o → h'.get? b = some o) : Fr g L h' m ∧ News g L h' led := by
  have hI := N _ (.head _)
  obtain ⟨oL, es, ep, hL, r⟩ := F.ns
  refine ⟨⟨⟨oL, es, ep, hk _ _ (fun q => hI.2.1 (List.mem_singleton.mp q).symm) hL, r⟩, fun b o e => hk _ _ (fun q => ?_) (F.keep b o e), F.above⟩, fun p hp => ?_⟩
  · rw [List.mem_singleton.mp q, hI.2.2] at e; cases e
  · have P := N p (.tail _ hp)
    exact ⟨hk _ _ (fun q => hne p hp (List.mem_singleton.mp q)) P.1, P.2⟩

/-- an iterator that stands ready -/
structure Ready (w : World) (A : Around) (g : Heap) (L : Addr) (keep : Led) (n : Nat) (P : Nat → Value → Prop) (m : Mp) (led : Led) (it : Value) (h : Heap) : Prop where
  out : ∃ I oI fp St, it = .ref I ∧ Walks PR w A I fp [I] n P St ∧ St 0 h ∧ Fr g L h m ∧ News g L h ((I, oI) :: led) ∧ (∀ p ∈ led, p.1 < I) ∧ (∀ b ∈ fp, b = I ∨ ∃ o, (b, o) ∈ keep) ∧ ∀ i h, St i h → ∃ o, h.get? I = some o

section
variable {w : World} {A : Around} {g : Heap} {L : Addr} {m : Mp} {s : Shared} {Q : Flow → Shared → Prop} {env : Env} {pos px : Pos} {rest : List Stmt}

theorem exFor {x : Str} {iter : Expr} {body : List Stmt} (J : Nat → Mp → Led → Prop) (keep : Led) (n : Nat) (P : Nat → Value → Prop)
    (h : Go w A (eval iter env) (fun xv s1 => Go w A (pyIter xv) (fun it s2 => ∃ h2 tk2 m2 led2, s2 = { s with heap := h2, toks := tk2 } ∧ Ready w A g L keep n P m2 led2 it h2 ∧ (∀ p ∈ keep, p ∈ led2) ∧ J 0 m2 led2) s1) s)
    (turn : ∀ i v m1 led1 h1 tk1 I oI, i < n → P i v → J i m1 led1 → (∀ p ∈ keep, p ∈ led1) → Fr g L h1 m1 → News g L h1 ((I, oI) :: led1) → (∀ p ∈ led1, p.1 ≠ I) →
      Go w A (assign (.Name x px) env v) (fun _ s2 => Go w A (execs body env) (fun f s3 => f = .next ∧ ∃ m3 led3 h3 tk3, s3 = { s with heap := h3, toks := tk3 } ∧ Fr g L h3 m3 ∧ News g L h3 ((I, oI) :: led3) ∧ (∀ p ∈ led3, p.1 ≠ I) ∧ (∀ p ∈ keep, p ∈ led3) ∧ J (i + 1) m3 led3) s2) { s with heap := h1, toks := tk1 })
    (fin : ∀ m1 led1 h1 tk1, J n m1 led1 → (∀ p ∈ keep, p ∈ led1) → Fr g L h1 m1 → News g L h1 led1 → Go w A (execs rest env) Q { s with heap := h1, toks := tk1 })
    (hs : ∀ x, foldedSetIterable iter env x = pure x := by intro _; rfl) :
    Go w A (execs (.For (.Name x px) iter body [] pos :: rest) env) Q s := by
  refine go_then ⟨wpAny_For (wpAny_mono h.run (fun xv s1 h1 => wpAny_mono h1.run (fun it s2 h2 => ?_) fun _ _ z => z) fun _ _ z => z) hs⟩
  obtain ⟨h2, tk2, m2, led2, rfl, ⟨I, oI, fp, St, rfl, W, st, F2, N2, lt2, hfp, hget⟩, hkeep, hJ⟩ := h2
  refine codeAny_forLoop_any (fun k s' => ∃ i m' led' h' tk' oI, s' = { s with heap := h', toks := tk' } ∧ k = n - i ∧ i ≤ n ∧ St i h' ∧ Fr g L h' m' ∧ News g L h' ((I, oI) :: led') ∧ (∀ p ∈ led', p.1 ≠ I) ∧ (∀ p ∈ keep, p ∈ led') ∧ J i m' led') ?_ n
    ⟨0, m2, led2, h2, tk2, oI, rfl, rfl, Nat.zero_le _, st, F2, N2, fun p hp => Nat.ne_of_lt (lt2 p hp), hkeep, hJ⟩
  rintro k s' ⟨i, m', led', h', tk', oI, rfl, rfl, hi, st', F', N', hne', hkeep', hJ'⟩
  by_cases hlt : i < n
  · refine W.item i _ _ _ hlt st' fun v h3 tk3 hP st3 hk3 => ?_
    obtain ⟨oI3, hoI3⟩ := hget _ _ st3
    obtain ⟨F3, N3⟩ := off_step F' N' hne' hk3 hoI3
    refine wpAny_pure ?_
    refine wpAny_mono (turn i v m' led' h3 tk3 I oI3 hlt hP hJ' hkeep' F3 N3 hne').run (fun _ s4 h4 => wpAny_mono h4.run (fun f s5 h5 => ?_) fun _ _ z => z.elim) fun _ _ z => z.elim
    obtain ⟨rfl, m5, led5, h5, tk5, rfl, F5, N5, hne5, hkeep5, hJ5⟩ := h5
    refine ⟨n - (i + 1), by omega, i + 1, m5, led5, h5, tk5, oI3, rfl, rfl, hlt, ?_, F5, N5, hne5, hkeep5, hJ5⟩
    refine W.frame _ _ _ st3 fun b hb o e => ?_
    rcases hfp b hb with rfl | ⟨o', ho'⟩
    · rw [hoI3] at e
      cases e
      exact (N5 _ (.head _)).1
    · have e1 := (N3 _ (.tail _ (hkeep' _ ho'))).1
      rw [e1] at e
      cases e
      exact (N5 _ (.tail _ (hkeep5 _ ho'))).1
  · have hin : i = n := by omega
    subst hin
    refine W.done _ _ _ st' fun h3 tk3 hk3 => ?_
    obtain ⟨F3, N3⟩ := off_done F' N' hne' hk3
    exact wpAny_execs_nil (fin m' led' h3 tk3 hJ' hkeep' F3 N3)
end

section
variable {w : World} {A : Around} {g : Heap} {L : Addr} {m : Mp} {s : Shared} {env : Env} {news : Led} {l : Addr} {vs : List Value} {z : Nat}
/-- a list is iterated -/
theorem readyList (hh : A.handled = none) (F : Fr g L s.heap m) (N : News g L s.heap news) (hl : (l, listOf vs.toArray z) ∈ news) {Q : Value → Shared → Prop}
    (h : ∀ it h', Ready w A g L [(l, listOf vs.toArray z)] vs.length (fun i v => vs[i]? = some v) m news it h' → Q it { s with heap := h' }) : Go w A (pyIter (.ref l)) Q s := by
  have hI : s.heap.IsList l vs.toArray := News.isList N hl
  refine ⟨wpAny_pyIter_list hI (h _ _ ⟨_, _, [s.heap.objs.size, l], fun i h => h.IsListIter s.heap.objs.size l i ∧ h.IsList l vs.toArray, rfl, ?_, ?_, F.push _, N.push F _, fun p hp => Heap.lt_size (N p hp).1, ?_, ?_⟩)⟩
  · have := Walks.list (prog := PR) (w := w) hh s.heap.objs.size l (Nat.ne_of_lt (Heap.lt_size (N _ hl).1)) vs.toArray
    simpa using this
  · exact ⟨⟨_, Heap.get?_push_size _ rfl, rfl, rfl⟩, News.isList (N.push F _) (.tail _ hl)⟩
  · intro b hb
    rcases List.mem_cons.mp hb with rfl | hb
    · exact .inl rfl
    · rw [List.mem_singleton.mp hb]; exact .inr ⟨_, .head _⟩
  · rintro i h ⟨⟨o, ho, _⟩, _⟩
    exact ⟨o, ho⟩

/-- reversed(list) is iterated -/
theorem readyRev (hh : A.handled = none) (F : Fr g L s.heap m) (N : News g L s.heap news) (hl : (l, listOf vs.toArray z) ∈ news) {Q : Value → Shared → Prop}
    (h : ∀ it h', (∀ {Q : Value → Shared → Prop}, Q it { s with heap := h' } → Go w A (pyIter it) Q { s with heap := h' }) → Ready w A g L [(l, listOf vs.toArray z)] vs.length (fun i v => vs[vs.length - 1 - i]? = some v) m news it h' → Q it { s with heap := h' }) :
    Go w A (call (.type "reversed") [.ref l]) Q s := by
  have hI : s.heap.IsList l vs.toArray := News.isList N hl
  have hrev : (s.heap.push (revObj l ((vs.toArray.size : Int) - 1))).IsRevIter s.heap.objs.size l ((vs.toArray.size : Int) - 1) := ⟨_, Heap.get?_push_size _ rfl, rfl, rfl⟩
  refine ⟨call_reversed_list hI (h _ _ (fun hq => ⟨wpAny_pyIter_revIter hrev hq⟩) ⟨_, _, [s.heap.objs.size, l], fun i h => i ≤ vs.toArray.size ∧ h.IsRevIter s.heap.objs.size l ((vs.toArray.size : Int) - 1 - (i : Int)) ∧ h.IsList l vs.toArray, rfl, ?_, ?_, F.push _, N.push F _, fun p hp => Heap.lt_size (N p hp).1, ?_, ?_⟩)⟩
  · have := Walks.listRev (prog := PR) (w := w) hh s.heap.objs.size l (Nat.ne_of_lt (Heap.lt_size (N _ hl).1)) vs.toArray
    simpa using this
  · refine ⟨Nat.zero_le _, ?_, News.isList (N.push F _) (.tail _ hl)⟩
    have e : ((vs.toArray.size : Int) - 1 - ((0 : Nat) : Int)) = (vs.toArray.size : Int) - 1 := by omega
    rw [e]; exact hrev
  · intro b hb
    rcases List.mem_cons.mp hb with rfl | hb
    · exact .inl rfl
    · rw [List.mem_singleton.mp hb]; exact .inr ⟨_, .head _⟩
  · rintro i h ⟨_, ⟨o, ho, _⟩, _⟩
    exact ⟨o, ho⟩
end
end Mine
end

-- Fw5
section
open PySem PySem.W PyProof.Rows PySem.Calls
set_option Elab.async false
set_option maxRecDepth 100000
set_option linter.all false
namespace Mine

section
variable {w : World} {A : Around} {g : Heap} {L : Addr} {m : Mp} {s : Shared} {news : Led} {Q : Value → Shared → Prop} {cn : Str} {cs : Scope} {a : Addr} {ccd : Value} {cl : List (Str × Addr)} {env : Env}
/-- a call of a built-in class by its name -/
theorem callBootT {fn : Str} {T : String} {arg : Expr} {args : List Expr} {Ps : List (Value → Prop)} {p pos : Pos} (H : Here w A env g L) (F : Fr g L s.heap m)
    (hv : nsIn (KK w) mainGlobals fn = some none) (hb : bootBuiltins fn = some (.type T)) (evs : Evs w A (envX cn cs L a ccd cl) s.heap (arg :: args) Ps)
    (h : ∀ vs tk, AllV vs Ps → Go w A (call (.type T) vs) Q { s with toks := tk })
    (hn : fn ≠ "__name__" := by decide)
    (he : eval (.Call (.Name fn p) (arg :: args) [] pos) (envX cn cs L a ccd cl) = (do callWith pos (← eval (.Name fn p) (envX cn cs L a ccd cl)) [] (backTo pos (starEach (arg :: args) (envX cn cs L a ccd cl))) (backToKw pos (keywordEach [] (envX cn cs L a ccd cl)))) := by rfl)
    (he2 : starEach (arg :: args) (envX cn cs L a ccd cl) = (false, eval arg (envX cn cs L a ccd cl)) :: starEach args (envX cn cs L a ccd cl) := by rfl) (hplain : (backTo pos (starEach args (envX cn cs L a ccd cl))).any (·.1) = false := by rfl)
    (hk : cs.kind = .function := by rfl) (hx : (envX cn cs L a ccd cl).kindOf fn = some .globalImplicit := by rfl) (hd : (fn == ("__debug__" : Str)) = false := by decide) :
    Go w A (eval (.Call (.Name fn p) (arg :: args) [] pos) (envX cn cs L a ccd cl)) Q s :=
  ⟨Call_ ((evBoot H F hv hb (P := IsV (.type T)) rfl hn hk hx hd).run s _ _ rfl fun v tk hp => by
    subst hp
    exact callWith_type1 (evArgs (s := { s with toks := tk }) evs fun vs tk' hvs => (h vs tk' hvs).run).run he2 hplain) he⟩

/-- l.name(args), l a list of the ledger's -/
theorem methList {o arg : Expr} {args : List Expr} {name : Str} {id : String} {apos pos : Pos} {pl : Sem Bool} {D : Addr} {its : Array Value} {n : Nat} {Ps : List (Value → Prop)} (N : News g L s.heap news) (hm : (D, listOf its n) ∈ news)
    (slot : Slot "list" name id) (hty : typeOf (.builtin id) = pure (.type "method_descriptor")) (ho : Ev w A env s.heap o (IsV (.ref D))) (evs : Evs w A env s.heap (arg :: args) Ps)
    (h : ∀ vs tk, AllV vs Ps → Go w A (call (.builtin id) (.ref D :: vs)) Q { s with toks := tk })
    (he : eval (.Call (.Attribute o name apos) (arg :: args) [] pos) env = (do
      let ov ← eval o env
      standAt apos.atName
      let (f, first) ← holding [ov] (getMethod ov name pl)
      callWith pos f first (backTo pos (starEach (arg :: args) env)) []) := by rfl)
    (he2 : starEach (arg :: args) env = (false, eval arg env) :: starEach args env := by rfl) (hplain : (backTo pos (starEach args env)).any (·.1) = false := by rfl) :
    Go w A (eval (.Call (.Attribute o name apos) (arg :: args) [] pos) env) Q s :=
  ⟨MethodCall_ (ho.run s _ _ rfl fun v tk hp => by
    subst hp
    exact kl_method (s := { s with toks := tk }) N hm slot hty (callWith_method1 (evArgs (s := { s with toks := tk }) evs fun vs tk' hvs => (h vs tk' hvs).run).run he2 hplain)) he⟩
theorem methList0 {o : Expr} {name : Str} {id : String} {apos pos : Pos} {pl : Sem Bool} {D : Addr} {its : Array Value} {n : Nat} (N : News g L s.heap news) (hm : (D, listOf its n) ∈ news)
    (slot : Slot "list" name id) (hty : typeOf (.builtin id) = pure (.type "method_descriptor")) (ho : Ev w A env s.heap o (IsV (.ref D)))
    (h : ∀ tk, Go w A (call (.builtin id) [.ref D]) Q { s with toks := tk })
    (he : eval (.Call (.Attribute o name apos) [] [] pos) env = (do
      let ov ← eval o env
      standAt apos.atName
      let (f, first) ← holding [ov] (getMethod ov name pl)
      callWith pos f first (backTo pos (starEach [] env)) []) := by rfl) :
    Go w A (eval (.Call (.Attribute o name apos) [] [] pos) env) Q s :=
  ⟨MethodCall_ (ho.run s _ _ rfl fun v tk hp => by
    subst hp
    exact kl_method (s := { s with toks := tk }) N hm slot hty (callWith_method0 (h tk).run)) he⟩
end

section
variable {w : World} {A : Around} {g : Heap} {L : Addr} {m : Mp} {s : Shared} {news : Led} {Q : Unit → Shared → Prop} {cn : Str} {cs : Scope} {a : Addr} {ccd : Value} {cl : List (Str × Addr)} {x : Str} {px : Pos} {v : Value}
theorem goStore (F : Fr g L s.heap m) (N : News g L s.heap news) (h : ∀ h' tk, Fr g L h' (upd m x v) → News g L h' news → Q () { s with heap := h', toks := tk })
    (hk : cs.kind = .function := by rfl) (hx : (envX cn cs L a ccd cl).kindOf x = some .local := by rfl) : Go w A (assign (.Name x px) (envX cn cs L a ccd cl) v) Q s :=
  ⟨PyProof.Rows.assign_Name (storeX_L F N (fun h' F' N' => h h' _ F' N') hk hx)⟩
theorem goStoreC {c : Addr} {o : Obj} {v₀ : Option Value} {u : Obj → Led} (F : Fr g L s.heap m) (N : News g L s.heap news) (hc : cl.lookup x = some c) (U : UpdF c o news u) (hd : o.data = .cell v₀)
    (h : ∀ h' o', Fr g L h' m → News g L h' (u o') → o'.data = .cell (some v) → Q () { s with heap := h' })
    (hk : cs.kind = .function := by rfl) (hx : (envX cn cs L a ccd cl).kindOf x = some .cell := by rfl) : Go w A (assign (.Name x px) (envX cn cs L a ccd cl) v) Q s :=
  ⟨PyProof.Rows.assign_Name (storeX_C F N hc U hd (fun h' o' F' N' d' => h h' o' F' N' d') hk hx)⟩
end
/-- both tables of the defs within -/
abbrev qualD : Str := Str.ofString "_digits2int.<locals>.inner"
abbrev qualI : Str := Str.ofString "_int2digits.<locals>.inner"
structure TT (t1 t2 : Led) : Prop where
  d : TabL 71 54 4 qualD t1
  i : TabL 64 39 4 qualI t2
def Off (news : Led) : Prop := ∀ p ∈ news, p.1 ≠ 71 ∧ p.1 ≠ 64

theorem tab_ne {g h : Heap} {L P : Addr} {led t : Led} {ps : Array Value} {P' : Addr} {ln col : Nat} {qual : Str} (N : News g L h led) (T : TabL P' ln col qual t) (ht : ∀ p ∈ t, p ∈ led) (hP : (P, tabObj ps) ∈ led) (hps : ∀ (x : Str) u, ps[1]? ≠ some (.str x u)) (hne : P' ≠ P) : ∀ p ∈ t, p.1 ≠ P := by
  intro p hp
  rcases T with rfl | ⟨c', oc, vs, tk, rfl, hd, hv⟩
  · rcases List.mem_singleton.mp hp with rfl
    exact hne
  · rcases List.mem_cons.mp hp with rfl | hp'
    · exact hne
    · rcases List.mem_singleton.mp hp' with rfl
      refine news_ne (q := (P, tabObj ps)) N (ht _ hp) hP ?_
      rw [hd]
      intro e
      have e2 : vs = ps := by injection e
      rw [e2] at hv
      exact hps _ _ hv
theorem TabL.mem' {P : Addr} {ln col : Nat} {qual : Str} {t : Led} (T : TabL P ln col qual t) : ∃ ps : Array Value, (P, tabObj ps) ∈ t ∧ ∀ (x : Str) u, ps[1]? ≠ some (.str x u) := by
  rcases T with rfl | ⟨c', oc, vs, tk, rfl, _⟩
  · exact ⟨_, .head _, by intro x u e; cases e⟩
  · exact ⟨_, .head _, by intro x u e; cases e⟩
theorem TT.off {g h : Heap} {L : Addr} {led t1 t2 : Led} (T : TT t1 t2) (N : News g L h led) (h1 : ∀ p ∈ t1, p ∈ led) (h2 : ∀ p ∈ t2, p ∈ led) : (∀ p ∈ t2, p.1 ≠ 71) ∧ (∀ p ∈ t1, p.1 ≠ 64) := by
  obtain ⟨ps, hp, hps⟩ := T.d.mem'
  obtain ⟨ps', hp', hps'⟩ := T.i.mem'
  exact ⟨tab_ne N T.i h2 (h1 _ hp) hps (by decide), tab_ne N T.d h1 (h2 _ hp') hps' (by decide)⟩
/-- an object that is no record lies off the tables -/
theorem TT.offObj {g h : Heap} {L : Addr} {led t1 t2 : Led} {q : Addr × Obj} (T : TT t1 t2) (N : News g L h led) (h1 : ∀ p ∈ t1, p ∈ led) (h2 : ∀ p ∈ t2, p ∈ led) (hq : q ∈ led) (hd : ∀ vs, q.2.data ≠ .fields vs) : q.1 ≠ 71 ∧ q.1 ≠ 64 := by
  obtain ⟨ps, hp, _⟩ := T.d.mem'
  obtain ⟨ps', hp', _⟩ := T.i.mem'
  exact ⟨news_ne (q := (71, tabObj ps)) N hq (h1 _ hp) (hd _), news_ne (q := (64, tabObj ps')) N hq (h2 _ hp') (hd _)⟩
end Mine
end

-- Fw6
section
open PySem PySem.W PyProof.Rows PySem.Calls
set_option Elab.async false
set_option maxRecDepth 100000
set_option linter.all false
namespace Mine

section
variable {w : World} {A : Around} {g : Heap} {L : Addr} {m : Mp} {s : Shared} {news : Led} {Q : Value → Shared → Prop} {cn : Str} {cs : Scope} {a : Addr} {ccd : Value} {cl : List (Str × Addr)} {env : Env}
/-- a call of a def of the top's, its first argument made on the way -/
theorem callName2G {fn : Str} {f : Addr} {a1 a2 : Expr} {P2 : Value → Prop} {p pos : Pos} (H : Here w A env g L) (F : Fr g L s.heap m)
    (hv : nsIn (KK w) mainGlobals fn = some (some (.ref f))) (hkeep : keepIn (KK w) (.ref f) = true)
    (h : ∀ tk, Go w A (eval a1 (envX cn cs L a ccd cl)) (fun v1 s1 => (∃ m' : Mp, Fr g L s1.heap m') ∧ Ev w A (envX cn cs L a ccd cl) s1.heap a2 P2 ∧ ∀ v2 tk, P2 v2 → Go w A (call (.ref f) [v1, v2]) Q { s1 with toks := tk }) { s with toks := tk })
    (he : eval (.Call (.Name fn p) [a1, a2] [] pos) (envX cn cs L a ccd cl) = (do callWith pos (← eval (.Name fn p) (envX cn cs L a ccd cl)) [] (backTo pos (starEach [a1, a2] (envX cn cs L a ccd cl))) (backToKw pos (keywordEach [] (envX cn cs L a ccd cl)))) := by rfl)
    (he2 : starEach [a1, a2] (envX cn cs L a ccd cl) = (false, eval a1 (envX cn cs L a ccd cl)) :: starEach [a2] (envX cn cs L a ccd cl) := by rfl) (he3 : starEach [a2] (envX cn cs L a ccd cl) = (false, eval a2 (envX cn cs L a ccd cl)) :: starEach [] (envX cn cs L a ccd cl) := by rfl)
    (hplain : (backTo pos (starEach [a2] (envX cn cs L a ccd cl))).any (·.1) = false := by rfl)
    (hk : cs.kind = .function := by rfl) (hx : (envX cn cs L a ccd cl).kindOf fn = some .globalImplicit := by rfl) (hd : (fn == ("__debug__" : Str)) = false := by decide) :
    Go w A (eval (.Call (.Name fn p) [a1, a2] [] pos) (envX cn cs L a ccd cl)) Q s :=
  ⟨Call_ ((evGlob H F hv (P := IsV (.ref f)) rfl hk hx hd).run s _ _ rfl fun v tk hp => by
    subst hp
    refine callWith_K H.X hkeep (args_cons (wpAny_mono (h tk).run (fun v1 s1 z => ?_) fun _ _ z => z) he2) he2 hplain
    obtain ⟨⟨m', F'⟩, ev2, k⟩ := z
    exact args_cons (ev2.run s1 _ _ rfl fun v2 tk2 hp2 => args_nil ⟨H.X.keeps F'.keep, (k v2 tk2 hp2).run⟩) he3) he⟩

/-- a slice's part -/
structure EvP (w : World) (A : Around) (env : Env) (h : Heap) (e : Option Expr) (p : Option Int) : Prop where
  run : ∀ (s : Shared) (Q E : Value → Shared → Prop), s.heap = h → (∀ v tk, IsPart v p → Q v { s with toks := tk }) → wpAny (model PR w) A (evalPart e env) Q E s
theorem evP0 {h : Heap} : EvP w A env h none none := ⟨fun s Q E e k => evalPart_none_step (k .none s.toks .none)⟩
theorem evP1 {h : Heap} {e : Expr} {i : Int} (ev : EvI w A env h e i) : EvP w A env h (some e) (some i) := ⟨fun s Q E e0 k => evalPart_some_step (ev.run s _ _ e0 fun v tk hp => by obtain ⟨t, rfl⟩ := hp; exact k _ tk (.int i t))⟩

/-- l[lo:hi:st], l a list -/
theorem goSlice {value : Expr} {lo up st : Option Expr} {sp pos : Pos} {plo pup pst : Option Int}
    (h : Go w A (eval value env) (fun o s1 => ∃ l items m' news', o = .ref l ∧ Fr g L s1.heap m' ∧ News g L s1.heap news' ∧ s1.heap.IsList l items ∧ items.size ≤ sizeLine ∧ EvP w A env s1.heap lo plo ∧ EvP w A env s1.heap up pup ∧ EvP w A env s1.heap st pst ∧
      ∀ D h' tk, Fr g L h' m' → News g L h' ((D, listOf (slicePick items plo pup pst) 0) :: news') → (∀ p ∈ news', p.1 < D) → Q (.ref D) { s1 with heap := h', toks := tk }) s)
    (h0 : pst ≠ some 0 := by decide)
    (hs : ∀ l i, ∃ ops, subscripted (.Slice lo up st sp) false (.ref l) (.ref i) = operate ops (getItem (.ref l) (.ref i)) := by intro _ _; with_unfolding_all exact ⟨_, rfl⟩) :
    Go w A (eval (.Subscript value (.Slice lo up st sp) pos) env) Q s := by
  refine ⟨Subscript_ (wpAny_mono h.run (fun o s1 z => ?_) fun _ _ z => z)⟩
  obtain ⟨l, items, m', news', rfl, F, N, hl, hsz, e1, e2, e3, k⟩ := z
  refine wpAny_Slice (e1.run s1 _ _ rfl fun v1 tk1 p1 => e2.run { s1 with toks := tk1 } _ _ rfl fun v2 tk2 p2 => e3.run { s1 with toks := tk2 } _ _ rfl fun v3 tk3 p3 => ?_)
  obtain ⟨ops, hs'⟩ := hs l s1.heap.objs.size
  refine tail_any (T := "list") (ops := ops) (Heap.IsList.typeIs (s := { s1 with toks := tk3, heap := s1.heap.push { cls := .type "slice", data := .fields #[v1, v2, v3] } }) (hl.push _)) list_getitem_lookup
    (wpAny_getItem_list_slice (hl.push _) (Heap.IsSliceOf.new ..) p1 p2 p3 h0 ?_ hsz) hs'
  have N1 := News.push (F.push { cls := .type "slice", data := .fields #[v1, v2, v3] }) (N.grown fun _ _ e => Heap.get?_push_of_some _ e) { cls := .type "list", data := .seq (slicePick items plo pup pst) }
  exact k _ _ tk3 ((F.push _).push _) N1 fun p hp => Nat.lt_of_lt_of_le (Heap.lt_size (N p hp).1) (by show _ ≤ (s1.heap.push _).objs.size; rw [Heap.size_push]; exact Nat.le_succ _)
end
end Mine
end

-- Rs
section
open PySem PySem.W PyProof.Rows PySem.Calls PySem.Builtin.Re PySem.Sre.M
set_option Elab.async false
set_option maxRecDepth 100000
set_option linter.all false
namespace Mine

theorem runFor_add (a b : Nat) (m : Sre.M) : runFor (a + b) m = runFor b (runFor a m) := by
  induction a generalizing m with
  | zero => rw [Nat.zero_add]; rfl
  | succ a ih =>
    rw [Nat.add_right_comm]
    show (if m.outcome.isSome then m else runFor (a + b) m.step) = runFor b (if m.outcome.isSome then m else runFor a m.step)
    by_cases h : m.outcome.isSome = true
    · rw [if_pos h, if_pos h, runFor_done h]
    · rw [if_neg h, if_neg h, ih]

section
variable {prog : Program} {w : World} {A : Around} {E : Value → Shared → Prop} {s : Shared}

theorem wp_drive {m' : Sre.M} (ho : m'.outcome.isSome = true) {Q : Sre.M → Shared → Prop} (hq : Q m' s) : ∀ (turns k : Nat) (m : Sre.M), k + 1 ≤ 4 * turns → runFor k m = m' → wpAny (model prog w) A (reDrive turns m) Q E s := by
  intro turns
  induction turns with
  | zero => intro k m hk; omega
  | succ turns ih =>
    intro k m hk hm
    unfold reDrive
    by_cases h4 : k ≤ 4
    · have e : m.runFor reTurnSteps = m' := by
        show runFor 4 m = m'
        have : 4 = k + (4 - k) := by omega
        rw [this, runFor_add, hm, runFor_done ho]
      rw [e, if_pos ho]
      exact wpAny_pure hq
    · have e : runFor (k - 4) (m.runFor reTurnSteps) = m' := by
        show runFor (k - 4) (runFor 4 m) = m'
        rw [← runFor_add]
        have : 4 + (k - 4) = k := by omega
        rw [this, hm]
      by_cases h : (m.runFor reTurnSteps).outcome.isSome = true
      · rw [runFor_done h] at e
        rw [e, if_pos ho]
        exact wpAny_pure hq
      · rw [if_neg h]
        exact wpAny_bind (wpAny_rule (ih (k - 4) _ (by omega) e))

theorem wp_run {m m' : Sre.M} (h : Ends m m') {Q : Option Sre.M → Shared → Prop}
    (hq : (m'.outcome = some .matched ∧ Q (some m') s) ∨ (m'.outcome = some .failed ∧ Q none s)) : wpAny (model prog w) A (reRunToEnd m) Q E s := by
  obtain ⟨k, hk, hm, ho⟩ := h
  unfold reRunToEnd
  refine wpAny_bind (wp_drive ho ?_ _ k m (Nat.le_trans (Nat.succ_le_succ hk) (by decide)) hm)
  refine wpAny_bind (wpAny_forIn_list _ (fun _ _ s' => s' = s) _ ?_ ?_ _ _ rfl)
  · intro x rest b s0 hs
    subst hs
    by_cases hx : m'.seen.has x = true
    · simp only [hx, if_true]
      exact wpAny_bind (wpAny_rule (wpAny_pure rfl))
    · simp only [hx, if_false]
      first
      | exact wpAny_pure rfl
      | exact wpAny_bind (wpAny_pure (wpAny_pure rfl))
  · intro b s0 hs
    subst hs
    rcases hq with ⟨e, h⟩ | ⟨e, h⟩
    · rw [e]; exact wpAny_pure h
    · rw [e]; exact wpAny_pure h

/-- a compiled pattern of the heap -/
structure PatAt (h : Heap) (P : Addr) (code : Array Nat) : Prop where
  out : ∃ o vs C oc its n g f, h.get? P = some o ∧ o.cls = .type "re.Pattern" ∧ o.dict = none ∧ o.data = .fields vs ∧ vs.getD 2 .none = .int 0 g ∧ vs.getD 6 .none = .int 0 f ∧ vs.getD 5 .none = .ref C ∧
    h.get? C = some oc ∧ oc.data = .seq its n ∧ (its.map reRawOf).map (·.toNat) = code

def tgt (P : Addr) (x : Str) (t : Tok) (code : Array Nat) : ReTarget := { pattern := .ref P, string := .str x t, code := code, text := x.cps, kind := 0, groups := 0, pos := 0, lim := x.cps.size }

theorem wp_whole {P : Addr} {code : Array Nat} {x : Str} {t : Tok} (p : PatAt s.heap P code) {Q : ReTarget → Shared → Prop} (hq : Q (tgt P x t code) s) : wpAny (model prog w) A (reWholeTarget (.ref P) (.str x t)) Q E s := by
  obtain ⟨o, vs, C, oc, its, n, g, f, ho, hc, hdn, hd, h2, h6, h5, hoc, hdc, hcode⟩ := p.out
  unfold reWholeTarget
  refine wpAny_bind (wpAny_fieldsOf ho hd ?_)
  refine wpAny_bind (wpAny_of_eq (a := (x.cps, 0)) rfl ?_)
  rw [h2, h6, h5]
  refine wpAny_bind (wpAny_of_eq (a := ()) rfl ?_)
  refine wpAny_bind ?_
  unfold reRawItems
  refine wpAny_bind (wpAny_seqItems hoc hdc ?_)
  refine wpAny_pure (wpAny_pure ?_)
  rw [← hcode] at hq
  exact hq

/-- the pieces of a substitution -/
inductive SubTo (nx : Nat → Option (Nat × Nat)) (cs r : List Nat) : Nat → List Nat → Prop
  | stop {i} : nx i = none → SubTo nx cs r i (cs.drop i)
  | step {i a b o} : nx i = some (a, b) → SubTo nx cs r b o → SubTo nx cs r i ((cs.drop i).take (a - i) ++ r ++ o)

def SearchOk (code : Array Nat) (cs : List Nat) (nx : Nat → Option (Nat × Nat)) : Prop :=
  ∀ i, i ≤ cs.length → ∃ m', Ends (Sre.forSearch code cs.toArray 0 i cs.length false) m' ∧ (match nx i with
    | none => m'.outcome = some .failed
    | some (a, b) => Found m' a b ∧ i ≤ a ∧ a < b ∧ b ≤ cs.length)

theorem wp_next {P : Addr} {code : Array Nat} {cs : List Nat} {t : Tok} {nx : Nat → Option (Nat × Nat)} (ok : SearchOk code cs nx) {i : Nat} (hi : i ≤ cs.length) {Q : Option Sre.M → Shared → Prop}
    (h0 : nx i = none → Q none s) (h1 : ∀ a b m, nx i = some (a, b) → Found m a b → i ≤ a → a < b → b ≤ cs.length → Q (some m) s) :
    wpAny (model prog w) A (reNextFound (tgt P ⟨cs.toArray⟩ t code) i false) Q E s := by
  obtain ⟨m', he, hm⟩ := ok i hi
  show wpAny _ _ (reRunToEnd (Sre.forSearch code cs.toArray 0 i cs.length false)) _ _ _
  refine wp_run he ?_
  cases hn : nx i with
  | none => rw [hn] at hm; exact .inr ⟨hm, h0 hn⟩
  | some ab =>
    obtain ⟨a, b⟩ := ab
    rw [hn] at hm
    obtain ⟨f, x, y, z⟩ := hm
    exact .inl ⟨f.out, h1 a b m' hn f x y z⟩
end
end Mine
end

-- Rl
section
open PySem PySem.W PyProof.Rows PySem.Calls PySem.Builtin.Re PySem.Sre.M
set_option Elab.async false
set_option maxRecDepth 100000
set_option linter.all false
namespace Mine
section
variable {w : World} {A : Around} {E : Value → Shared → Prop} {s : Shared}

theorem glued_nil : ∀ (acc : Array Nat) (l : List Str), l.foldl (fun acc p => acc ++ (#[] : Array Nat) ++ p.cps) acc = acc ++ (l.flatMap fun p => p.cps.toList).toArray
  | acc, [] => by simp
  | acc, p :: l => by
    rw [List.foldl_cons, glued_nil]
    apply Array.toList_inj.mp
    simp
theorem glued0 (l : List Str) : Builtin.Str.glued ⟨#[]⟩ l = ⟨(l.flatMap fun p => p.cps.toList).toArray⟩ := by
  unfold Builtin.Str.glued
  congr 1
  cases l with
  | nil => rfl
  | cons p l =>
    show (List.foldl _ p.cps l) = _
    rw [glued_nil]
    apply Array.toList_inj.mp
    simp
theorem joinOk0 (l : List Str) (h : (l.flatMap fun p => p.cps.toList).length ≤ sizeLine) : JoinOk ⟨#[]⟩ l = true := by
  unfold JoinOk Builtin.Str.tooLong
  have e : ∀ (l : List Str) (n : Nat), l.foldl (fun a p => a + p.length + (⟨#[]⟩ : Str).length) n = n + (l.flatMap fun p => p.cps.toList).length := by
    intro l
    induction l with
    | nil => intro n; rfl
    | cons p l ih =>
      intro n
      rw [List.foldl_cons, ih]
      have : (⟨#[]⟩ : Str).length = 0 := rfl
      rw [this, List.flatMap_cons, List.length_append]
      have : p.length = p.cps.toList.length := by simp [Str.length]
      omega
  rw [List.foldl_toArray', e] <;> simp
  simpa using h

theorem ext_len {cs : List Nat} (h : cs.length ≤ 2000) (i j : Nat) : (⟨cs.toArray.extract i j⟩ : Str).length ≤ sizeLine := by
  show (cs.toArray.extract i j).size ≤ _
  rw [Array.size_extract]
  have : 30000 ≤ sizeLine := by decide
  have : cs.toArray.size = cs.length := by simp
  omega
theorem wp_push {D : Addr} {x : Str} {t : Tok} {l : List (Str × Tok)} {c : Nat} {Q : Unit → Shared → Prop} (hDs : s.heap.get? D = some (listOf (strValues l).toArray c)) (hz : l.length ≤ 8000)
    (h : ∀ h' c', h'.get? D = some (listOf (strValues (l ++ [(x, t)])).toArray c') → (∀ b o, b ≠ D → s.heap.get? b = some o → h'.get? b = some o) → Q () { s with heap := h' }) :
    wpAny (model PR w) A (updateSeq D fun y => y.push (.str x t)) Q E s := by
  have hz1 : (strValues l).toArray.size ≤ sizeLine := by
    show (strValues l).toArray.size ≤ _
    simp only [List.size_toArray, strValues, List.length_map]
    exact Nat.le_trans hz (by decide)
  refine wpAny_updateSeq hDs rfl (h _ (c + 1) ?_ fun b o hb e => (Heap.get?_update_other _ _ (Ne.symm hb)).trans e) hz1 ?_
  · have q := PySem.IsL.update hDs (fun y => y.push (.str x t))
    rw [if_neg (by simp)] at q
    rw [q]
    simp [strValues]
  · simp only [Array.size_push]; omega

abbrev loopArgs (P D : Addr) (cs r : List Nat) (t tr : Tok) (n i : Nat) : Args := ⟨[.ref P, .str ⟨cs.toArray⟩ t, .str ⟨r.toArray⟩ tr, rawInt 0, rawInt 0, rawInt n, rawInt i, rawInt i, .bool false, .ref D, .bool false], []⟩

theorem PatAt.keeps {h h' : Heap} {P : Addr} {code : Array Nat} (p : PatAt h P code) (hk : ∀ b o, h.get? b = some o → h'.get? b = some o) : PatAt h' P code := by
  obtain ⟨o, vs, C, oc, its, n, g, f, ho, hc, hdn, hd, h2, h6, h5, hoc, hdc, hcode⟩ := p.out
  exact ⟨o, vs, C, oc, its, n, g, f, hk _ _ ho, hc, hdn, hd, h2, h6, h5, hk _ _ hoc, hdc, hcode⟩
theorem code_loop {P D : Addr} {code : Array Nat} {cs r : List Nat} {t tr : Tok} {nx : Nat → Option (Nat × Nat)} {h0 : Heap} (ok : SearchOk code cs nx) (hlen : cs.length ≤ 2000) (hr : r.length ≤ 10) (hP : PatAt h0 P code) (hD : h0.get? D = none)
    {i : Nat} {o : List Nat} (st : SubTo nx cs r i o) {Q : Value → Shared → Prop} : ∀ (n : Nat) (s : Shared) (l : List (Str × Tok)) (c : Nat) (pre : List Nat), i ≤ cs.length → l.length ≤ 2 * i → 
      (∀ b o, h0.get? b = some o → s.heap.get? b = some o) → s.heap.get? D = some (listOf (strValues l).toArray c) → l.flatMap (fun p => p.1.cps.toList) = pre → pre.length ≤ 12 * i →
      (∀ h' tk t', (∀ b o, h0.get? b = some o → h'.get? b = some o) → Q (.str ⟨(pre ++ o).toArray⟩ t') { s with heap := h', toks := tk }) →
      codeAny (model PR w) A (.builtin "re.Pattern.sub.loop" (loopArgs P D cs r t tr n i)) (wants Q E) s := by
  induction st with
  | @stop i hn =>
    intro n s l c pre hi hl hk hDs hpre hlp hQ
    refine codeAny_builtin entry_rp_loop ?_
    rw [Around.under_plainId plain_rp_loop _]
    unfold Builtin.«re.Pattern.sub.loop» loopArgs rawInt
    dsimp only
    refine wpAny_bind (wp_whole (code := code) (hP.keeps hk) ?_)
    refine wpAny_bind (wpAny_of_eq (a := ()) rfl ?_)
    show wpAny _ _ (reNextFound (tgt P ⟨cs.toArray⟩ t code) i false >>= _) _ _ _
    refine wpAny_bind (wp_next ok hi (fun _ => ?_) fun a b m e => by rw [hn] at e; cases e)
    dsimp only
    have tail : ∀ (s1 : Shared) (l1 : List (Str × Tok)) (c1 : Nat), s1.heap.get? D = some (listOf (strValues l1).toArray c1) → (l1.flatMap fun p => p.1.cps.toList) = pre ++ cs.drop i → 
        (∀ h' tk t', (∀ b o, s1.heap.get? b = some o → h'.get? b = some o) → Q (.str ⟨(pre ++ cs.drop i).toArray⟩ t') { s1 with heap := h', toks := tk }) → 
        wpAny (model PR w) A.in1 (do
          let joiner ← reSlice cs.toArray 0 0 0
          let d ← seqItems? (.ref D)
          if (d.getD #[]).isEmpty = true then (do let text ← pure joiner; if false = true then (do let p ← holding [text] (do let k ← mkInt n; newTuple [text, k]); ret p) else ret text)
          else (do let text ← call (.builtin "str.join") [joiner, .ref D]; if false = true then (do let p ← holding [text] (do let k ← mkInt n; newTuple [text, k]); ret p) else ret text))
          (fun fin s' => match fin with | Fin.done f => wants Q E (Except.ok f) s' | Fin.again c' => c'.quiet = true ∧ codeAny (model PR w) A c' (wants Q E) s') (fun e s' => wants Q E (Except.error e) s') s1 := by
      intro s1 l1 c1 h1 hf hQ1
      refine wpAny_bind (show wpAny _ _ (mkStr ⟨cs.toArray.extract 0 0⟩) _ _ _ from wpAny_mkStr ?_ (by show (cs.toArray.extract 0 0).size ≤ _; simp))
      have e0 : (⟨cs.toArray.extract 0 0⟩ : Str) = ⟨#[]⟩ := by simp
      rw [e0]
      refine wpAny_bind (wpAny_seqItems h1 rfl ?_)
      by_cases he : ((some (strValues l1).toArray).getD #[]).isEmpty = true
      · rw [if_pos he]
        have hl0 : l1 = [] := by simpa [strValues] using he
        subst hl0
        refine wpAny_bind (wpAny_pure ?_)
        rw [if_neg (by decide)]
        refine wpAny_pure ?_
        have := hQ1 s1.heap (s1.toks + 1) s1.toks fun _ _ e => e
        rw [← hf] at this
        exact this
      · rw [if_neg he]
        refine wpAny_bind (SC.join (l := l1) (texts := l1.map (·.1)) ⟨_, h1, rfl, _, rfl⟩ rfl (joinOk0 _ ?_) fun t' k => ?_)
        · have : (l1.map (·.1)).flatMap (fun p => p.cps.toList) = l1.flatMap fun p => p.1.cps.toList := by rw [List.flatMap_map]
          rw [this, hf, List.length_append, List.length_drop]
          have : 30000 ≤ sizeLine := by decide
          omega
        · rw [if_neg (by decide)]
          refine wpAny_pure ?_
          have q := hQ1 s1.heap k t' fun _ _ e => e
          have e1 : Txt.join ⟨#[]⟩ (l1.map (·.1)) = ⟨(pre ++ cs.drop i).toArray⟩ := by
            show Builtin.Str.glued _ _ = _
            rw [glued0, List.flatMap_map, hf]
          rw [← e1] at q
          exact q
    have hi' : ((i : Int)).toNat = i := rfl
    by_cases hlt : i < cs.length
    · rw [if_pos (show ((i : Int)).toNat < (tgt P ⟨cs.toArray⟩ t code).lim from by show i < cs.toArray.size; simpa using hlt)]
      have e2 : (⟨cs.toArray.extract i cs.toArray.size⟩ : Str).cps.toList = cs.drop i := by simp [List.take_of_length_le]
      refine wpAny_bind (show wpAny _ _ (mkStr ⟨cs.toArray.extract i cs.toArray.size⟩) _ _ _ from wpAny_mkStr ?_ (ext_len hlen _ _))
      refine wpAny_bind (wp_push (s := { s with toks := s.toks + 1 }) hDs (by omega) fun h' c' hD' hk' => ?_)
      refine tail _ _ c' hD' (by rw [List.flatMap_append, hpre]; simp [List.take_of_length_le]) fun h2 tk t' hk2 => hQ h2 tk t' fun b o e => hk2 b o (hk' b o (fun q => by rw [q, hD] at e; cases e) (hk b o e))
    · rw [if_neg (show ¬ ((i : Int)).toNat < (tgt P ⟨cs.toArray⟩ t code).lim from by show ¬ i < cs.toArray.size; simpa using hlt)]
      refine tail s l c hDs (by rw [hpre, List.drop_eq_nil_of_le (by omega)]; simp) fun h2 tk t' hk2 => hQ h2 tk t' fun b o e => hk2 b o (hk b o e)
  | @step i a b o hn st ih =>
    intro n s l c pre hi hl hk hDs hpre hlp hQ
    refine codeAny_builtin entry_rp_loop ?_
    rw [Around.under_plainId plain_rp_loop _]
    unfold Builtin.«re.Pattern.sub.loop» loopArgs rawInt
    dsimp only
    refine wpAny_bind (wp_whole (code := code) (hP.keeps hk) ?_)
    refine wpAny_bind (wpAny_of_eq (a := ()) rfl ?_)
    show wpAny _ _ (reNextFound (tgt P ⟨cs.toArray⟩ t code) i false >>= _) _ _ _
    refine wpAny_bind (wp_next ok hi (fun e => by rw [hn] at e; cases e) fun a' b' m e f ia ab bl => ?_)
    rw [hn] at e
    cases e
    dsimp only
    have hs := f.s
    have he := f.e
    rw [hs, he]
    have tail : ∀ (s1 : Shared) (l1 : List (Str × Tok)) (c1 : Nat), s1.heap.get? D = some (listOf (strValues l1).toArray c1) → (l1.flatMap fun p => p.1.cps.toList) = pre ++ (cs.drop i).take (a - i) → l1.length ≤ 2 * i + 1 → 
        (∀ b o, h0.get? b = some o → s1.heap.get? b = some o) → 
        (∀ h' tk t', (∀ b o, h0.get? b = some o → h'.get? b = some o) → Q (.str ⟨(pre ++ ((cs.drop i).take (a - i) ++ r ++ o)).toArray⟩ t') { s1 with heap := h', toks := tk }) → 
        wpAny (model PR w) A.in1 (do
          updateSeq D fun x => x.push (.str ⟨r.toArray⟩ tr)
          again (Code.builtin "re.Pattern.sub.loop" (loopArgs P D cs r t tr (n + 1) b)))
          (fun fin s' => match fin with | Fin.done f => wants Q E (Except.ok f) s' | Fin.again c' => c'.quiet = true ∧ codeAny (model PR w) A c' (wants Q E) s') (fun e s' => wants Q E (Except.error e) s') s1 := by
      intro s1 l1 c1 h1 hf hl1 hk1 hQ1
      refine wpAny_bind (wp_push h1 (by omega) fun h' c' hD' hk' => ?_)
      refine wpAny_pure ⟨plainId_quiet plain_rp_loop _, ih (n + 1) _ _ c' (pre ++ (cs.drop i).take (a - i) ++ r) bl (by rw [List.length_append]; show l1.length + 1 ≤ _; omega) (fun b o e => hk' b o (fun q => by rw [q, hD] at e; cases e) (hk1 b o e)) hD' ?_ ?_ ?_⟩
      · rw [List.flatMap_append, hf]; simp
      · simp only [List.length_append, List.length_take, List.length_drop]; omega
      · intro h2 tk t' hk2
        have := hQ1 h2 tk t' hk2
        simpa only [List.append_assoc] using this
    have eb : (b == a) = false := by simp; omega
    by_cases hlt : i < a
    · rw [if_pos (show ((i : Int)).toNat < a from hlt)]
      refine wpAny_bind (show wpAny _ _ (mkStr ⟨cs.toArray.extract i a⟩) _ _ _ from wpAny_mkStr ?_ (ext_len hlen _ _))
      refine wpAny_bind (wp_push (s := { s with toks := s.toks + 1 }) hDs (by omega) fun h' c' hD' hk' => ?_)
      rw [eb]
      refine tail _ _ c' hD' (by rw [List.flatMap_append, hpre]; simp [List.take_drop, List.extract_eq_drop_take]) (by rw [List.length_append]; show l.length + 1 ≤ _; omega) (fun b o e => hk' b o (fun q => by rw [q, hD] at e; cases e) (hk b o e)) fun h2 tk t' hk2 => hQ h2 tk t' hk2
    · rw [if_neg (show ¬ ((i : Int)).toNat < a from hlt), eb]
      refine tail s l c hDs (by rw [hpre, show a - i = 0 by omega]; simp) (by omega) hk hQ

/-- pattern.sub(r, text) -/
theorem go_sub {P : Addr} {code : Array Nat} {cs r : List Nat} {t tr : Tok} {nx : Nat → Option (Nat × Nat)} {o : List Nat} (ok : SearchOk code cs nx) (hlen : cs.length ≤ 2000) (hr : r.length ≤ 10) (hb : r.toArray.contains 92 = false)
    (hP : PatAt s.heap P code) (st : SubTo nx cs r 0 o) {Q : Value → Shared → Prop}
    (hQ : ∀ h' tk t', (∀ b o, s.heap.get? b = some o → h'.get? b = some o) → Q (.str ⟨o.toArray⟩ t') { s with heap := h', toks := tk }) :
    Go w A (call (.builtin "re.Pattern.sub") [.ref P, .str ⟨r.toArray⟩ tr, .str ⟨cs.toArray⟩ t]) Q s := by
  obtain ⟨oP, _, _, _, _, _, _, _, hoP, hcP, _⟩ := hP.out
  refine ⟨wpAny_call (codeAny_call_builtin slot_rp_sub.plain entry_rp_sub (slot_rp_sub.check _ _ _ _ _ _ _ _ ⟨oP, hoP, hcP⟩ (args_rp_sub _ _ _) ?_))⟩
  unfold Builtin.«re.Pattern.sub» reSubstitute
  dsimp only
  refine wpAny_bind (wpAny_of_eq (named_rp .none _ _) ?_)
  dsimp only
  refine wpAny_bind (wpAny_of_eq (a := (0 : Int)) rfl ?_)
  refine wpAny_bind (wpAny_specialOf (typeIs_str _ _ _) nocall_str ?_)
  rw [if_neg (by decide)]
  refine wpAny_bind (wpAny_of_eq (a := some ⟨r.toArray⟩) rfl ?_)
  dsimp only
  refine wpAny_bind (wpAny_pure ?_)
  rw [hb]
  rw [if_neg (by decide), if_pos (by decide)]
  refine wpAny_bind (wpAny_pure ?_)
  refine wpAny_bind (wpAny_holding (wp_whole hP ?_))
  rw [if_neg (show ¬ ((0 : Int) == 1) = true by decide)]
  refine wpAny_bind (wpAny_newList ?_)
  refine wpAny_pure ⟨plainId_quiet plain_rp_loop _, ?_⟩
  refine code_loop (h0 := s.heap) (D := s.heap.objs.size) ok hlen hr hP ?_ st 0 _ [] 0 [] (Nat.zero_le _) (Nat.zero_le _) ?_ ?_ rfl (Nat.zero_le _) ?_
  · cases e : s.heap.get? s.heap.objs.size with
    | none => rfl
    | some o => exact absurd (Heap.lt_size e) (Nat.lt_irrefl _)
  · exact fun b o e => Heap.get?_push_of_some _ e
  · exact Heap.get?_push_size _ rfl
  · exact fun h' tk t' hk => hQ h' tk t' hk
end
end Mine
end

-- Nd
section
open PySem PySem.W PyProof.Rows PySem.Calls PySem.Builtin.Re PySem.Sre.M
set_option Elab.async false
set_option maxRecDepth 100000
set_option linter.all false
namespace Mine

def norm : List Nat → List Nat
  | [] => []
  | [c] => if isNl c then [13, 10] else [c]
  | c :: d :: r => if c == 13 && d == 10 then 13 :: 10 :: norm r else if isNl c then 13 :: 10 :: norm (d :: r) else c :: norm (d :: r)
theorem norm3 (c d : Nat) (r : List Nat) : norm (c :: d :: r) = if c == 13 && d == 10 then 13 :: 10 :: norm r else if isNl c then 13 :: 10 :: norm (d :: r) else c :: norm (d :: r) := by rw [norm]
def dot : Bool → List Nat → List Nat
  | _, [] => []
  | b, c :: r => (if b && c == 46 then [46, 46] else [c]) ++ dot (c == 10) r
def nx2 (cs : List Nat) (i : Nat) : Option (Nat × Nat) := ((cs.drop i).findIdx? isNl).map fun k => (i + k, if cs.getD (i + k) 0 = 13 ∧ i + k + 1 < cs.length ∧ cs.getD (i + k + 1) 0 = 10 then i + k + 2 else i + k + 1)
def nx1 (cs : List Nat) (i : Nat) : Option (Nat × Nat) := (dotAt (bol cs i) (cs.drop i)).map fun k => (i + k, i + k + 1)

theorem norm_copy : ∀ {l : List Nat}, (match l.findIdx? isNl with | none => norm l = l | some k => k < l.length ∧ isNl (l.getD k 0) = true ∧ norm l = l.take k ++ norm (l.drop k))
  | [] => rfl
  | [c] => by
    rw [List.findIdx?_cons]
    by_cases h : isNl c = true
    · simp [h]
    · simp [h, norm]
  | c :: d :: r => by
    rw [List.findIdx?_cons]
    by_cases h : isNl c = true
    · simp [h]
    · have ih := norm_copy (l := d :: r)
      have h13 : (c == 13) = false := by unfold isNl at h; simp at h; simp [h]
      have e : norm (c :: d :: r) = c :: norm (d :: r) := by rw [norm3, h13]; simp [h]
      rw [if_neg h]
      cases hf : (d :: r).findIdx? isNl with
      | none => rw [hf] at ih; show norm (c :: d :: r) = _; rw [e, ih]
      | some k =>
        rw [hf] at ih
        obtain ⟨h1, h2, h3⟩ := ih
        exact ⟨Nat.succ_lt_succ h1, h2, by rw [e, h3]; rfl⟩

theorem getD_drop (cs : List Nat) (i k : Nat) : (cs.drop i).getD k 0 = cs.getD (i + k) 0 := by simp [List.getD_eq_getElem?_getD]
theorem ok2 {cs : List Nat} (hlen : cs.length ≤ 2000) : SearchOk code2 cs (nx2 cs) := by
  intro i hi
  obtain ⟨m', he, hm⟩ := search2 hi (Nat.lt_of_le_of_lt hlen (by decide))
  refine ⟨m', he, ?_⟩
  unfold nx2
  have hc := norm_copy (l := cs.drop i)
  cases hf : (cs.drop i).findIdx? isNl with
  | none => rw [hf] at hm; exact hm
  | some k =>
    rw [hf] at hm hc
    have h1 : k < cs.length - i := by have := hc.1; rwa [List.length_drop] at this
    refine ⟨hm, by omega, ?_, ?_⟩
    · split <;> omega
    · split <;> omega
theorem sub2 {cs : List Nat} : ∀ (j i : Nat), i ≤ cs.length → cs.length - i ≤ j → SubTo (nx2 cs) cs [13, 10] i (norm (cs.drop i)) := by
  intro j
  induction j with
  | zero =>
    intro i hi hj
    have e : cs.drop i = [] := List.drop_eq_nil_of_le (by omega)
    have := SubTo.stop (nx := nx2 cs) (cs := cs) (r := [13, 10]) (i := i) (by unfold nx2; rw [e]; rfl)
    rw [e] at this ⊢
    exact this
  | succ j ih =>
    intro i hi hj
    have hc := norm_copy (l := cs.drop i)
    cases hf : (cs.drop i).findIdx? isNl with
    | none =>
      rw [hf] at hc
      have hc' : norm (cs.drop i) = cs.drop i := hc
      rw [hc']
      exact .stop (by unfold nx2; rw [hf]; rfl)
    | some k =>
      rw [hf] at hc
      obtain ⟨h1, h2, h3⟩ := hc
      rw [List.length_drop] at h1
      rw [getD_drop] at h2
      rw [h3]
      have hn : nx2 cs i = some (i + k, if cs.getD (i + k) 0 = 13 ∧ i + k + 1 < cs.length ∧ cs.getD (i + k + 1) 0 = 10 then i + k + 2 else i + k + 1) := by unfold nx2; rw [hf]; rfl
      have hdrop : (cs.drop i).drop k = cs.getD (i + k) 0 :: cs.drop (i + k + 1) := by rw [List.drop_drop]; exact drop_cons_of_lt (by omega)
      have e0 : (cs.drop i).take k = (cs.drop i).take (i + k - i) := by congr 1; omega
      by_cases hx : cs.getD (i + k) 0 = 13 ∧ i + k + 1 < cs.length ∧ cs.getD (i + k + 1) 0 = 10
      · rw [if_pos hx] at hn
        have := SubTo.step (nx := nx2 cs) (cs := cs) (r := [13, 10]) hn (ih (i + k + 2) (by omega) (by omega))
        rw [← e0] at this
        have e1 : norm ((cs.drop i).drop k) = [13, 10] ++ norm (cs.drop (i + k + 2)) := by
          rw [hdrop, drop_cons_of_lt hx.2.1, hx.1, hx.2.2]
          rfl
        rw [e1, ← List.append_assoc]
        exact this
      · rw [if_neg hx] at hn
        have := SubTo.step (nx := nx2 cs) (cs := cs) (r := [13, 10]) hn (ih (i + k + 1) (by omega) (by omega))
        rw [← e0] at this
        have e1 : norm ((cs.drop i).drop k) = [13, 10] ++ norm (cs.drop (i + k + 1)) := by
          rw [hdrop]
          by_cases hl : i + k + 1 < cs.length
          · rw [drop_cons_of_lt hl, norm3]
            rw [if_neg (by intro q; simp only [Bool.and_eq_true, beq_iff_eq] at q; exact hx ⟨q.1, hl, q.2⟩), if_pos h2, ← drop_cons_of_lt hl]
            rfl
          · rw [List.drop_eq_nil_of_le (by omega)]
            unfold norm
            rw [if_pos h2]
            rfl
        rw [e1, ← List.append_assoc]
        exact this

theorem dot_copy : ∀ {l : List Nat} {b : Bool}, (match dotAt b l with | none => dot b l = l | some k => k < l.length ∧ l.getD k 0 = 46 ∧ dot b l = l.take k ++ [46, 46] ++ dot false (l.drop (k + 1))) := by
  intro l
  induction l with
  | nil => intro b; cases b <;> rfl
  | cons c r ih =>
    intro b
    have ed : dotAt b (c :: r) = if b && c == 46 then some 0 else (dotAt (c == 10) r).map (· + 1) := rfl
    have eo : dot b (c :: r) = (if b && c == 46 then [46, 46] else [c]) ++ dot (c == 10) r := rfl
    rw [ed, eo]
    by_cases h : (b && c == 46) = true
    · rw [if_pos h, if_pos h]
      simp only [Bool.and_eq_true, beq_iff_eq] at h
      obtain ⟨_, rfl⟩ := h
      exact ⟨Nat.succ_pos _, rfl, rfl⟩
    · rw [if_neg h, if_neg h]
      have ih := ih (b := (c == 10))
      cases hd : dotAt (c == 10) r with
      | none => rw [hd] at ih; show [c] ++ dot (c == 10) r = _; rw [ih]; rfl
      | some k =>
        rw [hd] at ih
        obtain ⟨h1, h2, h3⟩ := ih
        exact ⟨Nat.succ_lt_succ h1, h2, by rw [h3]; rfl⟩
theorem ok1 {cs : List Nat} (hlen : cs.length ≤ 2000) : SearchOk code1 cs (nx1 cs) := by
  intro i hi
  obtain ⟨m', he, hm⟩ := search1 hi (Nat.lt_of_le_of_lt hlen (by decide))
  refine ⟨m', he, ?_⟩
  unfold nx1
  have hc := dot_copy (l := cs.drop i) (b := bol cs i)
  cases hf : dotAt (bol cs i) (cs.drop i) with
  | none => rw [hf] at hm; exact hm
  | some k =>
    rw [hf] at hm hc
    have h1 : k < cs.length - i := by have := hc.1; rwa [List.length_drop] at this
    exact ⟨hm, by omega, by omega, by omega⟩
theorem sub1 {cs : List Nat} : ∀ (j i : Nat), i ≤ cs.length → cs.length - i ≤ j → SubTo (nx1 cs) cs [46, 46] i (dot (bol cs i) (cs.drop i)) := by
  intro j
  induction j with
  | zero =>
    intro i hi hj
    have e : cs.drop i = [] := List.drop_eq_nil_of_le (by omega)
    have := SubTo.stop (nx := nx1 cs) (cs := cs) (r := [46, 46]) (i := i) (by unfold nx1; rw [e]; cases bol cs i <;> rfl)
    rw [e] at this ⊢
    cases bol cs i <;> exact this
  | succ j ih =>
    intro i hi hj
    have hc := dot_copy (l := cs.drop i) (b := bol cs i)
    cases hf : dotAt (bol cs i) (cs.drop i) with
    | none =>
      rw [hf] at hc
      have hc' : dot (bol cs i) (cs.drop i) = cs.drop i := hc
      rw [hc']
      exact .stop (by unfold nx1; rw [hf]; rfl)
    | some k =>
      rw [hf] at hc
      obtain ⟨h1, h2, h3⟩ := hc
      rw [List.length_drop] at h1
      rw [getD_drop] at h2
      have hn : nx1 cs i = some (i + k, i + k + 1) := by unfold nx1; rw [hf]; rfl
      have := SubTo.step (nx := nx1 cs) (cs := cs) (r := [46, 46]) hn (ih (i + k + 1) (by omega) (by omega))
      have hb : bol cs (i + k + 1) = false := by
        unfold bol
        rw [show i + k + 1 - 1 = i + k by omega, h2]
        rfl
      rw [hb] at this
      rw [h3, List.drop_drop]
      rw [show i + k - i = k by omega] at this
      exact this
def quote (cs : List Nat) : List Nat := dot true (norm cs)
theorem norm_len : ∀ (l : List Nat), (norm l).length ≤ 2 * l.length
  | [] => Nat.le_refl _
  | [c] => by unfold norm; split <;> simp
  | c :: d :: r => by
    have h1 := norm_len r
    have h2 := norm_len (d :: r)
    rw [norm3]
    split
    · simp only [List.length_cons]; omega
    · split
      · simp only [List.length_cons] at *; omega
      · simp only [List.length_cons] at *; omega
theorem dot_len : ∀ (l : List Nat) (b : Bool), (dot b l).length ≤ 2 * l.length
  | [], b => by cases b <;> exact Nat.le_refl _
  | c :: r, b => by
    have := dot_len r (c == 10)
    have eo : dot b (c :: r) = (if b && c == 46 then [46, 46] else [c]) ++ dot (c == 10) r := rfl
    rw [eo, List.length_append]
    split <;> simp only [List.length_cons, List.length_nil] <;> omega
end Mine
end

-- Qd
section
open PySem PySem.W PyProof.Rows PySem.Calls PySem.Builtin.Re
set_option Elab.async false
set_option maxRecDepth 100000
set_option linter.all false
namespace Mine
theorem fr_grow {g h h' : Heap} {L : Addr} {m : Mp} (F : Fr g L h m) (hk : ∀ b o, h.get? b = some o → h'.get? b = some o) : Fr g L h' m := by
  obtain ⟨oL, es, ep, hL, r⟩ := F.ns
  exact ⟨⟨oL, es, ep, hk _ _ hL, r⟩, fun b o e => hk _ _ (F.keep b o e), F.above⟩

theorem pat1 {w : World} {g : Heap} (X : (KK w).In g) : PatAt g 36 code1 :=
  ⟨_, _, 35, _, _, _, _, _, X 36 _ rfl, rfl, rfl, rfl, rfl, rfl, rfl, X 35 _ rfl, rfl, by simp [reRawOf, code1]⟩
theorem pat2 {w : World} {g : Heap} (X : (KK w).In g) : PatAt g 41 code2 :=
  ⟨_, _, 40, _, _, _, _, _, X 41 _ rfl, rfl, rfl, rfl, rfl, rfl, rfl, X 40 _ rfl, rfl, by simp [reRawOf, code2]⟩

section
variable {w : World} {A : Around} {env : Env} {g : Heap} {L : Addr} {m : Mp} {s : Shared} {news : Led} {Q : Value → Shared → Prop}
theorem getSub {P : Addr} {code : Array Nat} {pl : Sem Bool} {Q : Value × List Value → Shared → Prop} {E : Value → Shared → Prop} (hP : PatAt s.heap P code) (h : Q (.builtin "re.Pattern.sub", [.ref P]) s) : wpAny (model PR w) A (getMethod (.ref P) (Str.ofString "sub") pl) Q E s := by
  obtain ⟨oP, _, _, _, _, _, _, _, hoP, hcP, hdn, _⟩ := hP.out
  exact getMethod_builtin ⟨_, hoP, hcP⟩ plainAttrs_rp slot_rp_sub type_rp_sub (fun a e => by cases e; exact ⟨_, hoP, hdn⟩) h

theorem qd_spec {cs : List Nat} {t : Tok} (hlen : cs.length ≤ 1000) (H : Here w A env g L) (F : Fr g L s.heap m) (N : News g L s.heap news) (R : Room A 1)
    (h : ∀ h' tk t', Fr g L h' m → News g L h' news → Q (.str ⟨(quote cs).toArray⟩ t') { s with heap := h', toks := tk }) : Go w A (call (.ref 48) [.str ⟨cs.toArray⟩ t]) Q s := by
  refine' enter (d := 0) (binds := [(Str.ofString "data", .str ⟨cs.toArray⟩ t)]) H F N R ?ho ?hcd ?hb ?hl ?c1 ?c2 ?c3 ?c4 ?_
  case ho => exact rfl
  case hcd => exact rfl
  case hb => exact rfl
  case hl => exact rfl
  case c1 => exact rfl
  case c2 => exact rfl
  case c3 => exact rfl
  case c4 => decide
  intro g' L' h₁ A' tk H' F' N' R' lt
  refine exRetE ?_
  refine ⟨MethodCall_ ((evGlob H' F' (v := .ref 36) rfl (P := IsV (.ref 36)) rfl).run _ _ _ rfl fun v tk hp => ?_) (by rfl)⟩
  subst hp
  refine getSub (pat1 (H'.X.keeps F'.keep)) ?_
  refine callWith_method1 (args_cons (evStr.run _ _ _ rfl fun v tk1 hp => ?_) (by rfl)) (by rfl) (by rfl)
  obtain ⟨t1, rfl⟩ := hp
  refine args_cons (MethodCall_ ((evGlob H' F' (v := .ref 41) rfl (P := IsV (.ref 41)) rfl).run _ _ _ rfl fun v tk2 hp => ?_) (by rfl)) (by rfl)
  subst hp
  refine getSub (pat2 (H'.X.keeps F'.keep)) ?_
  refine callWith_method1 (args_cons ((evGlob H' F' rfl (P := IsS ⟨#[13, 10]⟩) ⟨_, rfl⟩).run _ _ _ rfl fun v tk3 hp => args_cons ((evName F' rfl isS).run _ _ _ rfl fun v2 tk4 hp2 => args_nil ?_) (by rfl)) (by rfl)) (by rfl) (by rfl)
  obtain ⟨t3, rfl⟩ := hp
  obtain ⟨t4, rfl⟩ := hp2
  refine (go_sub (s := { s with heap := h₁, toks := tk4 }) (r := [13, 10]) (ok2 (cs := cs) (by omega)) (by omega) (by decide) (by simp) (pat2 (H'.X.keeps F'.keep)) (sub2 (cs := cs) cs.length 0 (Nat.zero_le _) (by omega)) fun h' tk5 t5 hk => ?_).run
  have F2 := fr_grow F' hk
  have N2 := N'.grown hk
  refine args_nil ?_
  have hn := norm_len cs
  refine (go_sub (s := { s with heap := h', toks := tk5 }) (r := [46, 46]) (ok1 (cs := norm cs) (by omega)) (by omega) (by decide) (by simp) (pat1 (H'.X.keeps F2.keep)) (sub1 (cs := norm cs) (norm cs).length 0 (Nat.zero_le _) (by omega)) fun h2 tk6 t6 hk2 => ?_).run
  exact Lv.mk' (fr_grow F2 hk2) (N2.grown hk2) fun F3 N3 => h h2 tk6 t6 F3 N3
end
end Mine
end

-- Sn
section
open PySem PySem.W PyProof.Rows PySem.Calls PySem.Builtin.Re
set_option Elab.async false
set_option maxRecDepth 100000
set_option linter.all false
namespace Mine
section
variable {w : World} {A : Around} {env : Env} {g : Heap} {L : Addr} {m : Mp} {s : Shared} {news : Led}
theorem goRange {n : Nat} {t : Tok} (hn : n ≤ 1000000) (hh : A.handled = none) (F : Fr g L s.heap m) (N : News g L s.heap news) {Q : Value → Shared → Prop}
    (h : ∀ it h' tk, Ready w A g L [] n (fun i v => ∃ t, v = .int (0 + (i : Int) * 1) t) m news it h' → Q it { s with heap := h', toks := tk }) :
    Go w A (call (.type "range") [.int (n : Int) t]) (fun xv s1 => Go w A (pyIter xv) Q s1) s := by
  have e : Builtin.Range.rangeSize 0 (n : Int) 1 = n := by rw [rangeSize_nat]; simp
  refine ⟨call_range_1 ⟨wpAny_pyIter_range (a := 0) (b := n) (c := 1) (Heap.get?_push_size _ rfl) ?_ ?_⟩⟩
  · unfold Builtin.Range.small
    rw [e]
    unfold Builtin.Range.rangeFitsLong
    simp; omega
  · rw [e]
    have e1 : rawInt (n : Int) = rawInt ((n : Int) - ((0 : Nat) : Int)) := by simp
    rw [e1]
    have e2 : rawInt 0 = rawInt (0 + ((0 : Nat) : Int) * 1) := by simp
    rw [e2]
    refine h _ _ _ ⟨_, _, _, _, rfl, Walks.range hh _ 0 1 n, Heap.get?_push_size _ rfl, (F.push _).push _, News.push (F.push _) (N.grown fun _ _ e => Heap.get?_push_of_some _ e) _, ?_, ?_, ?_⟩
    · exact fun p hp => Nat.lt_of_lt_of_le (Heap.lt_size (N p hp).1) (by show _ ≤ (s.heap.push _).objs.size; rw [Heap.size_push]; exact Nat.le_succ _)
    · exact fun b hb => .inl (List.mem_singleton.mp hb)
    · exact fun i h st => ⟨_, st⟩
theorem sent_len (k : Nat) (cs : List Nat) : ((Nat.repeat quote k cs).length) ≤ 4 ^ k * cs.length := by
  induction k with
  | zero => show cs.length ≤ _; omega
  | succ k ih =>
    show (quote (Nat.repeat quote k cs)).length ≤ _
    have h1 := dot_len (norm (Nat.repeat quote k cs)) true
    have h2 := norm_len (Nat.repeat quote k cs)
    have : (quote (Nat.repeat quote k cs)).length ≤ 4 * (Nat.repeat quote k cs).length := by show (dot true (norm _)).length ≤ _; omega
    rw [Nat.pow_succ]
    have : 4 * (Nat.repeat quote k cs).length ≤ 4 * (4 ^ k * cs.length) := Nat.mul_le_mul_left _ ih
    have e : 4 ^ k * 4 * cs.length = 4 * (4 ^ k * cs.length) := by rw [Nat.mul_comm (4 ^ k) 4, Nat.mul_assoc]
    omega

theorem sent_spec {cs : List Nat} {t tt : Tok} {k : Nat} (hk : k ≤ 2) (hlen : cs.length ≤ 60) (H : Here w A env g L) (F : Fr g L s.heap m) (N : News g L s.heap news) (R : Room A 2) {Q : Value → Shared → Prop}
    (h : ∀ h' tk t', Fr g L h' m → News g L h' news → Q (.str ⟨(Nat.repeat quote k cs).toArray⟩ t') { s with heap := h', toks := tk }) : Go w A (call (.ref 97) [.str ⟨cs.toArray⟩ t, .int (k : Int) tt]) Q s := by
  refine' enter (d := 1) (binds := [(Str.ofString "text", .str ⟨cs.toArray⟩ t), (Str.ofString "times", .int (k : Int) tt)]) H F N R ?ho ?hcd ?hb ?hl ?c1 ?c2 ?c3 ?c4 ?_
  case ho => exact rfl
  case hcd => exact rfl
  case hb => exact rfl
  case hl => exact rfl
  case c1 => exact rfl
  case c2 => exact rfl
  case c3 => exact rfl
  case c4 => decide
  intro g' L' h₁ A' tk H' F' N' R' lt
  refine exFor (g := g') (L := L') (fun i m1 led1 => led1 = news ∧ ∃ t1, m1 (Str.ofString "text") = some (.str ⟨(Nat.repeat quote i cs).toArray⟩ t1)) [] k (fun i v => ∃ t, v = .int (0 + (i : Int) * 1) t) ?_ ?_ ?_
  · refine callBootT H' F' rfl rfl (Ps := [IsI (k : Int)]) ⟨evName F' rfl isI, rfl, trivial⟩ fun vs tk1 hvs => ?_
    obtain ⟨v1, rfl, t1, rfl⟩ := allV1 hvs
    refine goRange (s := { s with heap := h₁, toks := tk1 }) (by omega) H'.hh F' N' fun it h' tk2 rd => ?_
    exact ⟨h', tk2, _, news, rfl, rd, (fun q hq => nomatch hq), rfl, t, rfl⟩
  · rintro i v m1 led1 h1 tk1 I oI hi - ⟨rfl, t1, hm1⟩ - F1 N1 hne
    refine goStore (s := { s with heap := h1, toks := tk1 }) F1 N1 fun h2 tk2 F2 N2 => ?_
    refine exAsgE (g := g') ?_
    refine callName H' F2 rfl rfl (Ps := [IsS ⟨(Nat.repeat quote i cs).toArray⟩]) ⟨evName F2 (v := .str ⟨(Nat.repeat quote i cs).toArray⟩ t1) (by show (if _ then _ else _) = _; rw [if_neg (by decide)]; exact hm1) isS, rfl, trivial⟩ fun vs tk3 hvs => ?_
    obtain ⟨v1, rfl, t3, rfl⟩ := allV1 hvs
    have hl := sent_len i cs
    have hl2 : 4 ^ i ≤ 4 := by have : 4 ^ i ≤ 4 ^ 1 := Nat.pow_le_pow_right (by decide) (by omega); simpa using this
    have hl3 : 4 ^ i * cs.length ≤ 4 * cs.length := Nat.mul_le_mul_right _ hl2
    refine qd_spec (s := { s with heap := h2, toks := tk3 }) (by omega) H' F2 N2 R' fun h3 tk4 t4 F3 N3 => ?_
    refine ⟨_, _, F3, N3, fun h4 tk5 F4 N4 => ?_⟩
    exact exNil ⟨rfl, _, led1, h4, tk5, rfl, F4, N4, hne, (fun q hq => nomatch hq), rfl, t4, by show (if _ then _ else _) = _; rw [if_pos rfl]; rfl⟩
  · rintro m1 led1 h1 tk1 ⟨rfl, t1, hm1⟩ - F1 N1
    refine exRet (evName F1 hm1 isS) fun v tk2 hv => ?_
    obtain ⟨t2, rfl⟩ := hv
    exact Lv.mk' F1 N1 fun F3 N3 => h h1 tk2 t2 F3 N3
end
end Mine
end

-- Pt
section
open PySem PySem.W PyProof.Rows PySem.Calls PySem.StrLaws
set_option Elab.async false
set_option maxRecDepth 100000
set_option linter.all false
namespace Mine

def hd1 (c : Nat) : List (List Nat) → List (List Nat)
  | [] => [[c]]
  | p :: r => (c :: p) :: r
def cut1 (s : Nat) : List Nat → List (List Nat)
  | [] => [[]]
  | c :: r => if c = s then [] :: cut1 s r else hd1 c (cut1 s r)
theorem cut1_2 (s c : Nat) (r : List Nat) : cut1 s (c :: r) = if c = s then [] :: cut1 s r else hd1 c (cut1 s r) := rfl
def cut2 : List Nat → List (List Nat)
  | [] => [[]]
  | [c] => [[c]]
  | c :: d :: r => if c = 13 ∧ d = 10 then [] :: cut2 r else hd1 c (cut2 (d :: r))
theorem cut2_3 (c d : Nat) (r : List Nat) : cut2 (c :: d :: r) = if c = 13 ∧ d = 10 then [] :: cut2 r else hd1 c (cut2 (d :: r)) := by rw [cut2]
def joinL (z : List Nat) : List (List Nat) → List Nat
  | [] => []
  | [p] => p
  | p :: q :: r => p ++ z ++ joinL z (q :: r)
def rep1 : List Nat → List Nat
  | [] => []
  | [c] => [c]
  | c :: d :: r => if c = 13 ∧ d = 10 then 10 :: rep1 r else c :: rep1 (d :: r)
theorem rep1_3 (c d : Nat) (r : List Nat) : rep1 (c :: d :: r) = if c = 13 ∧ d = 10 then 10 :: rep1 r else c :: rep1 (d :: r) := by rw [rep1]
def rep2 (l : List Nat) : List Nat := l.map fun c => if c = 13 then 10 else c
def rowsL (l : List Nat) : List (List Nat) := cut1 10 (rep2 (rep1 l))

theorem cut1_ne (s : Nat) : ∀ l, ∃ p r, cut1 s l = p :: r
  | [] => ⟨_, _, rfl⟩
  | c :: l => by
    obtain ⟨p, r, e⟩ := cut1_ne s l
    unfold cut1
    rw [e]
    split
    · exact ⟨_, _, rfl⟩
    · exact ⟨_, _, rfl⟩
theorem cut2_ne : ∀ l, ∃ p r, cut2 l = p :: r
  | [] => ⟨_, _, rfl⟩
  | [c] => ⟨_, _, rfl⟩
  | c :: d :: l => by
    obtain ⟨p, r, e⟩ := cut2_ne (d :: l)
    rw [cut2_3, e]
    split
    · exact ⟨_, _, rfl⟩
    · exact ⟨_, _, rfl⟩
theorem join_hd1 (z : List Nat) (c : Nat) : ∀ {l : List (List Nat)}, (∃ p r, l = p :: r) → joinL z (hd1 c l) = c :: joinL z l
  | _, ⟨p, [], rfl⟩ => rfl
  | _, ⟨p, q :: r, rfl⟩ => rfl
theorem join_nil (z : List Nat) : ∀ {l : List (List Nat)}, (∃ p r, l = p :: r) → joinL z ([] :: l) = z ++ joinL z l
  | _, ⟨p, r, rfl⟩ => rfl
theorem join_cut2 : ∀ l, joinL [10] (cut2 l) = rep1 l
  | [] => rfl
  | [c] => rfl
  | c :: d :: l => by
    rw [cut2_3, rep1_3]
    split
    · rw [join_nil _ (cut2_ne _), join_cut2 l]; rfl
    · rw [join_hd1 _ _ (cut2_ne _), join_cut2 (d :: l)]
theorem join_cut1 : ∀ l, joinL [10] (cut1 13 l) = rep2 l
  | [] => rfl
  | c :: l => by
    unfold cut1 rep2
    rw [List.map_cons]
    split
    · rw [join_nil _ (cut1_ne _ _), join_cut1 l]; rfl
    · rw [join_hd1 _ _ (cut1_ne _ _), join_cut1 l]; rfl

theorem cut1_at {s : Nat} : ∀ {l : List Nat} {d : Nat}, l[d]? = some s → (∀ k : Nat, k < d → l[k]? ≠ some s) → cut1 s l = l.take d :: cut1 s (l.drop (d + 1))
  | [], d, h, _ => by simp at h
  | c :: l, 0, h, _ => by
    have : c = s := by simpa using h
    rw [cut1_2, if_pos this]; rfl
  | c :: l, d + 1, h, hn => by
    have h0 : c ≠ s := fun e => hn 0 (Nat.succ_pos _) (by simp [e])
    have ih := cut1_at (s := s) (l := l) (d := d) (by simpa using h) fun k hk e => hn (k + 1) (by omega) (by simpa using e)
    rw [cut1_2, if_neg h0, ih]
    rfl
theorem cut1_no {s : Nat} : ∀ {l : List Nat}, (∀ k : Nat, l[k]? ≠ some s) → cut1 s l = [l]
  | [], _ => rfl
  | c :: l, hn => by
    have h0 : c ≠ s := fun e => hn 0 (by simp [e])
    have ih := cut1_no (s := s) (l := l) fun k e => hn (k + 1) (by simpa using e)
    rw [cut1_2, if_neg h0, ih]
    rfl
theorem cut2_at : ∀ {l : List Nat} {d : Nat}, l[d]? = some 13 → l[d + 1]? = some 10 → (∀ k : Nat, k < d → ¬ (l[k]? = some 13 ∧ l[k + 1]? = some 10)) → cut2 l = l.take d :: cut2 (l.drop (d + 2))
  | [], d, h, _, _ => by simp at h
  | [c], 0, _, h, _ => by simp at h
  | [c], d + 1, h, _, _ => by simp at h
  | c :: e :: l, 0, h, h2, _ => by
    have h' : c = 13 := by simpa using h
    have h2' : e = 10 := by simpa using h2
    rw [cut2_3, if_pos ⟨h', h2'⟩]; rfl
  | c :: e :: l, d + 1, h, h2, hn => by
    have h0 : ¬ (c = 13 ∧ e = 10) := fun q => hn 0 (Nat.succ_pos _) (by simp [q.1, q.2])
    have ih := cut2_at (l := e :: l) (d := d) (by simpa using h) (by simpa using h2) fun k hk q => hn (k + 1) (by omega) (by simpa using q)
    rw [cut2_3, if_neg h0, ih]
    rfl
theorem cut2_no : ∀ {l : List Nat}, (∀ k : Nat, ¬ (l[k]? = some 13 ∧ l[k + 1]? = some 10)) → cut2 l = [l]
  | [], _ => rfl
  | [c], _ => rfl
  | c :: e :: l, hn => by
    have h0 : ¬ (c = 13 ∧ e = 10) := fun q => hn 0 (by simp [q.1, q.2])
    have ih := cut2_no (l := e :: l) fun k q => hn (k + 1) (by simpa using q)
    rw [cut2_3, if_neg h0, ih]
    rfl

theorem at1 (x : Str) (c i : Nat) : At x ⟨#[c]⟩ x.length i ↔ x.cps.toList[i]? = some c := subAt_one x c i
theorem at2 (x : Str) (i : Nat) : At x ⟨#[13, 10]⟩ x.length i ↔ (x.cps.toList[i]? = some 13 ∧ x.cps.toList[i + 1]? = some 10) := by
  unfold At
  rw [subAt_eq]
  have hl : x.length = x.cps.toList.length := by simp [Str.length]
  rw [hl]
  generalize x.cps.toList = l
  show (i + 2 ≤ l.length ∧ ((l.drop i).take 2 == [13, 10]) = true) ↔ _
  rw [beq_iff_eq]
  constructor
  · rintro ⟨h1, h2⟩
    have e0 : ((l.drop i).take 2)[0]? = l[i]? := by rw [List.getElem?_take_of_lt (by omega), List.getElem?_drop]; rfl
    have e1 : ((l.drop i).take 2)[1]? = l[i + 1]? := by rw [List.getElem?_take_of_lt (by omega), List.getElem?_drop]
    rw [h2] at e0 e1
    exact ⟨e0.symm, e1.symm⟩
  · rintro ⟨h1, h2⟩
    have hb : i + 1 < l.length := (List.getElem?_eq_some_iff.mp h2).1
    refine ⟨by omega, ?_⟩
    have g1 : l[i] = 13 := (List.getElem?_eq_some_iff.mp h1).2
    have g2 : l[i + 1] = 10 := (List.getElem?_eq_some_iff.mp h2).2
    rw [List.drop_eq_getElem_cons (by omega), List.drop_eq_getElem_cons hb, g1, g2]
    rfl
theorem parts1 (x : Str) (c : Nat) : ∀ (cuts : List Nat) (a f : Nat), ChainG x ⟨#[c]⟩ x.length a cuts f → (∀ k, f ≤ k → ¬ At x ⟨#[c]⟩ x.length k) → (partsFrom x 1 a cuts).map (·.cps.toList) = cut1 c (x.cps.toList.drop a)
  | [], a, f, h, hn => by
    have e : f = a := h
    subst e
    rw [cut1_no fun k e => hn (f + k) (by omega) ((at1 x c _).mpr (by rw [← e, List.getElem?_drop]))]
    show [(Builtin.Str.strSub x f x.length).cps.toList] = _
    rw [strSub_toList, List.take_of_length_le (by simp [Str.length])]
  | d :: r, a, f, ⟨h1, h2, h3, h4⟩, hn => by
    have ih := parts1 x c r (d + 1) f h4 hn
    have hd : (x.cps.toList.drop a)[d - a]? = some c := by rw [List.getElem?_drop, show a + (d - a) = d by omega]; exact (at1 x c _).mp h2
    rw [cut1_at hd fun k hk e => h3 (a + k) (by omega) (by omega) ((at1 x c _).mpr (by rw [← e, List.getElem?_drop]))]
    show (Builtin.Str.strSub x a d).cps.toList :: (partsFrom x 1 (d + 1) r).map (·.cps.toList) = _
    rw [ih, strSub_toList, List.drop_drop, show a + (d - a + 1) = d + 1 by omega]
theorem parts2 (x : Str) : ∀ (cuts : List Nat) (a f : Nat), ChainG x ⟨#[13, 10]⟩ x.length a cuts f → (∀ k, f ≤ k → ¬ At x ⟨#[13, 10]⟩ x.length k) → (partsFrom x 2 a cuts).map (·.cps.toList) = cut2 (x.cps.toList.drop a)
  | [], a, f, h, hn => by
    have e : f = a := h
    subst e
    rw [cut2_no fun k e => hn (f + k) (by omega) ((at2 x _).mpr (by rw [List.getElem?_drop, List.getElem?_drop] at e; exact e))]
    show [(Builtin.Str.strSub x f x.length).cps.toList] = _
    rw [strSub_toList, List.take_of_length_le (by simp [Str.length])]
  | d :: r, a, f, ⟨h1, h2, h3, h4⟩, hn => by
    have ih := parts2 x r (d + 2) f h4 hn
    have hd := (at2 x _).mp h2
    have hd1 : (x.cps.toList.drop a)[d - a]? = some 13 := by rw [List.getElem?_drop, show a + (d - a) = d by omega]; exact hd.1
    have hd2 : (x.cps.toList.drop a)[d - a + 1]? = some 10 := by rw [List.getElem?_drop, show a + (d - a + 1) = d + 1 by omega]; exact hd.2
    rw [cut2_at hd1 hd2 fun k hk e => h3 (a + k) (by omega) (by omega) ((at2 x _).mpr (by rw [List.getElem?_drop, List.getElem?_drop] at e; exact e))]
    show (Builtin.Str.strSub x a d).cps.toList :: (partsFrom x 2 (d + 2) r).map (·.cps.toList) = _
    rw [ih, strSub_toList, List.drop_drop, show a + (d - a + 2) = d + 2 by omega]

theorem occ_none {x y : Str} (h : x.length < y.length) : Builtin.Str.occurrences x y 0 x.length (x.length + 1) = [] := by
  cases e : Builtin.Str.occurrences x y 0 x.length (x.length + 1) with
  | nil => rfl
  | cons i r =>
    have := (occ_spec x y 0 x.length (x.length + 1) i (by rw [e]; exact .head _)).1
    omega
theorem split_eq {x y : Str} (hy : Builtin.Str.strKind y = 1) : Txt.split x y = partsFrom x y.length 0 (Builtin.Str.occurrences x y 0 x.length (x.length + 1)) := by
  have hx : ¬ Builtin.Str.strKind x < 1 := by unfold Builtin.Str.strKind; split <;> (try split) <;> omega
  have nil : partsFrom x y.length 0 [] = [x] := by
    show [Builtin.Str.strSub x 0 x.length] = _
    rw [strSub_whole]
  unfold Txt.split
  rw [hy]
  split
  · rename_i h
    simp only [Bool.or_eq_true, decide_eq_true_eq] at h
    rcases h with h | h
    · rw [occ_none h, nil]
    · exact absurd h hx
  · split
    · rename_i h
      rw [List.isEmpty_iff.mp h, nil]
    · exact partsBetween_eq _ _ _

theorem split1_eq (cs : List Nat) (c : Nat) (hc : c < 256) : (Txt.split ⟨cs.toArray⟩ ⟨#[c]⟩).map (·.cps.toList) = cut1 c cs := by
  rw [split_eq (by unfold Builtin.Str.strKind; simp [hc])]
  obtain ⟨f, h1, h2⟩ := occ_tight ⟨cs.toArray⟩ ⟨#[c]⟩ (by show 1 ≤ 1; omega)
  exact parts1 ⟨cs.toArray⟩ c _ 0 f h1 h2
theorem split2_eq (cs : List Nat) : (Txt.split ⟨cs.toArray⟩ ⟨#[13, 10]⟩).map (·.cps.toList) = cut2 cs := by
  rw [split_eq (by unfold Builtin.Str.strKind; simp)]
  obtain ⟨f, h1, h2⟩ := occ_tight ⟨cs.toArray⟩ ⟨#[13, 10]⟩ (by show 1 ≤ 2; omega)
  exact parts2 ⟨cs.toArray⟩ _ 0 f h1 h2
theorem glued_fold (z : Str) : ∀ (l : List Str) (acc : Array Nat), (l.foldl (fun acc p => acc ++ z.cps ++ p.cps) acc).toList = joinL z.cps.toList (acc.toList :: l.map (·.cps.toList))
  | [], acc => rfl
  | p :: l, acc => by
    rw [List.foldl_cons, glued_fold z l]
    cases l with
    | nil => simp [joinL]
    | cons q r => simp [joinL]
theorem glued_eq (z : Str) : ∀ (l : List Str), (∃ p r, l = p :: r) → (Builtin.Str.glued z l).cps.toList = joinL z.cps.toList (l.map (·.cps.toList))
  | _, ⟨p, r, rfl⟩ => glued_fold z r p.cps
theorem replace_eq {x y z : Str} (hy : 1 ≤ y.length) : (Txt.replace x y z).cps.toList = joinL z.cps.toList ((partsFrom x y.length 0 (Builtin.Str.occurrences x y 0 x.length (x.length + 1))).map (·.cps.toList)) := by
  unfold Txt.replace
  have h0 : (y.length == 0) = false := by simp; omega
  rw [h0]
  split
  · rename_i h
    simp at h
    rw [h]
    show _ = (Builtin.Str.strSub x 0 x.length).cps.toList
    rw [strSub_whole]
  · rw [glued_eq _ _ (by rw [partsBetween_eq]; exact partsFrom_ne _ _ _ _), partsBetween_eq]
theorem replace1_eq (cs : List Nat) : Txt.replace ⟨cs.toArray⟩ ⟨#[13]⟩ ⟨#[10]⟩ = ⟨(rep2 cs).toArray⟩ := by
  have h := replace_eq (x := ⟨cs.toArray⟩) (y := ⟨#[13]⟩) (z := ⟨#[10]⟩) (by show 1 ≤ 1; omega)
  obtain ⟨f, h1, h2⟩ := occ_tight ⟨cs.toArray⟩ ⟨#[13]⟩ (by show 1 ≤ 1; omega)
  have e := parts1 ⟨cs.toArray⟩ 13 _ 0 f h1 h2
  have h' : (Txt.replace ⟨cs.toArray⟩ ⟨#[13]⟩ ⟨#[10]⟩).cps.toList = joinL [10] (cut1 13 cs) := h.trans (congrArg _ e)
  rw [join_cut1] at h'
  apply Str.ext'
  apply Array.toList_inj.mp
  rw [h']
theorem replace2_eq (cs : List Nat) : Txt.replace ⟨cs.toArray⟩ ⟨#[13, 10]⟩ ⟨#[10]⟩ = ⟨(rep1 cs).toArray⟩ := by
  have h := replace_eq (x := ⟨cs.toArray⟩) (y := ⟨#[13, 10]⟩) (z := ⟨#[10]⟩) (by show 1 ≤ 2; omega)
  obtain ⟨f, h1, h2⟩ := occ_tight ⟨cs.toArray⟩ ⟨#[13, 10]⟩ (by show 1 ≤ 2; omega)
  have e := parts2 ⟨cs.toArray⟩ _ 0 f h1 h2
  have h' : (Txt.replace ⟨cs.toArray⟩ ⟨#[13, 10]⟩ ⟨#[10]⟩).cps.toList = joinL [10] (cut2 cs) := h.trans (congrArg _ e)
  rw [join_cut2] at h'
  apply Str.ext'
  apply Array.toList_inj.mp
  rw [h']
end Mine
end

-- Rw
section
open PySem PySem.W PyProof.Rows PySem.Calls PySem.Builtin PySem.Builtin.Str
set_option Elab.async false
set_option maxRecDepth 100000
set_option linter.all false
namespace Mine
section
variable {w : World} {A : Around} {env : Env} {g : Heap} {L : Addr} {m : Mp} {s : Shared} {news : Led} {Q E : Value → Shared → Prop}
theorem enterT {name qual : Str} {params : Arguments} {body : List Stmt} {scope : Scope} {dV kV doc pm cdv ct oc : Value} {an od : Option Addr} {osl : Array (Option Value)} {f : Addr} {args : List Value} {binds : List (Str × Value)} {d : Nat}
    (H : Here w A env g L) (F : Fr g L s.heap m) (N : News g L s.heap news) (R : Room A (d + 1))
    (ho : (KK w).lookup f = some ⟨oc, od, .func (fnOf name qual params body scope dV kV doc pm an cdv ct), osl⟩) (hcd : codeIn (KK w) cdv qual = true)
    (hbind : bindArgs (fnOf name qual params body scope dV kV doc pm an cdv ct) ⟨args, []⟩ = pure binds) (hloc : (binds.all fun x => decide (scope.names.lookup x.1 = some .local)) = true)
    (hco : scope.isCoroutine = false) (hgen : scope.isGenerator = false) (hk : scope.kind = .function) (hcell : ∀ x ∈ scope.names, x.2 ≠ .cell)
    (h : ∀ g' L' h₁ A' tk, binds.length ≤ tk → Here w A' (envX qual scope L' f cdv []) g' L' → Fr g' L' h₁ (fun y => binds.reverse.lookup y) → News g' L' h₁ news → Room A' d →
      (∀ p ∈ news, p.1 < L') →
      Go w A' (execs body (envX qual scope L' f cdv []))
        (fun fl s' => Lv g L m g' Q (match fl with | .ret v => v | _ => .none) s') { s with heap := h₁, toks := tk }) :
    Go w A (call (.ref f) args) Q s := by
  obtain ⟨p, loose, mean, mg, mb, T⟩ := H.T
  obtain ⟨A₀, base, outer, B, hA⟩ := H.B
  refine ⟨wpAny_call (callX_plain (cl := []) B F N T.nolimit hA H.hf H.hk ((H.X.keeps F.keep) _ _ ho) rfl (codeRec_of (H.X.keeps F.keep) hcd) (by have := R.1; omega) (BindsTo.of_eq hbind) (locs hloc) (fun g' L' h₁ FG F' N' B' st lt => ?_) hcell hco hgen hk)⟩
  refine wpAny_mono (h g' L' h₁ _ _ (Nat.le_add_left _ _) ⟨H.X.keeps st, ⟨p, loose, mean, mg, mb, T.keeps st⟩, ⟨A, base, env :: outer, B', Around.frames_deeper hA⟩, rfl, hk, H.hh⟩ F' N' R.deeper lt).run (fun _ s' x => ?_) fun _ _ x => x.elim
  obtain ⟨L2, m2, news2, F2, N2, k⟩ := x.run
  exact ⟨L2, m2, news2, F2, N2, k⟩

theorem call_replace {x y z : Str} {t u v : Tok} (hu : u ≠ 0) (hv : v ≠ 0) (huv : u ≠ v) (hyz : (y == z) = false) (hb : x.length + (x.length + 1) * z.length ≤ 16777216)
    (hq : ∀ t' k, s.toks ≤ k → Q (.str (Txt.replace x y z) t') { s with toks := k }) : wpAny (model PR w) A (call (.builtin "str.replace") [.str x t, .str y u, .str z v]) Q E s := by
  have e : (2 : Nat) ^ 24 = 16777216 := by decide
  have hl : tooLong (x.length + (occurrences x y 0 x.length (x.length + 1)).length * z.length) = false := by
    have h1 := StrLaws.occ_length_le x y 0 x.length (x.length + 1)
    have h2 : (occurrences x y 0 x.length (x.length + 1)).length * z.length ≤ (x.length + 1) * z.length := Nat.mul_le_mul_right _ h1
    unfold tooLong sizeLine
    exact decide_eq_false (by omega)
  refine call_gives PySem.F.slot_str_replace (typeIs_str _ _ _) PySem.F.entry_str_replace (PySem.F.args_str_replace_3 _ _ _)
    (gives_str_replace x y z t u v fun _ => ⟨by simp [hu, hv], by simp [huv], hyz, hl⟩) ?_
  have hq' := hq
  unfold Txt.replace at hq'
  cases hc : ((occurrences x y 0 x.length (x.length + 1)).isEmpty || (y.length == 0 && z.length == 0))
  · rw [hc] at hq'
    simp only [Bool.false_eq_true, if_false] at hq' ⊢
    exact ⟨fits_replaced y hb, hq' _ _ (Nat.le_succ _)⟩
  · rw [hc] at hq'
    simp only [if_true] at hq' ⊢
    exact hq' t s.toks (Nat.le_refl _)

theorem call_split {x y : Str} {t u : Tok} (hy : (y.length == 0) = false) (hsz : x.length ≤ 100000)
    (h : ∀ l tk, l.map (·.1) = Txt.split x y → Q (.ref s.heap.objs.size) { s with heap := s.heap.push (listOf (strValues l).toArray 0), toks := tk }) : wpAny (model PR w) A (call (.builtin "str.split") [.str x t, .str y u]) Q E s := by
  have hs1 : x.length ≤ sizeLine := Nat.le_trans hsz (by decide)
  have hs2 : (partsBetween x (occurrences x y 0 x.length (x.length + 1)) y.length).length ≤ sizeLine := by
    rw [len_partsBetween]
    have := StrLaws.occ_length_le x y 0 x.length (x.length + 1)
    have e : 200000 ≤ sizeLine := by decide
    omega
  cases h1 : (decide (x.length < y.length) || decide (strKind x < strKind y))
  · cases hf : (occurrences x y 0 x.length (x.length + 1)).isEmpty
    · refine call_meets PySem.F.slot_str_split (typeIs_str _ _ _) PySem.F.entry_str_split (PySem.F.args_str_split_2 _ _) (meets_str_split_sep x y t u h1 hy hf hs1 hs2) ?_
      show wants Q E _ { s with toks := _, heap := s.heap.push { cls := .type "list", data := .seq (strsFrom s.toks (partsBetween x (occurrences x y 0 x.length (x.length + 1)) y.length)).toArray } }
      rw [strsFrom_eq]
      exact h (numbered s.toks _) _ ((numbered_texts _ _).trans ((if_neg (ne_true_of_eq_false h1)).trans (if_neg (ne_true_of_eq_false hf))).symm)
    · exact call_meets PySem.F.slot_str_split (typeIs_str _ _ _) PySem.F.entry_str_split (PySem.F.args_str_split_2 _ _) (meets_str_split_not_found x y t u h1 hy hf)
        (h [(x, t)] s.toks ((if_neg (ne_true_of_eq_false h1)).trans (if_pos hf)).symm)
  · exact call_meets PySem.F.slot_str_split (typeIs_str _ _ _) PySem.F.entry_str_split (PySem.F.args_str_split_2 _ _) (meets_str_split_cannot_occur x y t u h1)
      (h [(x, t)] s.toks (if_pos h1).symm)
theorem getStr {x : Str} {t : Tok} {name : Str} {id : String} {pl : Sem Bool} {Q : Value × List Value → Shared → Prop} (slot : Slot "str" name id) (hty : typeOf (.builtin id) = pure (.type "method_descriptor")) (h : Q (.builtin id, [.str x t]) s) :
    Go w A (getMethod (.str x t) name pl) Q s := ⟨getMethod_builtin (typeIs_str _ _ _) PySem.F.plainAttrs_str slot hty (fun _ e => nomatch e) h⟩
theorem rep1_len : ∀ (l : List Nat), (rep1 l).length ≤ l.length
  | [] => Nat.le_refl _
  | [c] => Nat.le_refl _
  | c :: d :: r => by
    have h1 := rep1_len r
    have h2 := rep1_len (d :: r)
    rw [rep1_3]
    split
    · simp only [List.length_cons] at *; omega
    · simp only [List.length_cons] at *; omega

theorem goReplace {o : Expr} {c1 c2 : Str} {k1 k2 : Nat} {p1 p2 apos pos : Pos} {pl : Sem Bool} (hyz : (c1 == c2) = false) (hc2 : c2.length = 1)
    (h : Go w A (eval o env) (fun v s1 => ∃ x t, v = .str x t ∧ 1 ≤ s1.toks ∧ x.length ≤ 100000 ∧ ∀ t' k, 1 ≤ k → Q (.str (Txt.replace x c1 c2) t') { s1 with toks := k }) s)
    (he : eval (.Call (.Attribute o (Str.ofString "replace") apos) [.Constant (.str c1) k1 p1, .Constant (.str c2) k2 p2] [] pos) env = (do
      let ov ← eval o env
      standAt apos.atName
      let (f, first) ← holding [ov] (getMethod ov (Str.ofString "replace") pl)
      callWith pos f first (backTo pos (starEach [.Constant (.str c1) k1 p1, .Constant (.str c2) k2 p2] env)) []) := by rfl) :
    Go w A (eval (.Call (.Attribute o (Str.ofString "replace") apos) [.Constant (.str c1) k1 p1, .Constant (.str c2) k2 p2] [] pos) env) Q s := by
  refine ⟨MethodCall_ (wpAny_mono h.run (fun v s1 z => ?_) fun _ _ z => z) he⟩
  obtain ⟨x, t, rfl, h1, hx, k⟩ := z
  refine (getStr PySem.F.slot_str_replace PySem.F.type_str_replace ?_).run
  refine callWith_method1 (args_cons (wpAny_Constant_str (args_cons (wpAny_Constant_str (args_nil ?_)) (by rfl))) (by rfl)) (by rfl) (by rfl)
  refine call_replace (show @Ne Nat s1.toks 0 by omega) (show @Ne Nat (s1.toks + 1) 0 by omega) (show @Ne Nat s1.toks (s1.toks + 1) by omega) hyz ?_ fun t1 k1 hk1 => k t1 k1 ?_
  · rw [hc2]; omega
  · have : s1.toks + 1 + 1 ≤ k1 := hk1
    omega
theorem goSplit {o : Expr} {c1 : Str} {k1 : Nat} {p1 apos pos : Pos} {pl : Sem Bool} (hy : (c1.length == 0) = false)
    (h : Go w A (eval o env) (fun v s1 => ∃ x t, v = .str x t ∧ x.length ≤ 100000 ∧ ∀ l tk, l.map (·.1) = Txt.split x c1 → Q (.ref s1.heap.objs.size) { s1 with heap := s1.heap.push (listOf (strValues l).toArray 0), toks := tk }) s)
    (he : eval (.Call (.Attribute o (Str.ofString "split") apos) [.Constant (.str c1) k1 p1] [] pos) env = (do
      let ov ← eval o env
      standAt apos.atName
      let (f, first) ← holding [ov] (getMethod ov (Str.ofString "split") pl)
      callWith pos f first (backTo pos (starEach [.Constant (.str c1) k1 p1] env)) []) := by rfl) :
    Go w A (eval (.Call (.Attribute o (Str.ofString "split") apos) [.Constant (.str c1) k1 p1] [] pos) env) Q s := by
  refine ⟨MethodCall_ (wpAny_mono h.run (fun v s1 z => ?_) fun _ _ z => z) he⟩
  obtain ⟨x, t, rfl, hx, k⟩ := z
  refine (getStr PySem.F.slot_str_split PySem.F.type_str_split ?_).run
  refine callWith_method1 (args_cons (wpAny_Constant_str (args_nil ?_)) (by rfl)) (by rfl) (by rfl)
  exact call_split (s := { s1 with toks := s1.toks + 1 }) hy hx fun l tk hl => k l tk hl

theorem rows_spec {cs : List Nat} {t : Tok} (hlen : cs.length ≤ 1000) (H : Here w A env g L) (F : Fr g L s.heap m) (N : News g L s.heap news) (R : Room A 1)
    (h : ∀ D l h' tk, l.map (fun p => p.1.cps.toList) = rowsL cs → Fr g L h' m → News g L h' ((D, listOf (strValues l).toArray 0) :: news) → (∀ p ∈ news, p.1 < D) → Q (.ref D) { s with heap := h', toks := tk }) : Go w A (call (.ref 109) [.str ⟨cs.toArray⟩ t]) Q s := by
  refine' enterT (d := 0) (binds := [(Str.ofString "text", .str ⟨cs.toArray⟩ t)]) H F N R ?ho ?hcd ?hb ?hl ?c1 ?c2 ?c3 ?c4 ?_
  case ho => exact rfl
  case hcd => exact rfl
  case hb => exact rfl
  case hl => exact rfl
  case c1 => exact rfl
  case c2 => exact rfl
  case c3 => exact rfl
  case c4 => decide
  intro g' L' h₁ A' tk htk H' F' N' R' lt
  have htk1 : 1 ≤ tk := htk
  refine exRetE (goSplit (by decide) (goReplace (by decide) (by decide) (goReplace (by decide) (by decide) ⟨nameX_L F' rfl ?_ rfl rfl (by decide)⟩)))
  have hr := rep1_len cs
  refine ⟨_, _, rfl, htk1, (by show cs.toArray.size ≤ _; rw [List.size_toArray]; omega), fun t1 k1 hk1 => ?_⟩
  have e1 : Txt.replace ⟨cs.toArray⟩ (Str.ofString "\r\n") (Str.ofString "\n") = ⟨(rep1 cs).toArray⟩ := replace2_eq cs
  rw [e1]
  refine ⟨_, _, rfl, hk1, (by show (rep1 cs).toArray.size ≤ _; rw [List.size_toArray]; omega), fun t2 k2 hk2 => ?_⟩
  have e2 : Txt.replace ⟨(rep1 cs).toArray⟩ (Str.ofString "\r") (Str.ofString "\n") = ⟨(rep2 (rep1 cs)).toArray⟩ := replace1_eq (rep1 cs)
  rw [e2]
  refine ⟨_, _, rfl, (by show (rep2 (rep1 cs)).toArray.size ≤ _; rw [List.size_toArray]; unfold rep2; rw [List.length_map]; omega), fun l k3 hl => ?_⟩
  have hl' : l.map (fun p => p.1.cps.toList) = rowsL cs := by
    have e3 : l.map (·.1) = Txt.split ⟨(rep2 (rep1 cs)).toArray⟩ ⟨#[10]⟩ := hl
    have := congrArg (List.map fun (x : Str) => x.cps.toList) e3
    rw [List.map_map, split1_eq _ _ (by decide)] at this
    exact this
  exact Lv.mk' (F'.push _) (N'.push F' _) fun F3 N3 => h _ l _ k3 hl' F3 N3 fun p hp => Heap.lt_size (N' p hp).1
end
end Mine
end

-- Cp
section
open PySem PySem.W PyProof.Rows PySem.Calls PySem.Builtin PySem.Builtin.Str
set_option Elab.async false
set_option maxRecDepth 100000
set_option linter.all false
namespace Mine
abbrev Grow (h h' : Heap) : Prop := ∀ b o, h.get? b = some o → h'.get? b = some o
section
variable {w : World} {A : Around} {env : Env} {g : Heap} {L : Addr} {m : Mp} {s : Shared} {news : Led} {Q : Value → Shared → Prop}
theorem fresh_off {h : Heap} {D : Addr} (F : Fr g L h m) (hD : h.get? D = none) : D ≠ L ∧ g.get? D = none := by
  refine ⟨fun e => ?_, ?_⟩
  · obtain ⟨oL, es, ep, hL, r⟩ := F.ns
    rw [e, hL] at hD; cases hD
  · cases e : g.get? D with
    | none => rfl
    | some o => rw [F.keep D o e] at hD; cases hD

/-- [elt for x in iter] -/
theorem goComp {elt iter : Expr} {x : Str} {px : Pos} {ifs : List Expr} {scope : Scope} {cl : List (Str × Addr)} {pos : Pos} (p : Value → Bool) (T : Value → Value → Prop)
    (hclos : closureFor scope env = pure cl) (hcell : ∀ y ∈ scope.names, y.2 ≠ .cell) (hkind : scope.kind = .function)
    (hnames : ∀ y ∈ scope.names, y.2 = .local → scope.names.lookup y.1 = some .local) (hx : scope.names.lookup x = some .local)
    (h : Go w A (eval iter env) (fun xv s1 => Go w A (pyIter xv) (fun it s2 => ∃ h2 tk2 m2 led2 keep n P, s2 = { s with heap := h2, toks := tk2 } ∧ Ready w A g L keep n P m2 led2 it h2 ∧ (∀ p ∈ keep, p ∈ led2) ∧ n ≤ 100000 ∧
      (∀ C i v (s3 : Shared) m3, h2.objs.size ≤ C → P i v → s3.heap.Ns C m3 → m3 x = some v → Fr g L s3.heap m2 → News g L s3.heap led2 →
        Go w A (forIn ifs true fun c r => if r = true then do let ok ← isTrue c (compEnvC scope cl C env) (eval c (compEnvC scope cl C env)); pure (ForInStep.yield ok) else pure (ForInStep.yield r)) (fun ok s4 => ok = p v ∧ Keeps s3 s4) s3) ∧
      (∀ C i v (s3 : Shared) m3, h2.objs.size ≤ C → P i v → p v = true → s3.heap.Ns C m3 → m3 x = some v → Fr g L s3.heap m2 → News g L s3.heap led2 →
        Go w A (eval elt (compEnvC scope cl C env)) (fun y s4 => T v y ∧ Keeps s3 s4) s3) ∧
      (∀ D h' tk ys c (vs : List Value), vs.length = n → (∀ j v, vs[j]? = some v → P j v) → Paired T (vs.filter p) ys → Fr g L h' m2 → News g L h' ((D, listOf ys.toArray c) :: led2) → (∀ q ∈ led2, q.1 ≠ D) → Q (.ref D) { s with heap := h', toks := tk })) s1) s)
    (hs : ∀ x, foldedSetIterable iter env x = pure x := by intro _; rfl) :
    Go w A (eval (.ListComp elt [⟨.Name x px, iter, ifs, 0⟩] scope pos) env) Q s := by
  refine ⟨wpAny_ListComp_free p T hclos hcell hkind hnames hx (wpAny_mono h.run (fun xv s1 h1 => wpAny_mono h1.run (fun it s2 h2 => ?_) fun _ _ z => z) fun _ _ z => z) hs⟩
  obtain ⟨h2, tk2, m2, led2, keep, n, P, rfl, ⟨I, oI, fp, St, rfl, W, st, F2, N2, lt2, hfp, hget⟩, hkeep, hn, ht, he, hq⟩ := h2
  have off : ∀ h3 : Heap, (∀ b o, b ∉ [I] → h2.get? b = some o → h3.get? b = some o) → Fr g L h3 m2 ∧ News g L h3 led2 := fun h3 hk => off_done F2 N2 (fun p hp => Nat.ne_of_lt (lt2 p hp)) hk
  refine ⟨I, fp, [I], n, P, St, rfl, W, Nat.le_trans hn (by decide), st, ?_, ⟨?_, ?_⟩, ?_⟩
  · intro b hb
    rcases hfp b hb with rfl | ⟨o, ho⟩
    · exact Heap.lt_size (N2 _ (.head _)).1
    · exact Heap.lt_size (N2 _ (.tail _ (hkeep _ ho))).1
  · intro C i v s3 m3 E' hC hP hns hm hk htk
    obtain ⟨F3, N3⟩ := off s3.heap hk
    exact wpAny_mono (ht C i v s3 m3 hC hP hns hm F3 N3).run (fun _ _ z => z) fun _ _ z => z.elim
  · intro C i v s3 m3 E' hC hP hp hns hm hk htk
    obtain ⟨F3, N3⟩ := off s3.heap hk
    exact wpAny_mono (he C i v s3 m3 hC hP hp hns hm F3 N3).run (fun _ _ z => z) fun _ _ z => z.elim
  · intro D h' tk ys vs hD hl hpl hlen hP hF hk
    obtain ⟨F3, N3⟩ := off h' hk
    obtain ⟨c, hc⟩ := hpl
    have hDo := fresh_off F2 hD
    refine hq D h' tk ys.toList c vs hlen hP hF F3 (fun q hqm => ?_) fun q hqm e => ?_
    · rcases List.mem_cons.mp hqm with rfl | hqm
      · exact ⟨hc, hDo⟩
      · exact N3 q hqm
    · have := (N2 q (.tail _ hqm)).1
      rw [e] at this
      have hD' : h2.get? D = none := hD
      rw [hD'] at this
      cases this

/-- names in a comprehension -/
theorem evNameC {scope : Scope} {cl : List (Str × Addr)} {C : Addr} {y : Str} {px : Pos} {h : Heap} {m3 : Mp} {v : Value} {P : Value → Prop} (hns : h.Ns C m3) (hv : m3 y = some v) (hP : P v)
    (hk : scope.kind = .function := by rfl) (hx : scope.names.lookup y = some .local := by rfl) (hd : (y == ("__debug__" : Str)) = false := by decide) : Ev w A (compEnvC scope cl C env) h (.Name y px) P := ⟨fun s Q E e k => by
  subst e
  exact wpAny_Name (wpAny_loadName_local (env := compEnvC scope cl C env) hk (lookup_relabel_local hx) hns hv (k v s.toks hP)) hd⟩
theorem evCellC {scope : Scope} {cl : List (Str × Addr)} {C c : Addr} {o : Obj} {y : Str} {px : Pos} {h : Heap} {v : Value} {P : Value → Prop} (N : News g L h news) (hc : cl.lookup y = some c) (hm : (c, o) ∈ news) (hd : o.data = .cell (some v)) (hP : P v)
    (hx : (compEnvC scope cl C env).kindOf y = some .cell) (hk : scope.kind = .function := by rfl) (hb : (y == ("__debug__" : Str)) = false := by decide) : Ev w A (compEnvC scope cl C env) h (.Name y px) P := ⟨fun s Q E e k => by
  subst e
  exact wpAny_Name (wpAny_loadName_cell (env := compEnvC scope cl C env) hk hx hc ⟨o, N.get hm, hd⟩ (k v s.toks hP)) hb⟩
end
end Mine
end

-- Sl
section
open PySem PySem.W PyProof.Rows PySem.Calls PySem.Builtin PySem.Builtin.Str
set_option Elab.async false
set_option maxRecDepth 100000
set_option linter.all false
namespace Mine
theorem slTo1 (cs : List Nat) : Txt.slice ⟨cs.toArray⟩ none (some 1) = ⟨(cs.take 1).toArray⟩ := by
  cases cs with
  | nil =>
    have h := (fact_slice_ns ⟨[].toArray⟩ 1).2 (by show (0 : Int) ≤ 1; omega)
    have h' : (Txt.slice ⟨[].toArray⟩ none (some 1)).cps.size = 0 := by
      have e : ((Txt.slice ⟨[].toArray⟩ none (some 1)).length : Int) = 0 := h
      exact Int.ofNat.inj e
    apply Str.ext'
    exact Array.eq_empty_of_size_eq_zero h'
  | cons c r =>
    have h := eq_of_beq (slice_closes_toL (x := ⟨(c :: r).toArray⟩) (j := 1) (by omega) (by show (1 : Int) ≤ ((c :: r).toArray.size : Nat); simp; omega))
    rw [h]
    rfl
theorem slFrom (cs : List Nat) (k : Nat) : Txt.slice ⟨cs.toArray⟩ (some (k : Int)) none = ⟨(cs.drop k).toArray⟩ := by
  by_cases h : k ≤ cs.length
  · rw [slice_from_eq (b := (cs.length : Int)) (by omega) (by show (k : Int) ≤ (cs.toArray.size : Nat); simp; omega) (by show (cs.length : Int) = (cs.toArray.size : Nat); simp)]
    congr 2
    have e : ((cs.length : Int) - (k : Int)).toNat = cs.length - k := by omega
    rw [e]
    show (cs.drop k).take (cs.length - k) = _
    rw [List.take_of_length_le (by simp)]
  · rw [slice_beyond (by show ((cs.toArray.size : Nat) : Int) ≤ k; simp; omega), List.drop_eq_nil_of_le (by omega)]
    rfl
section
variable {w : World} {A : Around} {env : Env} {g : Heap} {L : Addr} {m : Mp} {s : Shared} {news : Led} {Q : Value → Shared → Prop}
theorem goSliceTo {value up : Expr} {sp pos : Pos} {j : Int}
    (h : Go w A (eval value env) (fun o s1 => ∃ x t, o = .str x t ∧ x.length ≤ 100000 ∧ EvI w A env s1.heap up j ∧ ∀ t' h' tk, Grow s1.heap h' → Q (.str (Txt.slice x none (some j)) t') { s1 with heap := h', toks := tk }) s)
    (hs : ∀ x t i, subscripted (.Slice none (some up) none sp) false (.str x t) (.ref i) = operate [.ref i, .str x t] (getItem (.str x t) (.ref i)) := by intro _ _ _; with_unfolding_all rfl)
    (ht : ∀ x t r, letTemporaryGo value (.str x t) r = pure () := by intro _ _ _; with_unfolding_all rfl) :
    Go w A (eval (.Subscript value (.Slice none (some up) none sp) pos) env) Q s := by
  refine ⟨Subscript_ (wpAny_mono h.run (fun o s1 z => ?_) fun _ _ z => z)⟩
  obtain ⟨x, t, rfl, hsz, e2, k⟩ := z
  refine wpAny_Slice (evalPart_none_step (evalPart_some_step (e2.run s1 _ _ rfl fun v tk hp => evalPart_none_step ?_)))
  obtain ⟨tj, rfl⟩ := hp
  exact tail_of_ItemOn (SBH.sliceItem_ns (s := { s1 with toks := tk }) (P := fun h' => Grow s1.heap h') (fun h ob a b o e => Heap.get?_push_of_some _ (a b o e)) (fun _ _ e => e) (fun h' t' k' a => k t' h' k' a) (Nat.le_trans hsz (by decide))) (hs _ _ _) (ht _ _)
theorem goSliceFrom {value lo : Expr} {sp pos : Pos} {j : Int}
    (h : Go w A (eval value env) (fun o s1 => ∃ x t, o = .str x t ∧ x.length ≤ 100000 ∧ EvI w A env s1.heap lo j ∧ ∀ t' h' tk, Grow s1.heap h' → Q (.str (Txt.slice x (some j) none) t') { s1 with heap := h', toks := tk }) s)
    (hs : ∀ x t i, subscripted (.Slice (some lo) none none sp) false (.str x t) (.ref i) = operate [.ref i, .str x t] (getItem (.str x t) (.ref i)) := by intro _ _ _; with_unfolding_all rfl)
    (ht : ∀ x t r, letTemporaryGo value (.str x t) r = pure () := by intro _ _ _; with_unfolding_all rfl) :
    Go w A (eval (.Subscript value (.Slice (some lo) none none sp) pos) env) Q s := by
  refine ⟨Subscript_ (wpAny_mono h.run (fun o s1 z => ?_) fun _ _ z => z)⟩
  obtain ⟨x, t, rfl, hsz, e2, k⟩ := z
  refine wpAny_Slice (evalPart_some_step (e2.run s1 _ _ rfl fun v tk hp => evalPart_none_step (evalPart_none_step ?_)))
  obtain ⟨tj, rfl⟩ := hp
  exact tail_of_ItemOn (SBH.sliceItem_sn (s := { s1 with toks := tk }) (P := fun h' => Grow s1.heap h') (fun h ob a b o e => Heap.get?_push_of_some _ (a b o e)) (fun _ _ e => e) (fun h' t' k' a => k t' h' k' a) (Nat.le_trans hsz (by decide))) (hs _ _ _) (ht _ _)

/-- one comparison as a test, its left side of any kind -/
theorem goIfCmp {l r e e' : Expr} {op : CmpOp} {pos pos' : Pos}
    (h : Go w A (eval l env) (fun u s1 => Go w A (eval r env) (fun v s2 => Go w A (compareOp op u v) (fun b s3 => ∃ c, b = .bool c ∧ (c = true → Go w A (eval e env) Q s3) ∧ (c = false → Go w A (eval e' env) Q s3)) s2) s1) s)
    (hm : behindInMarks op r = false := by with_unfolding_all rfl) : Go w A (eval (.IfExp (.Compare l [op] [r] pos) e e' pos') env) Q s := by
  refine ⟨IfExp_ (wpAny_isTrue_Compare1 (wpAny_mono h.run (fun u s1 h1 => wpAny_mono h1.run (fun v s2 h2 => wpAny_mono h2.run (fun b s3 h3 => ?_) fun _ _ z => z) fun _ _ z => z) fun _ _ z => z) hm)⟩
  obtain ⟨c, rfl, h1, h2⟩ := h3
  refine wpAny_truthy_bool ?_
  cases c with
  | true => exact (h1 rfl).run
  | false => exact (h2 rfl).run
end
end Mine
end

-- Hd
section
open PySem PySem.W PyProof.Rows PySem.Calls PySem.Builtin PySem.Builtin.Str
set_option Elab.async false
set_option maxRecDepth 100000
set_option linter.all false
namespace Mine
def unst (k : Nat) (row : List Nat) : List Nat := if row.take 1 == [46] then row.drop k else row
def stuff (k : Nat) (row : List Nat) : List Nat := if row.take 1 == [46] then List.replicate k 46 ++ row else row
abbrev sv (l : List (List Nat × Tok)) : List Value := l.map fun p => .str ⟨p.1.toArray⟩ p.2
theorem str_eta (x : Str) : (⟨x.cps.toList.toArray⟩ : Str) = x := by cases x; simp
theorem sv_of (l : List (Str × Tok)) : ∃ l', strValues l = sv l' ∧ l'.map (·.1) = l.map fun p => p.1.cps.toList := by
  refine ⟨l.map fun p => (p.1.cps.toList, p.2), ?_, ?_⟩
  · unfold strValues sv
    rw [List.map_map]
    exact List.map_congr_left fun p _ => by show _ = Value.str ⟨p.1.cps.toList.toArray⟩ p.2; rw [str_eta]
  · rw [List.map_map]; rfl
theorem hd1_len {c n : Nat} : ∀ {l : List (List Nat)}, (∀ p ∈ l, p.length ≤ n) → ∀ p ∈ hd1 c l, p.length ≤ n + 1
  | [], _, p, hp => by rw [List.mem_singleton.mp hp]; simp
  | q :: r, h, p, hp => by
    rcases List.mem_cons.mp hp with rfl | hp
    · have := h q (.head _); simp; exact this
    · have := h p (.tail _ hp); omega
theorem cut2_len : ∀ (l : List Nat), ∀ p ∈ cut2 l, p.length ≤ l.length
  | [], p, hp => by rw [List.mem_singleton.mp hp]; exact Nat.le_refl _
  | [c], p, hp => by rw [List.mem_singleton.mp hp]; exact Nat.le_refl _
  | c :: d :: l, p, hp => by
    have h1 := cut2_len l
    have h2 := cut2_len (d :: l)
    rw [cut2_3] at hp
    split at hp
    · rcases List.mem_cons.mp hp with rfl | hp
      · exact Nat.zero_le _
      · have := h1 p hp; simp only [List.length_cons]; omega
    · have := hd1_len h2 p hp; simpa using this
theorem cut1_len (s : Nat) : ∀ (l : List Nat), ∀ p ∈ cut1 s l, p.length ≤ l.length
  | [], p, hp => by rw [List.mem_singleton.mp hp]; exact Nat.le_refl _
  | c :: l, p, hp => by
    have h1 := cut1_len s l
    rw [cut1_2] at hp
    split at hp
    · rcases List.mem_cons.mp hp with rfl | hp
      · exact Nat.zero_le _
      · have := h1 p hp; simp only [List.length_cons]; omega
    · have := hd1_len h1 p hp; simpa using this
theorem vals_eq {vs xs : List Value} (h1 : vs.length = xs.length) (h2 : ∀ (j : Nat) v, vs[j]? = some v → xs[j]? = some v) : vs = xs := by
  apply List.ext_getElem? 
  intro j
  cases e : vs[j]? with
  | some v => exact (h2 j v e).symm
  | none =>
    rw [List.getElem?_eq_none_iff] at e
    exact (List.getElem?_eq_none_iff.mpr (by omega)).symm
theorem sv_mem {l : List (List Nat × Tok)} {i : Nat} {v : Value} (h : (sv l)[i]? = some v) : ∃ p ∈ l, v = .str ⟨p.1.toArray⟩ p.2 := by
  unfold sv at h
  rw [List.getElem?_map] at h
  cases e : l[i]? with
  | none => rw [e] at h; cases h
  | some p => rw [e] at h; cases h; exact ⟨p, List.mem_of_getElem? e, rfl⟩
theorem hd1_num (c : Nat) : ∀ (l : List (List Nat)), (hd1 c l).length ≤ max 1 l.length
  | [] => Nat.le_max_left ..
  | _ :: _ => Nat.le_max_right ..
theorem cut2_num : ∀ (l : List Nat), (cut2 l).length ≤ l.length + 1
  | [] => Nat.le_refl _
  | [c] => by show 1 ≤ 2; omega
  | c :: d :: l => by
    have h1 := cut2_num l
    have h2 := cut2_num (d :: l)
    have h3 := hd1_num c (cut2 (d :: l))
    rw [cut2_3]
    split
    · simp only [List.length_cons]; omega
    · simp only [List.length_cons] at *; omega
theorem cut1_num (s : Nat) : ∀ (l : List Nat), (cut1 s l).length ≤ l.length + 1
  | [] => Nat.le_refl _
  | c :: l => by
    have h1 := cut1_num s l
    have h3 := hd1_num c (cut1 s l)
    rw [cut1_2]
    split
    · simp only [List.length_cons]; omega
    · simp only [List.length_cons]; omega
theorem filter_all {α : Type} (l : List α) : l.filter (fun _ => true) = l := by simp
/-- rows by a function on texts -/
theorem paired_strs {f : List Nat → List Nat} : ∀ {l : List (List Nat × Tok)} {ys : List Value}, Paired (fun v y => ∀ c t, v = .str ⟨c.toArray⟩ t → ∃ t', y = .str ⟨(f c).toArray⟩ t') (sv l) ys → ∃ l', ys = sv l' ∧ l'.map (·.1) = (l.map (·.1)).map f
  | [], _, .nil => ⟨[], rfl, rfl⟩
  | p :: l, _, .cons h hr => by
    obtain ⟨l', rfl, e⟩ := paired_strs hr
    obtain ⟨t', rfl⟩ := h p.1 p.2 rfl
    exact ⟨(f p.1, t') :: l', rfl, by rw [List.map_cons, e]; rfl⟩

section
variable {w : World} {A : Around} {env : Env} {g : Heap} {L : Addr} {m : Mp} {s : Shared} {news : Led} {Q : Value → Shared → Prop}
theorem Keeps.of {s : Shared} {h' : Heap} {tk : Nat} (h : Grow s.heap h') : Keeps s { s with heap := h', toks := tk } := ⟨h', tk, rfl, h⟩

set_option maxHeartbeats 2000000 in
theorem heard_spec {cs : List Nat} {t tt : Tok} {k : Nat} (hlen : cs.length ≤ 2000) (H : Here w A env g L) (F : Fr g L s.heap m) (N : News g L s.heap news) (R : Room A 1)
    (h : ∀ D l c h' tk, l.map (·.1) = (cut2 cs).map (unst k) → Fr g L h' m → News g L h' ((D, listOf (sv l).toArray c) :: news) → (∀ p ∈ news, p.1 ≠ D) → Q (.ref D) { s with heap := h', toks := tk }) :
    Go w A (call (.ref 102) [.str ⟨cs.toArray⟩ t, .int (k : Int) tt]) Q s := by
  refine' enterC (d := 0) (binds := [(Str.ofString "mail", .str ⟨cs.toArray⟩ t), (Str.ofString "times", .int (k : Int) tt)]) H F N R ?ho ?hcd ?hb ?hl ?nd ?c1 ?c2 ?c3 ?_
  case ho => exact rfl
  case hcd => exact rfl
  case hb => exact rfl
  case hl => exact rfl
  case nd => decide +kernel
  case c1 => exact rfl
  case c2 => exact rfl
  case c3 => exact rfl
  intro g' L' h₁ A' tk cells H' F' N' Y R' lt
  obtain ⟨o1, rfl, d1⟩ := CellsAre.one Y
  clear Y
  refine exRetE (goComp (g := g') (L := L') (cl := [(Str.ofString "times", L' + 1)]) (fun _ => true) (fun v y => ∀ c t, v = .str ⟨c.toArray⟩ t → ∃ t', y = .str ⟨(unst k c).toArray⟩ t') rfl (by decide) rfl (by decide) rfl ?_)
  refine goSplit (by decide) (Ev.go (evName F' rfl isS) fun v tk1 hv => ?_)
  obtain ⟨t1, rfl⟩ := hv
  refine ⟨_, t1, rfl, (by show cs.toArray.size ≤ _; rw [List.size_toArray]; omega), fun l tk2 hl => ?_⟩
  obtain ⟨l', el, el'⟩ := sv_of l
  have hl' : l'.map (·.1) = cut2 cs := by
    have e3 : l.map (·.1) = Txt.split ⟨cs.toArray⟩ ⟨#[13, 10]⟩ := hl
    have := congrArg (List.map fun (x : Str) => x.cps.toList) e3
    rw [List.map_map, split2_eq] at this
    rw [el']
    exact this
  rw [el]
  have hrow : ∀ p ∈ l', p.1.length ≤ 2000 := fun p hp => by
    have := cut2_len cs p.1 (by rw [← hl']; exact List.mem_map_of_mem hp)
    omega
  have hn : l'.length ≤ 2001 := by
    have := congrArg List.length hl'
    rw [List.length_map] at this
    rw [this]
    exact Nat.le_trans (cut2_num cs) (by omega)
  refine readyList (s := { s with heap := h₁.push (listOf (sv l').toArray 0), toks := tk2 }) (z := 0) H'.hh (F'.push _) (N'.push F' _) (.head _) fun it h2 rd => ?_
  refine ⟨h2, tk2, _, _, _, _, _, rfl, rd, (fun p hp => by rw [List.mem_singleton.mp hp]; exact .head _), (by rw [List.length_map]; omega), ?_, ?_, ?_⟩
  · intro C i v s3 m3 hC hP hns hm F3 N3
    exact ⟨wpAny_pure ⟨rfl, s3.heap, s3.toks, rfl, fun _ _ e => e⟩⟩
  · intro C i v s3 m3 hC hP _ hns hm F3 N3
    obtain ⟨p, hp, rfl⟩ := sv_mem hP
    have hpl := hrow p hp
    refine goIfCmp (goSliceTo (j := 1) (Ev.go (evNameC hns hm isS) fun v1 tk1 hv1 => ?_))
    obtain ⟨t1, rfl⟩ := hv1
    refine ⟨_, t1, rfl, (by show p.1.toArray.size ≤ _; rw [List.size_toArray]; omega), evInt, fun t2 h4 tk4 g4 => ?_⟩
    rw [slTo1]
    refine Ev.go evStr fun v2 tk5 hv2 => ?_
    obtain ⟨t3, rfl⟩ := hv2
    refine ⟨P.eq_str ⟨_, rfl, fun hc => ?_, fun hc => ?_⟩⟩
    · have hns4 : h4.Ns C m3 := hns.at' fun o e => g4 _ o e
      have N4 : News g' L' h4 _ := N3.grown g4
      refine goSliceFrom (j := (k : Int)) (Ev.go (s := { s3 with heap := h4, toks := tk5 }) (evNameC hns4 hm isS) fun v1 tk6 hv1 => ?_)
      obtain ⟨t4, rfl⟩ := hv1
      refine ⟨_, t4, rfl, (by show p.1.toArray.size ≤ _; rw [List.size_toArray]; omega), evCellC (P := IsI (k : Int)) (v := .int (k : Int) tt) N4 (c := L' + 1) (o := o1) rfl (.tail _ (.head _)) d1 isI rfl, fun t5 h6 tk6 g6 => ⟨?_, Keeps.of fun b o e => g6 b o (g4 b o e)⟩⟩
      intro c t' e
      cases e
      rw [slFrom]
      refine ⟨t5, ?_⟩
      have : unst k p.1 = p.1.drop k := by
        unfold unst
        rw [if_pos]
        exact hc
      rw [this]
    · have hns4 : h4.Ns C m3 := hns.at' fun o e => g4 _ o e
      refine Ev.go (s := { s3 with heap := h4, toks := tk5 }) (evNameC hns4 hm isS) fun v1 tk6 hv1 => ?_
      obtain ⟨t4, rfl⟩ := hv1
      refine ⟨?_, Keeps.of g4⟩
      intro c t' e
      cases e
      refine ⟨t4, ?_⟩
      have : unst k p.1 = p.1 := by
        unfold unst
        rw [if_neg]
        intro q
        have hc' : ((p.1.take 1) == [46]) = false := hc
        rw [hc'] at q
        cases q
      rw [this]
  · intro D h' tk3 ys c vs hlen' hP hF F3 N3 hne
    have ev := vals_eq hlen' hP
    subst ev
    rw [filter_all] at hF
    obtain ⟨l2, rfl, e2⟩ := paired_strs hF
    refine Lv.mk' F3 N3 fun F4 N4 => h D l2 c h' tk3 (by rw [e2, hl']) F4 (fun q hq => N4 q ?_) fun q hq => hne q (.tail _ (.tail _ hq))
    rcases List.mem_cons.mp hq with rfl | hq
    · exact .head _
    · exact .tail _ (.tail _ (.tail _ hq))
end
end Mine
end

-- Dv
section
open PySem PySem.W PyProof.Rows PySem.Calls
set_option Elab.async false
set_option maxRecDepth 100000
set_option linter.all false
namespace Mine

/-- what a call of _div2n1n gives -/
def D2Spec (w : World) (lev : Nat) : Prop :=
  ∀ (A : Around) (env : Env) (g : Heap) (L : Addr) (m : Mp) (s : Shared) (news : Led) (Q : Value → Shared → Prop) (a b : Int) (k : Nat) (t1 t2 t3 : Tok),
    Here w A env g L → Fr g L s.heap m → News g L s.heap news → Room A (2 * lev + 1) → 1 ≤ k → k ≤ 4000 * 2 ^ lev → 2 ^ (k - 1) ≤ b → b < 2 ^ k → 0 ≤ a → a < b * 2 ^ k →
    (∀ p t t' h' tk, Fr g L h' m → News g L h' ((p, tupObj [.int (a / b) t, .int (a % b) t']) :: news) → (∀ q ∈ news, q.1 < p) → Q (.ref p) { s with heap := h', toks := tk }) →
    Go w A (call (.ref 55) [.int a t1, .int b t2, .int (k : Int) t3]) Q s

theorem d3_spec {w : World} {lev : Nat} (hlev : lev ≤ 8) (D2 : D2Spec w lev) {A : Around} {env : Env} {g : Heap} {L : Addr} {m : Mp} {s : Shared} {news : Led} {Q : Value → Shared → Prop} {a12 a3 b b1 b2 : Int} {k : Nat} {t1 t2 t3 t4 t5 t6 : Tok}
    (H : Here w A env g L) (F : Fr g L s.heap m) (N : News g L s.heap news) (R : Room A (2 * lev + 2)) (hk1 : 1 ≤ k) (hk : k ≤ 4000 * 2 ^ lev)
    (hb1 : 2 ^ (k - 1) ≤ b1) (hb1' : b1 < 2 ^ k) (hb2 : 0 ≤ b2) (hb2' : b2 < 2 ^ k) (hb : b = b1 * 2 ^ k + b2) (ha3 : 0 ≤ a3) (ha3' : a3 < 2 ^ k) (ha12 : 0 ≤ a12) (ha : a12 * 2 ^ k + a3 < b * 2 ^ k)
    (hret : ∀ p t t' h' tk, Fr g L h' m → News g L h' ((p, tupObj [.int ((a12 * 2 ^ k + a3) / b) t, .int ((a12 * 2 ^ k + a3) % b) t']) :: news) → (∀ q ∈ news, q.1 < p) → Q (.ref p) { s with heap := h', toks := tk }) :
    Go w A (call (.ref 62) [.int a12 t1, .int a3 t2, .int b t3, .int b1 t4, .int b2 t5, .int (k : Int) t6]) Q s := by
  have hB := pow_pos' k
  have hB1 := pow_pos' (k - 1)
  have hkk : k ≤ 1024000 := Nat.le_trans hk (by have := Nat.pow_le_pow_right (n := 2) (by decide) hlev; omega)
  have hcase := d3_case (a12 := a12) (b := b) (b1 := b1) (b2 := b2) (a3 := a3) hB (by omega) ⟨hb2, hb2'⟩ hb ha3 ha ha12
  have hb0 : 0 < b := by
    have : 0 < b1 * 2 ^ k := Int.mul_pos (by omega) hB
    omega
  have ha12b : a12 < b := Int.lt_of_mul_lt_mul_right (a := 2 ^ k) (by omega) (by omega)
  have hbb : b < 2 ^ (k + k) := by
    have h1 : b1 * 2 ^ k ≤ (2 ^ k - 1) * 2 ^ k := Int.mul_le_mul_of_nonneg_right (by omega) (by omega)
    rw [Int.sub_mul, Int.one_mul] at h1
    rw [Int.pow_add]; omega
  refine' enter (d := 2 * lev + 1) (binds := [(Str.ofString "a12", .int a12 t1), (Str.ofString "a3", .int a3 t2), (Str.ofString "b", .int b t3), (Str.ofString "b1", .int b1 t4), (Str.ofString "b2", .int b2 t5), (Str.ofString "n", .int (k : Int) t6)]) H F N R ?ho ?hcd ?hb ?hl ?c1 ?c2 ?c3 ?c4 ?_
  case ho => exact rfl
  case hcd => exact rfl
  case hb => exact rfl
  case hl => exact rfl
  case c1 => exact rfl
  case c2 => exact rfl
  case c3 => exact rfl
  case c4 => decide
  clear H F N R
  intro g' L' h₁ A' tk H F N R lt
  -- the first step: q, r with q * b1 + r = a12
  refine exIfJoin (J := fun s' => ∃ q r t t' m' h' tk, s' = { s with heap := h', toks := tk } ∧ Fr g' L' h' m' ∧ News g' L' h' news ∧ m' (Str.ofString "q") = some (.int q t) ∧ m' (Str.ofString "r") = some (.int r t') ∧
      m' (Str.ofString "a3") = some (.int a3 t2) ∧ m' (Str.ofString "b") = some (.int b t3) ∧ m' (Str.ofString "b2") = some (.int b2 t5) ∧ m' (Str.ofString "n") = some (.int (k : Int) t6) ∧
      q * b1 + r = a12 ∧ 0 ≤ q ∧ q < 2 ^ (k + k) ∧ 0 ≤ r ∧ ((q = 2 ^ k - 1 ∧ r = a12 - b1 * 2 ^ k + b1) ∨ r < b1))
    (evEq (evShrN (evName F rfl isI) (evName F rfl isI)) (evName F rfl isI)) ?_ ?_ ?_
  · intro hc tk1
    have hc' : a12 / 2 ^ k = b1 := eq_of_beq hc
    obtain ⟨h1, h2⟩ := hcase.1 hc'
    refine exPair H F N (evSub (evShlN evInt (evName F rfl isI) (by show 1 + k ≤ _; omega)) evInt) (evAdd (evSub (evName F rfl isI) (evShlN (evName F rfl isI) (evName F rfl isI) ?_)) (evName F rfl isI)) ?_
    · have := bits_of (by omega) hb1'
      omega
    · rintro v1 v2 h' tk2 ⟨t, rfl⟩ ⟨t', rfl⟩ F' N'
      refine exNil ⟨rfl, _, _, t, t', _, h', tk2, rfl, F', N', rfl, rfl, rfl, rfl, rfl, rfl, ?_, ?_, ?_, ?_, .inl ⟨?_, rfl⟩⟩
      · rw [Int.one_mul]; exact h2
      · omega
      · rw [Int.one_mul, Int.pow_add]
        have : (2 : Int) ^ k * 1 ≤ 2 ^ k * 2 ^ k := Int.mul_le_mul_of_nonneg_left (by omega) (by omega)
        omega
      · exact h1
      · rw [Int.one_mul]
  · intro hc tk1
    have hc' : a12 / 2 ^ k ≠ b1 := fun e => by rw [e] at hc; simp at hc
    have h1 := hcase.2 hc'
    refine exPairE H (callName H F rfl rfl (Ps := [IsI a12, IsI b1, IsI (k : Int)]) ⟨evName F rfl isI, rfl, evName F rfl isI, rfl, evName F rfl isI, rfl, trivial⟩ ?_)
    intro vs tk2 hvs
    obtain ⟨v1, v2, v3, rfl, ⟨u1, rfl⟩, ⟨u2, rfl⟩, ⟨u3, rfl⟩⟩ := allV3 hvs
    refine D2 A' _ g' L' _ _ news _ a12 b1 k u1 u2 u3 H F N R hk1 hk hb1 hb1' ha12 h1 ?_
    intro p t t' h' tk3 F' N' lt'
    refine ⟨p, _, _, _, news, rfl, News.isTup N' (.head _), F', fun q hq => N' q (.tail _ hq), ?_⟩
    intro h2 tk4 F2 N2
    refine exNil ⟨rfl, _, _, t, t', _, h2, tk4, rfl, F2, N2, rfl, rfl, rfl, rfl, rfl, rfl, ?_, ?_, ?_, ?_, .inr ?_⟩
    · have := Int.mul_ediv_add_emod a12 b1
      rw [Int.mul_comm] at this; exact this
    · exact Int.ediv_nonneg ha12 (by omega)
    · exact Int.lt_of_le_of_lt (Int.ediv_le_self _ ha12) (by omega)
    · exact Int.emod_nonneg _ (by omega)
    · exact Int.emod_lt_of_pos _ (by omega)
  · rintro s' ⟨q, r, t, t', m', h', tk', rfl, F', N', hmq, hmr, hma3, hmb, hmb2, hmn, e1, hq, hq', hr, hc⟩
    have hst := d3_start hB (by omega) ⟨hb2, hb2'⟩ hb ⟨ha3, ha3'⟩ ha ha12 e1 hq hr hc
    have hr' : r < 2 ^ (k + k + 1) := by
      have h3 : (2 : Int) ^ (k + k + 1) = 2 ^ (k + k) * 2 := Int.pow_succ _ _
      rcases hc with ⟨_, h2⟩ | h2
      · have h4 : b1 ≤ b1 * 2 ^ k := by
          have := Int.mul_le_mul_of_nonneg_left (a := 1) (b := 2 ^ k) (c := b1) (by omega) (by omega)
          omega
        omega
      · have : (2:Int) ^ k ≤ 2 ^ (k + k) := by
          rw [Int.pow_add]
          have := Int.mul_le_mul_of_nonneg_left (a := 1) (b := 2 ^ k) (c := (2 : Int) ^ k) (by omega) (by omega)
          omega
        omega
    have bq := bits_of hq hq'
    have bb2 := bits_of hb2 hb2'
    have br := bits_of hr hr'
    have eor : Builtin.bitOr (r * 2 ^ k) a3 = r * 2 ^ k + a3 := bitOr_low hr ha3 ha3'
    refine exAsgI (i := r * 2 ^ k + a3 - q * b2) F' N' (by
      rw [← eor]
      exact evSub (evOr (evShlN (evName F' hmr isI) (evName F' hmn isI) (by omega)) (evName F' hma3 isI)) (evMul (evName F' hmq isI) (evName F' hmb2 isI) (mulOk (by omega)))) ?_
    intro t2 h2 tk2 F2 N2
    clear hcase bq br hr' eor
    refine exWhile (fun n s' => ∃ q r t t' m' h' tk, s' = { s with heap := h', toks := tk } ∧ Fr g' L' h' m' ∧ News g' L' h' news ∧ m' (Str.ofString "q") = some (.int q t) ∧ m' (Str.ofString "r") = some (.int r t') ∧
      m' (Str.ofString "b") = some (.int b t3) ∧ q * b + r = a12 * 2 ^ k + a3 ∧ r < b ∧ n = (-r).toNat) ?_ _ ⟨q, _, t, t2, _, h2, tk2, rfl, F2, N2, hmq, rfl, hmb, hst.1, hst.2, rfl⟩
    rintro n s' ⟨q, r, t, t', m', h', tk', rfl, F', N', hmq, hmr, hmb, e1, e2, rfl⟩
    refine ⟨_, evLt (evName F' hmr isI) evInt, ?_, ?_⟩
    · intro hlt tk3
      have hlt' : r < 0 := of_decide_eq_true hlt
      refine exAugSub F' N' hmq evInt fun u1 h3 tk4 F3 N3 => ?_
      refine exAugAdd F3 N3 hmr (evName F3 hmb isI) fun u2 h4 tk5 F4 N4 => ?_
      refine exNil ⟨rfl, _, ?_, _, _, u1, u2, _, h4, tk5, rfl, F4, N4, rfl, rfl, hmb, ?_, ?_, rfl⟩
      · omega
      · rw [Int.sub_mul]; omega
      · omega
    · intro hge tk3
      have hge' : 0 ≤ r := by have := of_decide_eq_false hge; omega
      obtain ⟨f1, f2⟩ := qr_unique hb0 e1 hge' e2
      refine exRetPair F' N' (evName F' hmq isI) (evName F' hmr isI) ?_
      rintro v1 v2 p h5 tk6 ⟨w1, rfl⟩ ⟨w2, rfl⟩ F5 N5 lt5
      rw [f1, f2] at N5
      exact Lv.mk' F5 N5 fun FF NN => hret p w1 w2 h5 tk6 FF NN lt5
end Mine
namespace Mine
theorem d2_base {w : World} {A : Around} {g : Heap} {L : Addr} {m : Mp} {s : Shared} {news : Led} {Q : Value → Shared → Prop} {cn : Str} {cs : Scope} {ac : Addr} {ccd : Value} {cl : List (Str × Addr)} {env : Env} {a b : Int} {k : Nat} {t1 t2 : Tok} {p p1 p2 pos : Pos}
    (H : Here w A env g L) (F : Fr g L s.heap m) (N : News g L s.heap news) (hma : m (Str.ofString "a") = some (.int a t1)) (hmb : m (Str.ofString "b") = some (.int b t2))
    (hk : 1 ≤ k) (hb : 2 ^ (k - 1) ≤ b) (hb' : b < 2 ^ k) (ha : (Builtin.Int.intBits a : Int) - k ≤ 4000)
    (h : ∀ p t t' h' tk, Fr g L h' m → News g L h' ((p, tupObj [.int (a / b) t, .int (a % b) t']) :: news) → (∀ q ∈ news, q.1 < p) → Q (.ref p) { s with heap := h', toks := tk })
    (e1 : cs.kind = .function) (e2 : (envX cn cs L ac ccd cl).kindOf (Str.ofString "divmod") = some .globalImplicit) (e3 : (envX cn cs L ac ccd cl).kindOf (Str.ofString "a") = some .local) (e4 : (envX cn cs L ac ccd cl).kindOf (Str.ofString "b") = some .local) :
    Go w A (eval (.Call (.Name (Str.ofString "divmod") p) [.Name (Str.ofString "a") p1, .Name (Str.ofString "b") p2] [] pos) (envX cn cs L ac ccd cl)) Q s := by
  have hB1 := pow_pos' (k - 1)
  refine callBoot H F rfl boot_divmod (Ps := [IsI a, IsI b]) ⟨evName F hma isI e1 e3, rfl, evName F hmb isI e1 e4, rfl, trivial⟩ ?_ (hk := e1) (hx := e2)
  intro vs tk hvs
  obtain ⟨v1, v2, rfl, ⟨u1, rfl⟩, ⟨u2, rfl⟩⟩ := allV2 hvs
  refine ⟨divmod_N (s := { s with toks := tk }) F N (by omega) (fun h' F' N' => ?_) (.inl (noPylong hk hb hb' ha))⟩
  rw [fdiv_pos (by omega), fmod_pos (by omega)] at N'
  exact h _ _ _ h' _ F' N' fun q hq => Heap.lt_size (N q hq).1

theorem d2_spec {w : World} : ∀ lev, lev ≤ 8 → D2Spec w lev := by
  intro lev
  induction lev with
  | zero =>
    intro hlev A env g L m s news Q a b k t1 t2 t3 H F N R hk1 hk hb hb' ha ha' hret
    have hB1 := pow_pos' (k - 1)
    have hbits : Builtin.Int.intBits a ≤ k + k := bits_of ha (by
      rw [Int.pow_add]
      have := Int.mul_le_mul_of_nonneg_right (a := b) (b := 2 ^ k) (c := 2 ^ k) (by omega) (by omega)
      omega)
    refine' enter (d := 0) (binds := [(Str.ofString "a", .int a t1), (Str.ofString "b", .int b t2), (Str.ofString "n", .int (k : Int) t3)]) H F N R ?ho ?hcd ?hb ?hl ?c1 ?c2 ?c3 ?c4 ?_
    case ho => exact rfl
    case hcd => exact rfl
    case hb => exact rfl
    case hl => exact rfl
    case c1 => exact rfl
    case c2 => exact rfl
    case c3 => exact rfl
    case c4 => decide
    clear H F N R
    intro g' L' h₁ A' tk H F N R lt
    refine exIf (evLe (evSub (evBits (evName F rfl isI) rfl) (evName F rfl isI)) (evGlob H F rfl isI)) ?_ ?_
    · intro _ tk1
      refine exRetE (d2_base H F N rfl rfl hk1 hb hb' (by omega) ?_ rfl rfl rfl rfl)
      intro p t t' h' tk2 F' N' lt'
      exact Lv.mk' F' N' fun FF NN => hret p t t' h' tk2 FF NN lt'
    · intro hc
      exact absurd (of_decide_eq_false hc) (by omega)
  | succ lev ih =>
    intro hlev A env g L m s news Q a b k t1 t2 t3 H F N R hk1 hk hb hb' ha ha' hret
    have D2 := ih (by omega)
    have hB1 := pow_pos' (k - 1)
    have hkk : k ≤ 1024000 := Nat.le_trans hk (by have := Nat.pow_le_pow_right (n := 2) (by decide) hlev; omega)
    have h2l : 2 ^ (lev + 1) = 2 ^ lev * 2 := Nat.pow_succ ..
    have ha2 : a < 2 ^ (k + k) := by
      rw [Int.pow_add]
      have := Int.mul_le_mul_of_nonneg_right (a := b) (b := 2 ^ k) (c := 2 ^ k) (by omega) (by omega)
      omega
    refine' enter (d := 2 * lev + 2) (binds := [(Str.ofString "a", .int a t1), (Str.ofString "b", .int b t2), (Str.ofString "n", .int (k : Int) t3)]) H F N R ?ho ?hcd ?hb ?hl ?c1 ?c2 ?c3 ?c4 ?_
    case ho => exact rfl
    case hcd => exact rfl
    case hb => exact rfl
    case hl => exact rfl
    case c1 => exact rfl
    case c2 => exact rfl
    case c3 => exact rfl
    case c4 => decide
    clear H F N R
    intro g' L' h₁ A' tk H F N R lt
    refine exIf (evLe (evSub (evBits (evName F rfl isI) rfl) (evName F rfl isI)) (evGlob H F rfl isI)) ?_ ?_
    · intro hc tk1
      have hc' := of_decide_eq_true hc
      refine exRetE (d2_base H F N rfl rfl hk1 hb hb' (by omega) ?_ rfl rfl rfl rfl)
      intro p t t' h' tk2 F' N' lt'
      exact Lv.mk' F' N' fun FF NN => hret p t t' h' tk2 FF NN lt'
    intro _ tk1
    refine exNil ?_
    refine exAsgI (i := ((k % 2 : Nat) : Int)) F N (by
      rw [show ((k % 2 : Nat) : Int) = Builtin.bitAnd (k : Int) 1 by rw [bitAnd_m1]; omega]
      exact evAnd (evName F rfl isI) evInt) ?_
    intro tp h2 tk2 F2 N2
    refine exIfJoin (J := fun s' => ∃ (a' b' : Int) (j : Nat) (ta tb tn : Tok) (m' : Mp) (h' : Heap) (tk : Nat), s' = { s with heap := h', toks := tk } ∧ Fr g' L' h' m' ∧ News g' L' h' news ∧ m' (Str.ofString "a") = some (.int a' ta) ∧ m' (Str.ofString "b") = some (.int b' tb) ∧
        m' (Str.ofString "n") = some (.int ((2 * j : Nat) : Int) tn) ∧ m' (Str.ofString "pad") = some (.int ((k % 2 : Nat) : Int) tp) ∧ 1 ≤ j ∧ j ≤ 4000 * 2 ^ lev ∧ 2 ^ (2 * j - 1) ≤ b' ∧ b' < 2 ^ (2 * j) ∧ 0 ≤ a' ∧ a' < b' * 2 ^ (2 * j) ∧
        a' / b' = a / b ∧ a' % b' = (a % b) * 2 ^ (k % 2))
      (evTruth (evName F2 rfl isI)) ?_ ?_ ?_
    · intro hc tk3
      have hodd : k % 2 = 1 := by
        have : ((k % 2 : Nat) : Int) ≠ 0 := by simpa using hc
        omega
      have hpk : (2 : Int) ^ (k + 1) = 2 ^ k * 2 := Int.pow_succ _ _
      refine exAugShl F2 N2 rfl evInt (by decide) (by have := bits_of ha ha2; omega) fun u1 h3 tk4 F3 N3 => ?_
      refine exAugShl F3 N3 rfl evInt (by decide) (by have := bits_of (by omega) hb'; omega) fun u2 h4 tk5 F4 N4 => ?_
      refine exAugAdd F4 N4 rfl evInt fun u3 h5 tk6 F5 N5 => ?_
      refine exNil ⟨rfl, _, _, (k + 1) / 2, u1, u2, u3, _, h5, tk6, rfl, F5, N5, rfl, rfl, ?_, rfl, ?_, ?_, ?_, ?_, ?_, ?_, ?_, ?_⟩
      · show some (Value.int ((k : Int) + 1) u3) = _
        have : ((k : Int) + 1) = ((2 * ((k + 1) / 2) : Nat) : Int) := by omega
        rw [this]
      · omega
      · omega
      · have : 2 * ((k + 1) / 2) - 1 = (k - 1) + 1 := by omega
        rw [this, Int.pow_succ]
        show (2 : Int) ^ (k - 1) * 2 ≤ b * 2 ^ 1
        omega
      · have : 2 * ((k + 1) / 2) = k + 1 := by omega
        rw [this]
        show b * 2 ^ 1 < _
        omega
      · show 0 ≤ a * 2 ^ 1
        omega
      · have : 2 * ((k + 1) / 2) = k + 1 := by omega
        rw [this, hpk]
        show a * 2 ^ 1 < b * 2 ^ 1 * (2 ^ k * 2)
        have e1 : b * 2 ^ 1 * (2 ^ k * 2) = b * 2 ^ k * 4 := by
          rw [show (2 : Int) ^ 1 = 2 from rfl, Int.mul_assoc b 2, Int.mul_comm 2 (2 ^ k * 2), Int.mul_assoc (2 ^ k), ← Int.mul_assoc]
          rfl
        omega
      · show a * 2 ^ 1 / (b * 2 ^ 1) = a / b
        exact Int.mul_ediv_mul_of_pos_left _ _ (by decide)
      · rw [hodd]
        show a * 2 ^ 1 % (b * 2 ^ 1) = a % b * 2 ^ 1
        rw [Int.mul_comm a, Int.mul_comm b, Int.mul_comm (a % b)]
        exact Int.mul_emod_mul_of_pos _ _ (by decide)
    · intro hc tk3
      have heven : k % 2 = 0 := by
        have : ((k % 2 : Nat) : Int) = 0 := by simpa using hc
        omega
      have hk2 : 2 * (k / 2) = k := by omega
      refine exNil ⟨rfl, a, b, k / 2, t1, t2, t3, _, h2, tk3, rfl, F2, N2, rfl, rfl, ?_, rfl, ?_, ?_, ?_, ?_, ha, ?_, rfl, ?_⟩
      · rw [hk2]; rfl
      · omega
      · omega
      · rw [hk2]; exact hb
      · rw [hk2]; exact hb'
      · rw [hk2]; exact ha'
      · rw [heven]; omega
    · rintro s' ⟨a', b', j, ta, tb, tn, m', h', tk', rfl, F', N', hma, hmb, hmn, hmp, hj1, hj, hbl, hbu, hal, hau, hdiv, hmod⟩
      have hB := pow_pos' j
      have hjj : j ≤ 1024000 := Nat.le_trans hj (by have := Nat.pow_le_pow_right (n := 2) (by decide) (show lev ≤ 8 by omega); omega)
      have hBB : (2 : Int) ^ (2 * j) = 2 ^ j * 2 ^ j := by rw [← Int.pow_add]; congr 1; omega
      obtain ⟨hb1l, hb1u, hb12⟩ := half_bounds hj1 hbl hbu
      have hb0 : 0 < b' := by have := pow_pos' (2 * j - 1); omega
      obtain ⟨p1, p2, p3, p4, p5, p6, p7, p8⟩ := d2_parts (a := a') (b := b') (B := 2 ^ j) hB hb0 hal (by rw [← hBB]; exact hau)
      refine exAsgI (i := (j : Int)) F' N' (by
        rw [show (j : Int) = ((2 * j : Nat) : Int) / 2 ^ 1 by omega]
        exact evShrN (k := 1) (evName F' hmn isI) evInt) fun u1 h3 tk3 F3 N3 => ?_
      refine exAsgI (i := 2 ^ j - 1) F3 N3 (by
        rw [show (2 : Int) ^ j = 1 * 2 ^ j by omega]
        exact evSub (evShlN evInt (evName F3 rfl isI) (by show 1 + j ≤ _; omega)) evInt) fun u2 h4 tk4 F4 N4 => ?_
      refine exPair (P₁ := IsI (b' / 2 ^ j)) (P₂ := IsI (b' % 2 ^ j)) H F4 N4 (evShrN (evName F4 hmb isI) (evName F4 rfl isI)) (by
        rw [← bitAnd_mask (by omega)]
        exact evAnd (evName F4 hmb isI) (evName F4 rfl isI)) ?_
      rintro v1 v2 h5 tk5 ⟨u3, rfl⟩ ⟨u4, rfl⟩ F5 N5
      refine exPairE H (callName H F5 rfl rfl (Ps := [IsI (a' / 2 ^ (2 * j)), IsI (a' / 2 ^ j % 2 ^ j), IsI b', IsI (b' / 2 ^ j), IsI (b' % 2 ^ j), IsI (j : Int)])
        ⟨evShrN (evName F5 hma isI) (evName F5 hmn isI), rfl, ?_, rfl, evName F5 hmb isI, rfl, evName F5 rfl isI, rfl, evName F5 rfl isI, rfl, evName F5 rfl isI, rfl, trivial⟩ ?_)
      · rw [← bitAnd_mask p3]
        exact evAnd (evShrN (evName F5 hma isI) (evName F5 rfl isI)) (evName F5 rfl isI)
      intro vs tk6 hvs
      obtain ⟨w1, w2, w3, w4, w5, w6, rfl, ⟨y1, rfl⟩, ⟨y2, rfl⟩, ⟨y3, rfl⟩, ⟨y4, rfl⟩, ⟨y5, rfl⟩, ⟨y6, rfl⟩⟩ := allV6 hvs
      have hbm1 := Int.emod_nonneg b' (b := 2 ^ j) (by omega)
      have hbm2 := Int.emod_lt_of_pos b' hB
      refine d3_spec (by omega) D2 (s := { s with heap := h5, toks := tk6 }) H F5 N5 R hj1 hj hb1l hb1u hbm1 hbm2 hb12 (Int.emod_nonneg _ (by omega)) (Int.emod_lt_of_pos _ hB) (Int.ediv_nonneg hal (by have := pow_pos' (2 * j); omega)) (by rw [hBB, p1]; exact p2) ?_
      intro p x1 x2 h6 tk7 F6 N6 lt6
      rw [hBB, p1] at N6
      refine ⟨p, _, _, _, news, rfl, News.isTup N6 (.head _), F6, fun q hq => N6 q (.tail _ hq), ?_⟩
      intro h7 tk8 F7 N7
      refine exPairE H (callName H F7 rfl rfl (Ps := [IsI (a' / 2 ^ j % b'), IsI (a' % 2 ^ j), IsI b', IsI (b' / 2 ^ j), IsI (b' % 2 ^ j), IsI (j : Int)])
        ⟨evName F7 rfl isI, rfl, ?_, rfl, evName F7 hmb isI, rfl, evName F7 rfl isI, rfl, evName F7 rfl isI, rfl, evName F7 rfl isI, rfl, trivial⟩ ?_)
      · rw [← bitAnd_mask hal]
        exact evAnd (evName F7 hma isI) (evName F7 rfl isI)
      intro vs tk9 hvs
      obtain ⟨w1, w2, w3, w4, w5, w6, rfl, ⟨y1, rfl⟩, ⟨y2, rfl⟩, ⟨y3, rfl⟩, ⟨y4, rfl⟩, ⟨y5, rfl⟩, ⟨y6, rfl⟩⟩ := allV6 hvs
      refine d3_spec (by omega) D2 (s := { s with heap := h7, toks := tk9 }) H F7 N7 R hj1 hj hb1l hb1u hbm1 hbm2 hb12 (Int.emod_nonneg _ (by omega)) (Int.emod_lt_of_pos _ hB) (Int.emod_nonneg _ (by omega)) p4 ?_
      intro p' x3 x4 h8 tk10 F8 N8 lt8
      refine ⟨p', _, _, _, news, rfl, News.isTup N8 (.head _), F8, fun q hq => N8 q (.tail _ hq), ?_⟩
      intro h9 tk11 F9 N9
      rw [p8, hmod] at F9
      have hq1 : 0 ≤ a' / 2 ^ j / b' := Int.ediv_nonneg p3 (by omega)
      have hq1b : Builtin.Int.intBits (a' / 2 ^ j / b') ≤ 4 * j := bits_of hq1 (by
        have h1 := Int.ediv_le_self b' (a := a' / 2 ^ j) p3
        have h2 : b' * 2 ^ j ≤ 2 ^ (2 * j) * 2 ^ j := Int.mul_le_mul_of_nonneg_right (by omega) (by omega)
        rw [← Int.pow_add] at h2
        have h3 : (2 : Int) ^ (2 * j + j) ≤ 2 ^ (4 * j) := pow_le' (by omega)
        omega)
      refine exIfJoin (J := fun s' => ∃ (tr : Tok) (m' : Mp) (h' : Heap) (tk : Nat), s' = { s with heap := h', toks := tk } ∧ Fr g' L' h' m' ∧ News g' L' h' news ∧ m' (Str.ofString "q1") = some (.int (a' / 2 ^ j / b') x1) ∧ m' (Str.ofString "q2") = some (.int ((a' / 2 ^ j % b' * 2 ^ j + a' % 2 ^ j) / b') x3) ∧
        m' (Str.ofString "half_n") = some (.int (j : Int) u1) ∧ m' (Str.ofString "r") = some (.int (a % b) tr))
        (evTruth (evName F9 hmp isI)) ?_ ?_ ?_
      · intro hc tk12
        have hodd : k % 2 = 1 := by
          have : ((k % 2 : Nat) : Int) ≠ 0 := by simpa using hc
          omega
        refine exAugShr F9 N9 rfl evInt (by decide) fun u5 h10 tk13 F10 N10 => ?_
        refine exNil ⟨rfl, u5, _, h10, tk13, rfl, F10, N10, rfl, rfl, rfl, ?_⟩
        show some (Value.int ((a % b * 2 ^ (k % 2)).fdiv (2 ^ 1)) u5) = _
        rw [hodd, fdiv_pos (by decide), Int.mul_ediv_cancel _ (by decide)]
      · intro hc tk12
        have heven : k % 2 = 0 := by
          have : ((k % 2 : Nat) : Int) = 0 := by simpa using hc
          omega
        refine exNil ⟨rfl, x4, _, h9, tk12, rfl, F9, N9, rfl, rfl, rfl, ?_⟩
        show some (Value.int (a % b * 2 ^ (k % 2)) x4) = _
        rw [heven, Int.pow_zero, Int.mul_one]
      · rintro s' ⟨tr, m2, h10, tk13, rfl, F10, N10, hq1', hq2', hh', hr'⟩
        refine exRetPair (P₁ := IsI (a / b)) (P₂ := IsI (a % b)) F10 N10 (by
          rw [← hdiv, ← p7, ← bitOr_low hq1 p5 p6]
          exact evOr (evShlN (evName F10 hq1' isI) (evName F10 hh' isI) (by omega)) (evName F10 hq2' isI)) (evName F10 hr' isI) ?_
        rintro v1 v2 p5 h11 tk14 ⟨z1, rfl⟩ ⟨z2, rfl⟩ F11 N11 lt11
        exact Lv.mk' F11 N11 fun FF NN => hret p5 z1 z2 h11 tk14 FF NN lt11
end Mine
end

-- Pg
section
set_option linter.all false
namespace Mine
open PySem PySem.W PyProof.Rows

/-- the number of a row of digits, the lowest first -/
def dval (n : Nat) : List Int → Int
  | [] => 0
  | d :: ds => d + 2 ^ n * dval n ds

theorem dval_append (n : Nat) (ys : List Int) : ∀ xs : List Int, dval n (xs ++ ys) = dval n xs + 2 ^ (xs.length * n) * dval n ys
  | [] => by simp [dval]
  | x :: xs => by
    have e : (x :: xs).length * n = n + xs.length * n := by rw [List.length_cons, Nat.add_mul]; omega
    rw [List.cons_append, dval, dval_append n ys xs, dval, e, Int.pow_add, Int.mul_add, ← Int.mul_assoc, Int.add_assoc]

/-- a part of a row of digits -/
def seg (ds : List Int) (lo hi : Nat) : List Int := (ds.drop lo).take (hi - lo)
theorem seg_split {ds : List Int} {lo mid hi : Nat} (h1 : lo ≤ mid) (h2 : mid ≤ hi) : seg ds lo hi = seg ds lo mid ++ seg ds mid hi := by
  unfold seg
  have e : hi - lo = (mid - lo) + (hi - mid) := by omega
  rw [e, List.take_add, List.drop_drop]
  congr 3
  omega
theorem seg_len {ds : List Int} {lo hi : Nat} (h1 : lo ≤ hi) (h2 : hi ≤ ds.length) : (seg ds lo hi).length = hi - lo := by
  unfold seg; simp; omega
theorem seg_one {ds : List Int} {lo : Nat} {d : Int} (h : ds[lo]? = some d) : seg ds lo (lo + 1) = [d] := by
  have hlt : lo < ds.length := by
    rcases Nat.lt_or_ge lo ds.length with h1 | h1
    · exact h1
    · rw [List.getElem?_eq_none h1] at h; cases h
  unfold seg
  rw [Nat.add_sub_cancel_left, List.take_one, List.head?_drop, h]; rfl
theorem seg_all {ds : List Int} : seg ds 0 ds.length = ds := by unfold seg; simp

theorem bits_shl {x : Int} {b k : Nat} (h : Builtin.Int.intBits x ≤ b) : Builtin.Int.intBits (x * 2 ^ k) ≤ b + k := by
  refine intBits_le ?_
  have h1 : x.natAbs < 2 ^ b := Nat.lt_of_lt_of_le (natAbs_lt_pow_bits x) (Nat.pow_le_pow_right (by decide) h)
  have e : ((2 : Int) ^ k).natAbs = 2 ^ k := by
    rw [Int.natAbs_pow]; rfl
  rw [Int.natAbs_mul, e, Nat.pow_add]
  exact Nat.mul_lt_mul_of_pos_right h1 (Nat.two_pow_pos k)

theorem dval_bits {n B : Nat} : ∀ {ds : List Int}, (∀ d ∈ ds, Builtin.Int.intBits d ≤ B) → Builtin.Int.intBits (dval n ds) ≤ B + (n + 1) * ds.length
  | [], _ => by
    show Builtin.Int.intBits 0 ≤ _
    exact Nat.zero_le _
  | d :: ds, h => by
    rw [dval, Int.mul_comm]
    have h1 := h d (.head _)
    have h2 := bits_shl (k := n) (dval_bits (n := n) (B := B) (ds := ds) fun x hx => h x (.tail _ hx))
    have h3 := intBits_add_le h1 h2
    have e : (n + 1) * (d :: ds).length = (n + 1) * ds.length + (n + 1) := by rw [List.length_cons, Nat.mul_add, Nat.mul_one]
    omega
theorem seg_mem {ds : List Int} {lo hi : Nat} {d : Int} (h : d ∈ seg ds lo hi) : d ∈ ds := List.mem_of_mem_drop (List.mem_of_mem_take h)
end Mine
namespace Mine
open PySem PySem.W PyProof.Rows

/-- the k lowest digits of a number -/
def digs (n : Nat) : Nat → Int → List Int
  | 0, _ => []
  | k + 1, x => x % 2 ^ n :: digs n k (x / 2 ^ n)

theorem digs_len {n : Nat} : ∀ {k : Nat} {x : Int}, (digs n k x).length = k
  | 0, _ => rfl
  | k + 1, x => by rw [digs, List.length_cons, digs_len]

theorem digs_append {n : Nat} {k : Nat} : ∀ (j : Nat) (x : Int), digs n (j + k) x = digs n j x ++ digs n k (x / 2 ^ (j * n))
  | 0, x => by simp [digs]
  | j + 1, x => by
    have e : j + 1 + k = (j + k) + 1 := by omega
    rw [e, digs, digs_append j, digs, List.cons_append, Int.ediv_ediv_of_nonneg (Int.le_of_lt (pow_pos' n)), ← Int.pow_add]
    rw [show n + j * n = (j + 1) * n by rw [Nat.add_mul]; omega]

theorem emod_mul_ediv {x a b : Int} (ha : 0 < a) (hb : 0 < b) : x % (a * b) / a = x / a % b := by
  have h0 : 0 < a * b := Int.mul_pos ha hb
  have h1 := Int.mul_ediv_add_emod x (a * b)
  have h2 := Int.emod_nonneg x (b := a * b) (by omega)
  have h3 := Int.emod_lt_of_pos x h0
  have e : x / a = x % (a * b) / a + b * (x / (a * b)) := by
    have : x = x % (a * b) + a * (b * (x / (a * b))) := by rw [← Int.mul_assoc]; omega
    exact (congrArg (· / a) this).trans (Int.add_mul_ediv_left _ _ (by omega))
  rw [e, Int.add_mul_emod_self_left, Int.emod_eq_of_lt (Int.ediv_nonneg h2 (by omega)) (Int.ediv_lt_of_lt_mul ha (by rw [Int.mul_comm b a]; exact h3))]

theorem digs_mod {n : Nat} : ∀ (j : Nat) (x : Int), digs n j (x % 2 ^ (j * n)) = digs n j x
  | 0, x => rfl
  | j + 1, x => by
    have e : (2 : Int) ^ ((j + 1) * n) = 2 ^ n * 2 ^ (j * n) := by rw [← Int.pow_add, Nat.add_mul]; congr 1; omega
    rw [digs, digs, e, emod_mul_ediv (pow_pos' n) (pow_pos' _), digs_mod j, Int.emod_emod_of_dvd _ (Int.dvd_mul_right _ _)]

theorem digs_one {n : Nat} {x : Int} (h0 : 0 ≤ x) (h1 : x < 2 ^ n) : digs n 1 x = [x] := by
  rw [digs, digs, Int.emod_eq_of_lt h0 h1]

theorem dval_digs {n : Nat} : ∀ {k : Nat} {x : Int}, 0 ≤ x → x < 2 ^ (k * n) → dval n (digs n k x) = x
  | 0, x, h0, h1 => by
    simp at h1
    have : x = 0 := by omega
    rw [this]; rfl
  | k + 1, x, h0, h1 => by
    have hp := pow_pos' n
    rw [digs, dval, dval_digs (Int.ediv_nonneg h0 (by omega)) (Int.ediv_lt_of_lt_mul hp (by rw [← Int.pow_add]; rw [Nat.add_mul, Nat.one_mul] at h1; exact h1))]
    have := Int.mul_ediv_add_emod x (2 ^ n)
    omega

theorem and_upper (x s : Nat) : x &&& (x / 2 ^ s * 2 ^ s) = x / 2 ^ s * 2 ^ s := by
  apply Nat.eq_of_testBit_eq
  intro i
  rw [Nat.testBit_and, Nat.testBit_mul_two_pow]
  by_cases h : s ≤ i
  · simp only [h, decide_true, Bool.true_and]
    rw [Nat.testBit_div_two_pow]
    have : s + (i - s) = i := by omega
    have e2 : i - s + s = i := by omega
    first | rw [this, Bool.and_self] | rw [e2, Bool.and_self]
  · simp [h]

theorem xor_upper {x : Int} (hx : 0 ≤ x) (s : Nat) : Builtin.bitXor x (x / 2 ^ s * 2 ^ s) = x % 2 ^ s := by
  have hp := pow_pos' s
  have e2 : (2 : Int) ^ s = ((2 ^ s : Nat) : Int) := by simp
  have hy : 0 ≤ x / 2 ^ s * 2 ^ s := Int.mul_nonneg (Int.ediv_nonneg hx (by omega)) (by omega)
  have key : Builtin.bitAnd x (x / 2 ^ s * 2 ^ s) = x / 2 ^ s * 2 ^ s := by
    rw [bitAnd_pp hx hy]
    obtain ⟨k, rfl⟩ := Int.eq_ofNat_of_zero_le hx
    have e3 : ((k : Int) / 2 ^ s * 2 ^ s).toNat = k / 2 ^ s * 2 ^ s := by
      rw [e2, ← Int.natCast_ediv, ← Int.natCast_mul, Int.toNat_natCast]
    rw [e3, Int.toNat_natCast, and_upper, e2, ← Int.natCast_ediv, ← Int.natCast_mul]
  rw [bitXor_and, key]
  have := Int.mul_ediv_add_emod x (2 ^ s)
  rw [Int.mul_comm] at this
  omega

theorem foldl_rep (v : Value) : ∀ (k : Nat) (acc : Array Value), List.foldl (fun x1 x2 => x1 ++ x2) acc (List.replicate k #[v]) = acc ++ (List.replicate k v).toArray
  | 0, acc => by simp
  | k + 1, acc => by
    rw [List.replicate_succ, List.foldl_cons, foldl_rep v k, List.replicate_succ, Array.append_assoc]
    congr 1
    simp

theorem ints_rep (t : Tok) : ∀ k : Nat, IntsAre (List.replicate k (.int 0 t)) (List.replicate k 0)
  | 0 => .nil
  | k + 1 => .cons 0 t (ints_rep t k)
end Mine
namespace Mine
open PySem PySem.W PyProof.Rows
theorem step_div {A d b B : Int} (hb : 0 < b) : (A * B + d) / b = A / b * B + (A % b * B + d) / b ∧ (A * B + d) % b = (A % b * B + d) % b := by
  have e := Int.mul_ediv_add_emod A b
  have e1 : A * B + d = (A % b * B + d) + b * (A / b * B) := by
    have : A * B = (b * (A / b) + A % b) * B := by rw [e]
    rw [this, Int.add_mul, Int.mul_assoc]; omega
  rw [e1]
  constructor
  · rw [Int.add_mul_ediv_left _ _ (by omega)]; omega
  · rw [Int.add_mul_emod_self_left]

theorem bits_lo {b : Int} (hb : 0 < b) : 1 ≤ Builtin.Int.intBits b ∧ 2 ^ (Builtin.Int.intBits b - 1) ≤ b ∧ b < 2 ^ Builtin.Int.intBits b := by
  have hne : ¬ (b == 0) = true := by simpa using (show b ≠ 0 by omega)
  have hn : b.natAbs ≠ 0 := by omega
  have e : Builtin.Int.intBits b = b.natAbs.log2 + 1 := by unfold Builtin.Int.intBits; rw [if_neg hne]
  rw [e]
  have h1 := Nat.log2_self_le hn
  have h2 := Nat.lt_log2_self (n := b.natAbs)
  have e1 : (2 : Int) ^ (b.natAbs.log2 + 1 - 1) = ((2 ^ b.natAbs.log2 : Nat) : Int) := by simp
  have e2 : (2 : Int) ^ (b.natAbs.log2 + 1) = ((2 ^ (b.natAbs.log2 + 1) : Nat) : Int) := by simp
  rw [e1, e2]
  omega

theorem lt_pow_digs {x : Int} {n : Nat} (hn : 1 ≤ n) (hx : 0 ≤ x) : x < 2 ^ ((Builtin.Int.intBits x + n - 1) / n * n) := by
  have h1 := natAbs_lt_pow_bits x
  have e : (2 : Int) ^ (Builtin.Int.intBits x) = ((2 ^ Builtin.Int.intBits x : Nat) : Int) := by simp
  have h2 : x < 2 ^ (Builtin.Int.intBits x) := by rw [e]; omega
  refine Int.lt_of_lt_of_le h2 (pow_le' ?_)
  have := Nat.div_add_mod (Builtin.Int.intBits x + n - 1) n
  have h3 := Nat.mod_lt (Builtin.Int.intBits x + n - 1) (show 0 < n by omega)
  rw [Nat.mul_comm] at this
  omega

/-- the digits from above: one more -/
theorem dval_drop {n : Nat} {ds : List Int} {i : Nat} {d : Int} (hi : i < ds.length) (hd : ds[ds.length - 1 - i]? = some d) : dval n (ds.drop (ds.length - (i + 1))) = d + 2 ^ n * dval n (ds.drop (ds.length - i)) := by
  have e : ds.drop (ds.length - (i + 1)) = d :: ds.drop (ds.length - i) := by
    have h1 : ds.length - (i + 1) = ds.length - 1 - i := by omega
    have h2 : ds.length - i = (ds.length - 1 - i) + 1 := by omega
    have hlt : ds.length - 1 - i < ds.length := by omega
    rw [h1, h2, List.drop_eq_getElem_cons hlt]
    rw [List.getElem?_eq_getElem hlt] at hd
    rw [Option.some.inj hd]
  rw [e, dval]

theorem digs_range {n : Nat} : ∀ {k : Nat} {x : Int} {d : Int}, d ∈ digs n k x → 0 ≤ d ∧ d < 2 ^ n
  | k + 1, x, d, h => by
    have hp := pow_pos' n
    rw [digs] at h
    rcases List.mem_cons.mp h with rfl | h
    · exact ⟨Int.emod_nonneg _ (by omega), Int.emod_lt_of_pos _ hp⟩
    · exact digs_range h
end Mine
end

-- Dg
section
open PySem PySem.W PyProof.Rows PySem.Calls
set_option Elab.async false
set_option maxRecDepth 100000
set_option linter.all false
namespace Mine


theorem d2i_spec {w : World} {A : Around} {env : Env} {g : Heap} {L : Addr} {m : Mp} {s : Shared} {news t : Led} {Q : Value → Shared → Prop} {vs : List Value} {ds : List Int} {l : Addr} {lo0 : Obj} {z n B : Nat} {t1 : Tok}
    (H : Here w A env g L) (F : Fr g L s.heap m) (N : News g L s.heap (t ++ news)) (T : TabL 71 54 4 qualD t) (hne : ∀ p ∈ news, p.1 ≠ 71) (R : Room A (ds.length + 2))
    (hl : (l, lo0) ∈ news) (hlc : lo0.cls = .type "list") (hld : lo0.data = .seq vs.toArray z) (hI : IntsAre vs ds) (hB : ∀ d ∈ ds, Builtin.Int.intBits d ≤ B) (hlen : ds.length ≤ 1000) (hsz : B + (n + 1) * ds.length ≤ 2 ^ 26) (hn : n ≤ 2 ^ 20)
    (hret : ∀ t' u h' tk, Fr g L h' m → News g L h' (t' ++ news) → TabL 71 54 4 qualD t' → Q (.int (dval n ds) u) { s with heap := h', toks := tk }) :
    Go w A (call (.ref 76) [.ref l, .int (n : Int) t1]) Q s := by
  refine' enterC (d := ds.length + 1) (binds := [(Str.ofString "digits", .ref l), (Str.ofString "n", .int (n : Int) t1)]) H F N R ?ho ?hcd ?hb ?hl ?nd ?c1 ?c2 ?c3 ?_
  case ho => exact rfl
  case hcd => exact rfl
  case hb => exact rfl
  case hl => exact rfl
  case nd => decide +kernel
  case c1 => exact rfl
  case c2 => exact rfl
  case c3 => exact rfl
  clear H F N R
  intro g' L' h₁ A' tk cells H F N Y R lt
  obtain ⟨o1, o2, o3, rfl, d1, d2, d3⟩ := CellsAre.three Y
  clear Y
  have l71 : @LT.lt Nat _ 71 L' := by
    obtain ⟨ps, hp⟩ := T.mem
    exact lt _ (List.mem_append_left _ hp)
  have N' : News g' L' h₁ (t ++ ((L' + 1 + 2, o1) :: (L' + 1 + 1, o2) :: (L' + 1, o3) :: news)) := fun p hp => N p (by
    simp only [List.mem_append, List.mem_cons, List.cons_append, List.nil_append] at hp ⊢
    rcases hp with h | h | h | h | h
    · exact .inr (.inr (.inr (.inl h)))
    · exact .inl h
    · exact .inr (.inl h)
    · exact .inr (.inr (.inl h))
    · exact .inr (.inr (.inr (.inr h))))
  have ltn : ∀ p ∈ news, p.1 < L' := fun p hp => lt p (List.mem_append_right _ hp)
  refine exDef (ci := L' + 1 + 2) (oi := o1) (c := 75) (P := 71) (qual := qualD) H F N' T ?_ ?_ d1 ?_ (codeHd75 H.X) rfl rfl ?_
  · intro p hp
    rcases List.mem_cons.mp hp with rfl | hp
    · show @Ne Nat (L' + 1 + 2) (71)
      omega
    rcases List.mem_cons.mp hp with rfl | hp
    · show @Ne Nat (L' + 1 + 1) (71)
      omega
    rcases List.mem_cons.mp hp with rfl | hp
    · show @Ne Nat (L' + 1) (71)
      omega
    · exact hne p hp
  · intro p hp
    rcases List.mem_cons.mp hp with rfl | hp
    · show @Ne Nat (L' + 1 + 1) (L' + 1 + 2)
      omega
    rcases List.mem_cons.mp hp with rfl | hp
    · show @Ne Nat (L' + 1) (L' + 1 + 2)
      omega
    · exact Nat.ne_of_lt (Nat.lt_of_lt_of_le (ltn p hp) (by omega))
  · exact fun p hp => Nat.ne_of_lt (Nat.lt_of_lt_of_le (lt p (List.mem_append_left _ hp)) (by omega))
  clear N N' lt
  intro f c' oc vc tq ctv doc pm t' oi' h2 tk2 F N T' hc' hcd hcv hoi' ltf l71f lcif
  obtain ⟨led, N, hmf, hmr⟩ := led_gen N
  have hmc : (c', oc) ∈ led := hmr _ (List.mem_append_left _ hc')
  have hmi : (L' + 1 + 2, oi') ∈ led := hmr _ (List.mem_append_right _ (.head _))
  have hmn : (L' + 1 + 1, o2) ∈ led := hmr _ (List.mem_append_right _ (.tail _ (.head _)))
  have hmd : (L' + 1, o3) ∈ led := hmr _ (List.mem_append_right _ (.tail _ (.tail _ (.head _))))
  have hml : (l, lo0) ∈ led := hmr _ (List.mem_append_right _ (.tail _ (.tail _ (.tail _ hl))))
  have hIl := hI.length
  have key : ∀ (k lo hi : Nat), hi - lo ≤ k → lo < hi → hi ≤ ds.length → ∀ (A : Around) (env : Env) (g : Heap) (L : Addr) (m : Mp) (s : Shared) (Q : Value → Shared → Prop) (u1 u2 : Tok),
      Here w A env g L → Fr g L s.heap m → News g L s.heap led → Room A k → (∀ u h' tk, Fr g L h' m → News g L h' led → Q (.int (dval n (seg ds lo hi)) u) { s with heap := h', toks := tk }) →
      Go w A (call (.ref f) [.int (lo : Int) u1, .int (hi : Int) u2]) Q s := by
    intro k
    induction k with
    | zero => intro lo hi h1 h2; omega
    | succ k ih =>
      intro lo hi hk hlt hhi A env g L m s Q u1 u2 H F N R hret
      refine' enterN (d := k) (binds := [(Str.ofString "L", .int (lo : Int) u1), (Str.ofString "R", .int (hi : Int) u2)]) H F N R hmf hmc hcd hcv ?hb ?hl ?c1 ?c2 ?c3 ?c4 ?_
      case hb => exact rfl
      case hl => exact rfl
      case c1 => exact rfl
      case c2 => exact rfl
      case c3 => exact rfl
      case c4 => decide
      clear H F N R
      intro g' L' h₁ A' tk H F N R lt
      refine exIf (evEq (evAdd (evName F rfl isI) evInt) (evName F rfl isI)) ?_ ?_
      · intro hc tk1
        have hc' : ((lo : Int) + 1) = (hi : Int) := eq_of_beq hc
        have hhi' : hi = lo + 1 := by omega
        subst hhi'
        obtain ⟨d, hd⟩ : ∃ d, ds[lo]? = some d := ⟨ds[lo], List.getElem?_eq_getElem (by omega)⟩
        obtain ⟨td, htd⟩ := hI.get lo d hd
        have e1 : dval n (seg ds lo (lo + 1)) = d := by rw [seg_one hd]; simp [dval]
        refine exRet (P := IsI d) (evItem (evFree N rfl hmd d3 rfl) (evName F rfl isI) ⟨lo0, (N _ hml).1, hlc, z, hld⟩ (by omega) (by omega) (by simpa using htd) isI) ?_
        rintro v tk2 ⟨u, rfl⟩
        rw [e1] at hret
        exact Lv.mk' F N fun FF NN => hret u h₁ tk2 FF NN
      · intro hc tk1
        have hc' : ¬ ((lo : Int) + 1) = (hi : Int) := fun e => by rw [e] at hc; simp at hc
        refine exNil ?_
        have hm1 : lo < (lo + hi) / 2 := by omega
        have hm2 : (lo + hi) / 2 < hi := by omega
        refine exAsgI (i := (((lo + hi) / 2 : Nat) : Int)) F N (by
          rw [show (((lo + hi) / 2 : Nat) : Int) = ((lo : Int) + (hi : Int)) / 2 ^ 1 by omega]
          exact evShrN (k := 1) (evAdd (evName F rfl isI) (evName F rfl isI)) evInt) fun u3 h2 tk2 F2 N2 => ?_
        have hmn' : ((lo + hi) / 2 - lo) * n ≤ 2 ^ 26 := by
          have := Nat.mul_le_mul_right n (show (lo + hi) / 2 - lo ≤ ds.length by omega)
          have h3 : ds.length * n ≤ (n + 1) * ds.length := by rw [Nat.mul_comm]; exact Nat.mul_le_mul_right _ (by omega)
          omega
        refine exAsgI (i := ((((lo + hi) / 2 - lo) * n : Nat) : Int)) F2 N2 (by
          rw [show ((((lo + hi) / 2 - lo) * n : Nat) : Int) = ((((lo + hi) / 2 : Nat) : Int) - (lo : Int)) * (n : Int) by rw [Int.natCast_mul]; congr 1; omega]
          exact evMul (evSub (evName F2 rfl isI) (evName F2 rfl isI)) (evFree N2 rfl hmn d2 isI) (mulOk (by
            have := bits_of (k := 30) (show (0 : Int) ≤ (((lo + hi) / 2 : Nat) : Int) - (lo : Int) by omega) (by omega)
            have := bits_of (k := 30) (show (0 : Int) ≤ (n : Int) by omega) (by omega)
            omega))) fun u4 h3 tk3 F3 N3 => ?_
        refine exRetE (goBin (goBin (callMade F3 N3 (evFree N3 rfl hmi hoi' rfl) hmf (Ps := [IsI (((lo + hi) / 2 : Nat) : Int), IsI (hi : Int)]) ⟨evName F3 rfl isI, rfl, evName F3 rfl isI, rfl, trivial⟩ ?_)))
        intro ws tk4 hws
        obtain ⟨v1, v2, rfl, ⟨y1, rfl⟩, ⟨y2, rfl⟩⟩ := allV2 hws
        refine ih ((lo + hi) / 2) hi (by omega) hm2 hhi A' _ g' L' _ _ _ y1 y2 H F3 N3 R ?_
        intro u5 h4 tk5 F4 N4
        have hbh := dval_bits (n := n) (B := B) (ds := seg ds ((lo + hi) / 2) hi) fun x hx => hB x (seg_mem hx)
        have hbl := seg_len (ds := ds) (lo := (lo + hi) / 2) (hi := hi) (by omega) hhi
        refine Ev.go (P := IsI ((((lo + hi) / 2 - lo) * n : Nat) : Int)) (evName F4 rfl isI) ?_
        rintro v tk6 ⟨u6, rfl⟩
        refine ⟨lshift_int (n := ((((lo + hi) / 2 - lo) * n : Nat) : Int)) (by omega) ?_ ?_⟩
        · have : (n + 1) * (seg ds ((lo + hi) / 2) hi).length ≤ (n + 1) * ds.length := Nat.mul_le_mul_left _ (by omega)
          omega
        refine callMade F4 N4 (evFree N4 rfl hmi hoi' rfl) hmf (Ps := [IsI (lo : Int), IsI (((lo + hi) / 2 : Nat) : Int)]) ⟨evName F4 rfl isI, rfl, evName F4 rfl isI, rfl, trivial⟩ ?_
        intro ws tk7 hws
        obtain ⟨v1, v2, rfl, ⟨y1, rfl⟩, ⟨y2, rfl⟩⟩ := allV2 hws
        refine ih lo ((lo + hi) / 2) (by omega) hm1 (by omega) A' _ g' L' _ _ _ y1 y2 H F4 N4 R ?_
        intro u7 h5 tk8 F5 N5
        refine ⟨P.add_int ?_⟩
        have e2 : dval n (seg ds ((lo + hi) / 2) hi) * 2 ^ (((((lo + hi) / 2 - lo) * n : Nat) : Int)).toNat + dval n (seg ds lo ((lo + hi) / 2)) = dval n (seg ds lo hi) := by
          rw [seg_split (ds := ds) (lo := lo) (mid := (lo + hi) / 2) (hi := hi) (by omega) (by omega), dval_append, seg_len (by omega) (by omega), Int.mul_comm, Int.add_comm, Int.toNat_natCast]
        rw [e2]
        exact Lv.mk' F5 N5 fun FF NN => hret _ h5 _ FF NN
  have hIL : h2.IsList l vs.toArray := ⟨lo0, (N _ hml).1, hlc, z, hld⟩
  have hfit : (vs.toArray.size : Int) < 2 ^ 63 := by simp; omega
  have hback : ∀ h', News g' L' h' led → News g' L' h' (t' ++ news) := fun h' NN p hp => NN p (hmr p (by
    rcases List.mem_append.mp hp with h | h
    · exact List.mem_append_left _ h
    · exact List.mem_append_right _ (.tail _ (.tail _ (.tail _ h)))))
  refine exRetE (goIfExp (evTruthL (evCell N rfl hmd d3 rfl) hIL hfit) ?_ ?_)
  · intro hc tk3
    have hpos : 0 < ds.length := by
      have : vs ≠ [] := by simpa using hc
      have : 0 < vs.length := List.length_pos_iff.mpr this
      omega
    refine callMade F N (evCell N rfl hmi hoi' rfl) hmf (Ps := [IsI 0, IsI (vs.toArray.size : Int)]) ⟨evInt, rfl, evLen H F (evCell N rfl hmd d3 rfl) hIL hfit, rfl, trivial⟩ ?_
    intro ws tk4 hws
    obtain ⟨v1, v2, rfl, ⟨y1, rfl⟩, ⟨y2, rfl⟩⟩ := allV2 hws
    have e3 : ((vs.toArray.size : Nat) : Int) = ((ds.length : Nat) : Int) := by simp [hIl]
    rw [e3]
    refine key (ds.length + 1) 0 ds.length (by omega) hpos (Nat.le_refl _) A' _ g' L' _ _ _ y1 y2 H F N R ?_
    intro u h' tk5 F5 N5
    rw [seg_all]
    exact Lv.mk' F5 (hback h' N5) fun FF NN => hret t' u h' tk5 FF NN T'
  · intro hc tk3
    have hz : ds = [] := by
      have : vs = [] := by simpa using hc
      have : ds.length = 0 := by rw [← hIl, this]; rfl
      exact List.eq_nil_of_length_eq_zero this
    refine Ev.go (P := IsI 0) evInt ?_
    rintro v tk4 ⟨u, rfl⟩
    rw [hz] at hret
    exact Lv.mk' F (hback h2 N) fun FF NN => hret t' u h2 tk4 FF NN T'
end Mine
end

-- Ig
section
open PySem PySem.W PyProof.Rows PySem.Calls
set_option Elab.async false
set_option maxRecDepth 100000
set_option linter.all false
namespace Mine

def nDigs (n : Nat) (x : Int) : Nat := (Builtin.Int.intBits x + n - 1) / n

theorem i2d_spec {w : World} {A : Around} {env : Env} {g : Heap} {L : Addr} {m : Mp} {s : Shared} {news t : Led} {Q : Value → Shared → Prop} {x : Int} {n : Nat} {t1 t2 : Tok}
    (H : Here w A env g L) (F : Fr g L s.heap m) (N : News g L s.heap (t ++ news)) (T : TabL 64 39 4 qualI t) (hne : ∀ p ∈ news, p.1 ≠ 64) (R : Room A (nDigs n x + 2))
    (hx : 0 ≤ x) (hn1 : 1 ≤ n) (hn : n ≤ 2 ^ 20) (hlen : nDigs n x ≤ 1000) (hlenn : nDigs n x * n ≤ 2 ^ 25) (hxb : x < 2 ^ (nDigs n x * n))
    (hret : ∀ t' l vs z h' tk, Fr g L h' m → News g L h' ((l, listOf vs.toArray z) :: (t' ++ news)) → TabL 64 39 4 qualI t' → IntsAre vs (digs n (nDigs n x) x) → (∀ q ∈ news, q.1 < l) → Q (.ref l) { s with heap := h', toks := tk }) :
    Go w A (call (.ref 69) [.int x t1, .int (n : Int) t2]) Q s := by
  refine' enterC (d := nDigs n x + 1) (binds := [(Str.ofString "a", .int x t1), (Str.ofString "n", .int (n : Int) t2)]) H F N R ?ho ?hcd ?hb ?hl ?nd ?c1 ?c2 ?c3 ?_
  case ho => exact rfl
  case hcd => exact rfl
  case hb => exact rfl
  case hl => exact rfl
  case nd => decide +kernel
  case c1 => exact rfl
  case c2 => exact rfl
  case c3 => exact rfl
  clear H F N R
  intro g' L' h₁ A' tk cells H F N Y R lt
  obtain ⟨o1, o2, o3, rfl, d1, d2, d3⟩ := CellsAre.three Y
  clear Y
  have l64 : @LT.lt Nat _ 64 L' := by
    obtain ⟨ps, hp⟩ := T.mem
    exact lt _ (List.mem_append_left _ hp)
  have ltn : ∀ p ∈ news, p.1 < L' := fun p hp => lt p (List.mem_append_right _ hp)
  have hbits : Builtin.Int.intBits x ≤ nDigs n x * n := bits_of hx hxb
  -- a_digits = [0] * ..
  refine exAsgC (g := g') (ci := L' + 1 + 1) (goBin ?_) rfl
  refine ⟨List_ (args_cons (evInt.run _ _ _ rfl fun v0 tk0 hv0 => args_nil ?_) rfl)⟩
  obtain ⟨t0, rfl⟩ := hv0
  refine newList_N (s := { s with heap := h₁, toks := tk0 }) F N (fun h2 F2 N2 => ?_) (by show 1 ≤ sizeLine; decide)
  refine Ev.go (P := IsI (nDigs n x : Int)) (by
    have e : ((nDigs n x : Nat) : Int) = (((Builtin.Int.intBits x : Nat) : Int) + (n : Int) - 1).fdiv (n : Int) := by
      rw [fdiv_pos (by omega)]
      unfold nDigs
      rw [Int.natCast_ediv]
      congr 1
      omega
    rw [e]
    refine evFDiv (evSub (evAdd (evBits (evName F2 rfl isI) rfl) (evCell N2 rfl (.tail _ (.tail _ (.tail _ (.head _)))) d3 isI)) evInt) (evCell N2 rfl (.tail _ (.tail _ (.tail _ (.head _)))) d3 isI) (by omega) (PyProof.noPylong_small (by omega))) ?_
  rintro v tk2 ⟨t3, rfl⟩
  refine ⟨mul_list (s := { s with heap := h2, toks := tk2 }) F2 N2 (N2 _ (.head _)).1 (by omega) (by omega) (by show 1 * nDigs n x ≤ 2 ^ 24; omega) fun h3 F3 N3 => ?_⟩
  have e4 : List.foldl (fun x1 x2 => x1 ++ x2) #[] (List.replicate (if (List.toArray [Value.int 0 t0]).isEmpty = true then 0 else (nDigs n x : Int).toNat) (List.toArray [Value.int 0 t0])) = (List.replicate (nDigs n x) (Value.int 0 t0)).toArray := by
    rw [if_neg (by simp), Int.toNat_natCast]
    exact (foldl_rep _ _ _).trans (Array.empty_append)
  have N3' : News g' L' h3 ((h2.objs.size, listOf (List.replicate (nDigs n x) (Value.int 0 t0)).toArray 0) :: (L' + 1 + 1, o2) :: (t ++ ((L' + 1 + 2, o1) :: (L' + 1, o3) :: news))) := by
    intro p hp
    rcases List.mem_cons.mp hp with rfl | hp
    · have := N3 _ (.head _)
      rw [e4] at this
      exact this
    · refine N3 p (List.mem_cons_of_mem _ (List.mem_cons_of_mem _ ?_))
      simp only [List.mem_append, List.mem_cons, List.cons_append, List.nil_append] at hp ⊢
      rcases hp with h | h | h | h | h <;> simp [h]
  have hlt2 : ∀ p ∈ (L' + 1 + 1, o2) :: (t ++ ((L' + 1 + 2, o1) :: (L' + 1, o3) :: news)), p.1 < h2.objs.size := by
    intro p hp
    refine Heap.lt_size (N2 p (List.mem_cons_of_mem _ ?_)).1
    simp only [List.mem_append, List.mem_cons, List.cons_append, List.nil_append] at hp ⊢
    rcases hp with h | h | h | h | h <;> simp [h]
  clear N N2 N3
  generalize h2.objs.size = l at N3' hlt2
  have hl2 : ∀ p ∈ t ++ ((L' + 1 + 2, o1) :: (L' + 1, o3) :: news), p.1 ≠ L' + 1 + 1 := by
    intro p hp
    rcases List.mem_append.mp hp with h | h
    · exact Nat.ne_of_lt (Nat.lt_of_lt_of_le (lt p (List.mem_append_left _ h)) (by omega))
    rcases List.mem_cons.mp h with rfl | h
    · show @Ne Nat (L' + 1 + 2) (L' + 1 + 1)
      omega
    rcases List.mem_cons.mp h with rfl | h
    · show @Ne Nat (L' + 1) (L' + 1 + 1)
      omega
    · exact Nat.ne_of_lt (Nat.lt_of_lt_of_le (ltn p h) (by omega))
  refine ⟨_, _, o2, none, _, F3, N3', .tail (Nat.ne_of_gt (hlt2 _ (.head _))) (.head hl2), d2, fun h4 o2' F4 N4 d2' => ?_⟩
  -- def inner
  have N4' : News g' L' h4 (t ++ ((L' + 1 + 2, o1) :: (L' + 1 + 1, o2') :: (L' + 1, o3) :: (l, listOf (List.replicate (nDigs n x) (Value.int 0 t0)).toArray 0) :: news)) := fun p hp => N4 p (by
    simp only [List.mem_append, List.mem_cons] at hp ⊢
    rcases hp with h | h | h | h | h | h <;> simp [h])
  have hlL : @LT.lt Nat _ (L' + 1 + 2) l := hlt2 (L' + 1 + 2, o1) (.tail _ (List.mem_append_right _ (.head _)))
  refine exDef (ci := L' + 1 + 2) (oi := o1) (c := 68) (P := 64) (qual := qualI) H F4 N4' T ?_ ?_ d1 ?_ (codeHd68 H.X) rfl rfl ?_
  · intro p hp
    rcases List.mem_cons.mp hp with rfl | hp
    · show @Ne Nat (L' + 1 + 2) 64
      omega
    rcases List.mem_cons.mp hp with rfl | hp
    · show @Ne Nat (L' + 1 + 1) 64
      omega
    rcases List.mem_cons.mp hp with rfl | hp
    · show @Ne Nat (L' + 1) 64
      omega
    rcases List.mem_cons.mp hp with rfl | hp
    · show @Ne Nat l 64
      omega
    · exact hne p hp
  · intro p hp
    rcases List.mem_cons.mp hp with rfl | hp
    · show @Ne Nat (L' + 1 + 1) (L' + 1 + 2)
      omega
    rcases List.mem_cons.mp hp with rfl | hp
    · show @Ne Nat (L' + 1) (L' + 1 + 2)
      omega
    rcases List.mem_cons.mp hp with rfl | hp
    · show @Ne Nat l (L' + 1 + 2)
      omega
    · exact Nat.ne_of_lt (Nat.lt_of_lt_of_le (ltn p hp) (by omega))
  · exact fun p hp => Nat.ne_of_lt (Nat.lt_of_lt_of_le (lt p (List.mem_append_left _ hp)) (by omega))
  clear N3' N4 N4' lt F F2 F3 F4
  intro f c' oc vc tq ctv doc pm t' oi' h5 tk5 F N T' hc' hcd hcv hoi' ltf l64f lcif
  have hfl : @LT.lt Nat _ l f := ltf (l, listOf (List.replicate (nDigs n x) (Value.int 0 t0)).toArray 0) (.tail _ (.tail _ (.head _)))
  have hT'l : ∀ p ∈ t', p.1 ≠ l := fun p hp => by
    obtain ⟨vs', hv'⟩ := T'.fields p hp
    refine news_ne (q := (l, listOf (List.replicate (nDigs n x) (Value.int 0 t0)).toArray 0)) N (.tail _ (List.mem_append_left _ hp)) (.tail _ (List.mem_append_right _ (.tail _ (.tail _ (.tail _ (.head _)))))) ?_
    rw [hv']
    intro e
    cases e
  have hnews : ∀ p ∈ news, p.1 < l := fun p hp => hlt2 p (.tail _ (List.mem_append_right _ (.tail _ (.tail _ hp))))
  obtain ⟨led, N, hmf, hmr, hlf⟩ := led_out (l := l) (r' := t' ++ ((L' + 1 + 2, oi') :: (L' + 1 + 1, o2') :: (L' + 1, o3) :: news)) N (List.mem_append_right _ (.tail _ (.tail _ (.tail _ (.head _)))))
    (fun q hq => by
      simp only [List.mem_append, List.mem_cons] at hq ⊢
      rcases hq with h | h | h | h | h <;> simp [h]) (Nat.ne_of_gt hfl) (fun q hq => by
      rcases List.mem_append.mp hq with h | h
      · exact hT'l q h
      rcases List.mem_cons.mp h with rfl | h
      · exact Nat.ne_of_lt hlL
      rcases List.mem_cons.mp h with rfl | h
      · exact Nat.ne_of_lt (Nat.lt_of_le_of_lt (by omega) hlL)
      rcases List.mem_cons.mp h with rfl | h
      · exact Nat.ne_of_lt (Nat.lt_of_le_of_lt (by omega) hlL)
      · exact Nat.ne_of_lt (hnews q h))
  have hmc : (c', oc) ∈ led := hmr _ (List.mem_append_left _ hc')
  have hmi : (L' + 1 + 2, oi') ∈ led := hmr _ (List.mem_append_right _ (.head _))
  have hma : (L' + 1 + 1, o2') ∈ led := hmr _ (List.mem_append_right _ (.tail _ (.head _)))
  have hmn : (L' + 1, o3) ∈ led := hmr _ (List.mem_append_right _ (.tail _ (.tail _ (.head _))))
  clear hT'l ltf hc' hl2 hlt2
  have key : ∀ (k lo hi : Nat), hi - lo ≤ k → lo < hi → hi ≤ nDigs n x → ∀ (y : Int), 0 ≤ y → y < 2 ^ ((hi - lo) * n) → ∀ (vs : List Value) (ds : List Int) (z : Nat), IntsAre vs ds → ds.length = nDigs n x →
      ∀ (A : Around) (env : Env) (g : Heap) (L : Addr) (m : Mp) (s : Shared) (Q : Value → Shared → Prop) (u0 u1 u2 : Tok),
      Here w A env g L → Fr g L s.heap m → News g L s.heap ((l, listOf vs.toArray z) :: led) → Room A k →
      (∀ vs' h' tk, IntsAre vs' (ds.take lo ++ (digs n (hi - lo) y ++ ds.drop hi)) → Fr g L h' m → News g L h' ((l, listOf vs'.toArray z) :: led) → Q .none { s with heap := h', toks := tk }) →
      Go w A (call (.ref f) [.int y u0, .int (lo : Int) u1, .int (hi : Int) u2]) Q s := by
    intro k
    induction k with
    | zero => intro lo hi h1 h2; omega
    | succ k ih =>
      intro lo hi hk hlt hhi y hy0 hy1 vs ds z hI hdl A env g L m s Q u0 u1 u2 H F N R hret
      refine' enterN (d := k) (binds := [(Str.ofString "x", .int y u0), (Str.ofString "L", .int (lo : Int) u1), (Str.ofString "R", .int (hi : Int) u2)]) H F N R (.tail _ hmf) (.tail _ hmc) hcd hcv ?hb ?hl ?c1 ?c2 ?c3 ?c4 ?_
      case hb => exact rfl
      case hl => exact rfl
      case c1 => exact rfl
      case c2 => exact rfl
      case c3 => exact rfl
      case c4 => decide
      clear H F N R
      intro g' L' h₁ A' tk H F N R lt
      refine exIf (evEq (evAdd (evName F rfl isI) evInt) (evName F rfl isI)) ?_ ?_
      · intro hc tk1
        have hc' : ((lo : Int) + 1) = (hi : Int) := eq_of_beq hc
        have hhi' : hi = lo + 1 := by omega
        subst hhi'
        have e1 : digs n (lo + 1 - lo) y = [y] := by
          rw [Nat.add_sub_cancel_left] at hy1 ⊢
          exact digs_one hy0 (by rw [Nat.one_mul] at hy1; exact hy1)
        refine exSet (P := IsI y) (evName F rfl isI) (evFree N rfl (.tail _ hma) d2' rfl) (evName F rfl isI) ?_
        rintro v t tk2 ⟨u3, rfl⟩
        refine ⟨ksa_set (k := (lo : Int)) (s := { s with heap := h₁, toks := tk2 }) F N (.head hlf) hI (by omega) (by omega) (by omega) fun h2 F2 N2 hI2 _ _ => ?_⟩
        refine exRetNone ?_
        refine Lv.mk' F2 N2 fun FF NN => hret _ h2 tk2 ?_ FF NN
        rw [e1]
        have e5 : ds.set (lo : Int).toNat y = ds.take lo ++ ([y] ++ ds.drop (lo + 1)) := by
          rw [Int.toNat_natCast, List.set_eq_take_append_cons_drop, if_pos (by omega)]
          rfl
        rw [← e5]
        exact hI2
      · intro hc tk1
        have hc' : ¬ ((lo : Int) + 1) = (hi : Int) := fun e => by rw [e] at hc; simp at hc
        refine exNil ?_
        have hm1 : lo < (lo + hi) / 2 := by omega
        have hm2 : (lo + hi) / 2 < hi := by omega
        refine exAsgI (i := (((lo + hi) / 2 : Nat) : Int)) F N (by
          rw [show (((lo + hi) / 2 : Nat) : Int) = ((lo : Int) + (hi : Int)) / 2 ^ 1 by omega]
          exact evShrN (k := 1) (evAdd (evName F rfl isI) (evName F rfl isI)) evInt) fun u3 h2 tk2 F2 N2 => ?_
        generalize hmid : (lo + hi) / 2 = mid at *
        have hsh : (mid - lo) * n ≤ nDigs n x * n := Nat.mul_le_mul_right _ (by omega)
        refine exAsgI (i := (((mid - lo) * n : Nat) : Int)) F2 N2 (by
          rw [show (((mid - lo) * n : Nat) : Int) = ((mid : Int) - (lo : Int)) * (n : Int) by rw [Int.natCast_mul]; congr 1; omega]
          exact evMul (evSub (evName F2 rfl isI) (evName F2 rfl isI)) (evFree N2 rfl (.tail _ hmn) d3 isI) (mulOk (by
            have := bits_of (k := 30) (show (0 : Int) ≤ (mid : Int) - (lo : Int) by omega) (by omega)
            have := bits_of (k := 30) (show (0 : Int) ≤ (n : Int) by omega) (by omega)
            omega))) fun u4 h3 tk3 F3 N3 => ?_
        have hp := pow_pos' ((mid - lo) * n)
        refine exAsgI (i := y / 2 ^ ((mid - lo) * n)) F3 N3 (evShrN (evName F3 rfl isI) (evName F3 rfl isI)) fun u5 h4 tk4 F4 N4 => ?_
        have hyb := bits_of hy0 hy1
        have hsh2 : (hi - lo) * n ≤ nDigs n x * n := Nat.mul_le_mul_right _ (by omega)
        have hup0 : 0 ≤ y / 2 ^ ((mid - lo) * n) := Int.ediv_nonneg hy0 (by omega)
        have hup1 : y / 2 ^ ((mid - lo) * n) < 2 ^ ((hi - mid) * n) := by
          apply Int.ediv_lt_of_lt_mul hp
          rw [← Int.pow_add, ← Nat.add_mul]
          have : hi - mid + (mid - lo) = hi - lo := by omega
          rw [this]; exact hy1
        have hupb : Builtin.Int.intBits (y / 2 ^ ((mid - lo) * n)) ≤ (hi - lo) * n := bits_of hup0 (Int.lt_of_le_of_lt (Int.ediv_le_self _ hy0) hy1)
        refine exAsgI (i := y % 2 ^ ((mid - lo) * n)) F4 N4 (by
          rw [← xor_upper hy0]
          exact evXor (evName F4 rfl isI) (evShlN (evName F4 rfl isI) (evName F4 rfl isI) (by omega))) fun u6 h5 tk5 F5 N5 => ?_
        refine exExpr (callMade F5 N5 (evFree N5 rfl (.tail _ hmi) hoi' rfl) (.tail _ hmf) (Ps := [IsI (y % 2 ^ ((mid - lo) * n)), IsI (lo : Int), IsI (mid : Int)]) ⟨evName F5 rfl isI, rfl, evName F5 rfl isI, rfl, evName F5 rfl isI, rfl, trivial⟩ ?_)
        intro ws tk6 hws
        obtain ⟨v1, v2, v3, rfl, ⟨y1, rfl⟩, ⟨y2, rfl⟩, ⟨y3, rfl⟩⟩ := allV3 hws
        refine ih lo mid (by omega) hm1 (by omega) _ (Int.emod_nonneg _ (by omega)) (Int.emod_lt_of_pos _ hp) vs ds z hI hdl A' _ g' L' _ _ _ y1 y2 y3 H F5 N5 R ?_
        intro vs' h6 tk7 hI' F6 N6
        refine ⟨rfl, ?_⟩
        refine exExpr (callMade F6 N6 (evFree N6 rfl (.tail _ hmi) hoi' rfl) (.tail _ hmf) (Ps := [IsI (y / 2 ^ ((mid - lo) * n)), IsI (mid : Int), IsI (hi : Int)]) ⟨evName F6 rfl isI, rfl, evName F6 rfl isI, rfl, evName F6 rfl isI, rfl, trivial⟩ ?_)
        intro ws tk8 hws
        obtain ⟨v1, v2, v3, rfl, ⟨y1, rfl⟩, ⟨y2, rfl⟩, ⟨y3, rfl⟩⟩ := allV3 hws
        have hl3 : (ds.take lo ++ (digs n (mid - lo) (y % 2 ^ ((mid - lo) * n)) ++ ds.drop mid)).length = nDigs n x := by
          simp only [List.length_append, List.length_take, List.length_drop, digs_len]
          omega
        refine ih mid hi (by omega) hm2 hhi _ hup0 hup1 vs' _ z hI' hl3 A' _ g' L' _ _ _ y1 y2 y3 H F6 N6 R ?_
        intro vs'' h7 tk9 hI'' F7 N7
        refine ⟨rfl, exNil ?_⟩
        refine Lv.mk' F7 N7 fun FF NN => hret _ h7 tk9 ?_ FF NN
        have e6 : ds.take lo ++ (digs n (hi - lo) y ++ ds.drop hi) = (ds.take lo ++ (digs n (mid - lo) (y % 2 ^ ((mid - lo) * n)) ++ ds.drop mid)).take mid ++ (digs n (hi - mid) (y / 2 ^ ((mid - lo) * n)) ++ (ds.take lo ++ (digs n (mid - lo) (y % 2 ^ ((mid - lo) * n)) ++ ds.drop mid)).drop hi) := by
          rw [digs_mod]
          have a1 : (ds.take lo ++ digs n (mid - lo) y).length = mid := by
            simp only [List.length_append, List.length_take, digs_len]; omega
          have a2 : hi - lo = (mid - lo) + (hi - mid) := by omega
          have a3 : (ds.take lo ++ (digs n (mid - lo) y ++ ds.drop mid)).take mid = ds.take lo ++ digs n (mid - lo) y := by
            rw [← List.append_assoc, List.take_left' a1]
          have a4 : (ds.take lo ++ (digs n (mid - lo) y ++ ds.drop mid)).drop hi = ds.drop hi := by
            rw [← List.append_assoc, List.drop_append, List.drop_eq_nil_of_le (by omega), a1, List.nil_append, List.drop_drop]
            congr 1; omega
          rw [a3, a4, a2, digs_append, List.append_assoc, List.append_assoc]
        rw [e6]
        exact hI''
  have hback : ∀ vs h', News g' L' h' ((l, listOf vs 0) :: led) → News g' L' h' ((l, listOf vs 0) :: (t' ++ news)) := fun vs h' NN p hp => NN p (by
    rcases List.mem_cons.mp hp with rfl | hp
    · exact .head _
    · refine List.mem_cons_of_mem _ (hmr p ?_)
      rcases List.mem_append.mp hp with h | h
      · exact List.mem_append_left _ h
      · exact List.mem_append_right _ (.tail _ (.tail _ (.tail _ h))))
  have hIL : h5.IsList l (List.replicate (nDigs n x) (Value.int 0 t0)).toArray := News.isList N (.head _)
  refine exIfJoin (J := fun s' => ∃ vs m' h' tk, s' = { s with heap := h', toks := tk } ∧ Fr g' L' h' m' ∧ News g' L' h' ((l, listOf vs.toArray 0) :: led) ∧ IntsAre vs (digs n (nDigs n x) x))
    (evTruth (evName F rfl isI)) ?_ ?_ ?_
  · intro hc tk6
    have hx0 : x ≠ 0 := by simpa using hc
    have hpos : 0 < nDigs n x := by
      rcases Nat.eq_zero_or_pos (nDigs n x) with h0 | h0
      · rw [h0] at hxb
        simp at hxb
        omega
      · exact h0
    refine exExpr (callMade F N (evCell N rfl (.tail _ hmi) hoi' rfl) (.tail _ hmf) (Ps := [IsI x, IsI 0, IsI ((List.replicate (nDigs n x) (Value.int 0 t0)).toArray.size : Int)])
      ⟨evName F rfl isI, rfl, evInt, rfl, evLen H F (evCell N rfl (.tail _ hma) d2' rfl) hIL (by simp; omega), rfl, trivial⟩ ?_)
    intro ws tk7 hws
    obtain ⟨v1, v2, v3, rfl, ⟨y1, rfl⟩, ⟨y2, rfl⟩, ⟨y3, rfl⟩⟩ := allV3 hws
    have e7 : (((List.replicate (nDigs n x) (Value.int 0 t0)).toArray.size : Nat) : Int) = ((nDigs n x : Nat) : Int) := by simp
    rw [e7]
    refine key (nDigs n x + 1) 0 (nDigs n x) (by omega) hpos (Nat.le_refl _) x hx (by rw [Nat.sub_zero]; exact hxb) _ _ 0 (ints_rep t0 _) (by simp) A' _ g' L' _ _ _ y1 y2 y3 H F N R ?_
    intro vs' h6 tk8 hI' F6 N6
    refine ⟨rfl, exNil ⟨rfl, vs', _, h6, tk8, rfl, F6, N6, ?_⟩⟩
    rw [List.take_zero, List.nil_append, Nat.sub_zero, List.drop_eq_nil_of_le (by simp), List.append_nil] at hI'
    exact hI'
  · intro hc tk6
    have hx0 : x = 0 := by simpa using hc
    have h00 : nDigs n x = 0 := by
      unfold nDigs
      rw [hx0]
      have : Builtin.Int.intBits 0 = 0 := rfl
      rw [this]
      exact Nat.div_eq_of_lt (by omega)
    refine exNil ⟨rfl, _, _, h5, tk6, rfl, F, N, ?_⟩
    rw [h00]
    exact .nil
  · rintro s' ⟨vs, m', h6, tk7, rfl, F6, N6, hI⟩
    refine exRet (P := IsV (.ref l)) (evCell N6 rfl (.tail _ hma) d2' rfl) ?_
    rintro v tk8 rfl
    exact Lv.mk' F6 (hback _ h6 N6) fun FF NN => hret t' l vs 0 h6 tk8 FF NN T' hI hnews
end Mine
end

-- Dm
section
open PySem PySem.W PyProof.Rows PySem.Calls
set_option Elab.async false
set_option maxRecDepth 100000
set_option linter.all false
namespace Mine

theorem dmp_spec {w : World} {A : Around} {env : Env} {g : Heap} {L : Addr} {m : Mp} {s : Shared} {news t1 t2 : Led} {Q : Value → Shared → Prop} {a b : Int} {k : Nat} {u1 u2 : Tok}
    (H : Here w A env g L) (F : Fr g L s.heap m) (N : News g L s.heap (t1 ++ (t2 ++ news))) (T : TT t1 t2) (hoff : Off news) (R : Room A 120)
    (ha : 0 ≤ a) (hb : 0 < b) (hk : k = Builtin.Int.intBits b) (hk2 : k ≤ 16000) (hnd : nDigs k a ≤ 100)
    (hret : ∀ p t t' t1' t2' h' tk, Fr g L h' m → News g L h' ((p, tupObj [.int (a / b) t, .int (a % b) t']) :: (t1' ++ (t2' ++ news))) → TT t1' t2' → (∀ q ∈ news, q.1 < p) → Q (.ref p) { s with heap := h', toks := tk }) :
    Go w A (call (.ref 83) [.int a u1, .int b u2]) Q s := by
  obtain ⟨hk1, hbl, hbu⟩ := bits_lo hb
  rw [← hk] at hk1 hbl hbu
  refine' enter (d := 119) (binds := [(Str.ofString "a", .int a u1), (Str.ofString "b", .int b u2)]) H F N R ?ho ?hcd ?hb ?hl ?c1 ?c2 ?c3 ?c4 ?_
  case ho => exact rfl
  case hcd => exact rfl
  case hb => exact rfl
  case hl => exact rfl
  case c1 => exact rfl
  case c2 => exact rfl
  case c3 => exact rfl
  case c4 => decide
  clear H F N R
  intro g' L' h₁ A' tk H F N R lt
  have ltn : ∀ p ∈ news, p.1 < L' := fun p hp => lt p (List.mem_append_right _ (List.mem_append_right _ hp))
  refine exAsgI (i := (k : Int)) F N (by rw [hk]; exact evBits (evName F rfl isI) rfl) fun y1 h2 tk2 F2 N2 => ?_
  -- a_digits
  obtain ⟨o71, o64⟩ := T.off N2 (fun p hp => List.mem_append_left _ hp) (fun p hp => List.mem_append_right _ (List.mem_append_left _ hp))
  refine exAsgE (g := g') (callName H F2 rfl rfl (Ps := [IsI a, IsI (k : Int)]) ⟨evName F2 rfl isI, rfl, evName F2 rfl isI, rfl, trivial⟩ ?_)
  intro ws tk3 hws
  obtain ⟨v1, v2, rfl, ⟨w1, rfl⟩, ⟨w2, rfl⟩⟩ := allV2 hws
  have N2' : News g' L' h2 (t2 ++ (t1 ++ news)) := fun p hp => N2 p (sb_c3 hp)
  have hndk : nDigs k a * k ≤ 1600000 := Nat.mul_le_mul hnd hk2
  refine i2d_spec (s := { s with heap := h2, toks := tk3 }) H F2 N2' T.i ?_ (R.le (by omega)) ha hk1 (by omega) (by omega) (by omega) (lt_pow_digs hk1 ha) ?_
  · intro p hp
    rcases List.mem_append.mp hp with h | h
    · exact o64 p h
    · exact (hoff p h).2
  intro t2' l avs z h3 tk4 F3 N3 T2' hI3 lt3
  have hIl := hI3.length
  rw [digs_len] at hIl
  refine ⟨_, _, F3, N3, fun h4 tk5 F4 N4 => ?_⟩
  have T' : TT t1 t2' := ⟨T.d, T2'⟩
  clear N N2 N2' N3 o71 o64 T2'
  refine exAsgI (i := 0) F4 N4 evInt fun y2 h5 tk6 F5 N5 => ?_
  -- q_digits = []
  refine exAsgE (g := g') ⟨List_ (args_nil ?_)⟩
  refine newList_N (s := { s with heap := h5, toks := tk6 }) F5 N5 (fun h6 F6 N6 => ?_) (by show 0 ≤ sizeLine; omega)
  refine ⟨_, _, F6, N6, fun h7 tk7 F7 N7 => ?_⟩
  have hlq : ∀ p ∈ (l, listOf avs.toArray z) :: (t2' ++ (t1 ++ news)), p.1 < h5.objs.size := fun p hp => Heap.lt_size (N5 p hp).1
  generalize h5.objs.size = lq at *
  clear N4 N5 N6 F F2 F3 F4 F5 F6
  have hds : ∀ d ∈ digs k (nDigs k a) a, 0 ≤ d ∧ d < 2 ^ k := fun d hd => digs_range hd
  -- the loop
  refine exFor (g := g') (L := L') (fun i m' led' => ∃ qvs qs r tr, led' = (lq, listOf qvs.toArray i) :: (l, listOf avs.toArray z) :: (t2' ++ (t1 ++ news)) ∧ IntsAre qvs qs ∧ qs.length = i ∧ (∀ q ∈ qs, 0 ≤ q ∧ q < 2 ^ k) ∧
      dval k qs.reverse = dval k ((digs k (nDigs k a) a).drop (nDigs k a - i)) / b ∧ r = dval k ((digs k (nDigs k a) a).drop (nDigs k a - i)) % b ∧
      m' (Str.ofString "b") = some (.int b u2) ∧ m' (Str.ofString "n") = some (.int (k : Int) y1) ∧ m' (Str.ofString "r") = some (.int r tr) ∧ m' (Str.ofString "q_digits") = some (.ref lq))
    [(l, listOf avs.toArray z)] avs.length (fun i v => avs[avs.length - 1 - i]? = some v) ?_ ?_ ?_
  · -- reversed
    refine callBootT H F7 rfl boot_reversed (Ps := [IsV (.ref l)]) ⟨evName F7 rfl rfl, rfl, trivial⟩ ?_
    intro ws tk8 hws
    obtain ⟨v1, rfl, rfl⟩ := allV1 hws
    refine readyRev (s := { s with heap := h7, toks := tk8 }) H.hh F7 N7 (.tail _ (.head _)) fun it h8 hself hr => ?_
    refine hself ⟨h8, tk8, _, _, rfl, hr, ?_, ?_⟩
    · intro p hp
      rw [List.mem_singleton.mp hp]
      exact .tail _ (.head _)
    · refine ⟨[], [], 0, y2, rfl, .nil, rfl, (fun q hq => nomatch hq), ?_, ?_, rfl, rfl, rfl, rfl⟩
      · rw [Nat.sub_zero, List.drop_eq_nil_of_le (by rw [digs_len]; omega)]
        simp [dval]
      · rw [Nat.sub_zero, List.drop_eq_nil_of_le (by rw [digs_len]; omega)]
        simp [dval]
  · rintro i v m1 led1 h8 tk8 I oI hi hv ⟨qvs, qs, r, tr, rfl, hIq, hql, hqr, hdq, hr, hmb, hmn, hmr, hmq⟩ hkeep F8 N8 hne8
    rw [hIl] at hi
    obtain ⟨d, hd⟩ : ∃ d, (digs k (nDigs k a) a)[nDigs k a - 1 - i]? = some d := ⟨_, List.getElem?_eq_getElem (by rw [digs_len]; omega)⟩
    obtain ⟨td, htd⟩ := hI3.get _ d hd
    rw [hIl, htd] at hv
    cases hv
    have hd0 := hds d (List.mem_of_getElem? hd)
    have hr0 : 0 ≤ r := by rw [hr]; exact Int.emod_nonneg _ (by omega)
    have hr1 : r < b := by rw [hr]; exact Int.emod_lt_of_pos _ hb
    have hp := pow_pos' k
    have hrb := bits_of hr0 (Int.lt_trans hr1 hbu)
    have hx1 : r * 2 ^ k + d < b * 2 ^ k := by
      have := Int.mul_le_mul_of_nonneg_right (a := r) (b := b - 1) (c := 2 ^ k) (by omega) (by omega)
      rw [Int.sub_mul, Int.one_mul] at this
      omega
    have hx0 : 0 ≤ r * 2 ^ k + d := by
      have := Int.mul_nonneg hr0 (Int.le_of_lt hp)
      omega
    refine goStore F8 N8 fun h9 tk9 F9 N9 => ?_
    refine exPairE H (callName H F9 rfl rfl (Ps := [IsI (r * 2 ^ k + d), IsI b, IsI (k : Int)]) ⟨evAdd (evShlN (evName F9 hmr isI) (evName F9 hmn isI) (by omega)) (evName F9 rfl isI), rfl, evName F9 hmb isI, rfl, evName F9 hmn isI, rfl, trivial⟩ ?_)
    intro ws tk10 hws
    obtain ⟨v1, v2, v3, rfl, ⟨w1, rfl⟩, ⟨w2, rfl⟩, ⟨w3, rfl⟩⟩ := allV3 hws
    refine d2_spec 2 (by omega) A' _ g' L' _ _ _ _ (r * 2 ^ k + d) b k w1 w2 w3 H F9 N9 (R.le (by omega)) hk1 (by omega) hbl hbu hx0 hx1 ?_
    intro p x1 x2 h10 tk11 F10 N10 lt10
    refine ⟨p, _, _, _, _, rfl, News.isTup N10 (.head _), F10, fun q hq => N10 q (.tail _ hq), ?_⟩
    intro h11 tk12 F11 N11
    refine exExpr (methList N11 (.tail _ (.head _)) PySem.F.slot_list_append PySem.F.type_list_append (evName F11 hmq rfl) (Ps := [IsI ((r * 2 ^ k + d) / b)]) ⟨evName F11 rfl isI, rfl, trivial⟩ ?_)
    intro ws tk13 hws
    obtain ⟨v1, rfl, ⟨w4, rfl⟩⟩ := allV1 hws
    have hqvl := hIq.length
    have hlqne : ∀ p ∈ (l, listOf avs.toArray z) :: (t2' ++ (t1 ++ news)), p.1 ≠ lq := fun p hp => Nat.ne_of_lt (hlq p hp)
    refine ⟨append_K (s := { s with heap := h11, toks := tk13 }) F11 N11 (.tail (Ne.symm (hne8 _ (.head _))) (.head hlqne)) (fun h12 F12 N12 => ?_) (by show qvs.toArray.size ≤ sizeLine; rw [List.size_toArray, sizeLine_eq]; omega)⟩
    refine ⟨rfl, exNil ⟨rfl, _, _, h12, tk13, rfl, F12, N12, ?_, ?_, ?_⟩⟩
    · intro p hp
      rcases List.mem_cons.mp hp with rfl | hp
      · exact hne8 (lq, listOf qvs.toArray i) (.head _)
      · exact hne8 _ (.tail _ hp)
    · intro p hp
      rw [List.mem_singleton.mp hp]
      exact .tail _ (.head _)
    · have hdl : (digs k (nDigs k a) a).length = nDigs k a := digs_len
      have hdd := dval_drop (n := k) (ds := digs k (nDigs k a) a) (i := i) (d := d) (by omega) (by rw [hdl]; exact hd)
      rw [hdl] at hdd
      have hst := step_div (A := dval k ((digs k (nDigs k a) a).drop (nDigs k a - i))) (d := d) (B := 2 ^ k) hb
      have e5 : dval k ((digs k (nDigs k a) a).drop (nDigs k a - (i + 1))) = dval k ((digs k (nDigs k a) a).drop (nDigs k a - i)) * 2 ^ k + d := by
        rw [hdd, Int.mul_comm, Int.add_comm]
      refine ⟨qvs ++ [.int ((r * 2 ^ k + d) / b) w4], qs ++ [(r * 2 ^ k + d) / b], (r * 2 ^ k + d) % b, x2, ?_, hIq.append (.cons _ _ .nil), by simp [hql], ?_, ?_, ?_, hmb, hmn, rfl, hmq⟩
      · simp
      · intro q hq
        rcases List.mem_append.mp hq with h | h
        · exact hqr q h
        · rw [List.mem_singleton.mp h]
          refine ⟨Int.ediv_nonneg hx0 (by omega), Int.ediv_lt_of_lt_mul hb ?_⟩
          rw [Int.mul_comm (2 ^ k) b]; exact hx1
      · rw [List.reverse_append, List.reverse_singleton, List.singleton_append, dval, hdq, e5, hst.1, ← hr, Int.mul_comm (2 ^ k), Int.add_comm]
      · rw [e5, hst.2, ← hr]
  · rintro m1 led1 h8 tk8 ⟨qvs, qs, r, tr, rfl, hIq, hql, hqr, hdq, hr, hmb, hmn, hmr, hmq⟩ hkeep F8 N8
    have hlt : a < 2 ^ (nDigs k a * k) := lt_pow_digs hk1 ha
    rw [hIl, Nat.sub_self, List.drop_zero, dval_digs ha hlt] at hdq hr
    rw [hIl] at hql
    have hlqne : ∀ p ∈ (l, listOf avs.toArray z) :: (t2' ++ (t1 ++ news)), p.1 ≠ lq := fun p hp => Nat.ne_of_lt (hlq p hp)
    have hqvl := hIq.length
    refine exExpr (methList0 N8 (.head _) PySem.F.slot_list_reverse PySem.F.type_list_reverse (evName F8 hmq rfl) ?_)
    intro tk9
    refine ⟨kl_reverse (s := { s with heap := h8, toks := tk9 }) F8 N8 rfl (.head hlqne) (by rw [sizeLine_eq]; show qvs.length ≤ _; omega) (fun h9 F9 N9 => ⟨rfl, ?_⟩)⟩
    have N9' : News g' L' h9 (t1 ++ ((lq, listOf (qvs.reverse).toArray avs.length) :: (t2' ++ news))) := fun p hp => N9 p (sb_under (fun q => .tail _ (sb_c3 q)) (sb_c1 hp))
    obtain ⟨o71, o64⟩ := T'.off N9' (fun p hp => List.mem_append_left _ hp) (fun p hp => List.mem_append_right _ (.tail _ (List.mem_append_left _ hp)))
    have olq := T'.offObj N9' (fun p hp => List.mem_append_left _ hp) (fun p hp => List.mem_append_right _ (.tail _ (List.mem_append_left _ hp))) (List.mem_append_right _ (.head _)) (fun vs e => by cases e)
    refine exAsgE (g := g') (callName H F9 rfl rfl (Ps := [IsV (.ref lq), IsI (k : Int)]) ⟨evName F9 hmq rfl, rfl, evName F9 hmn isI, rfl, trivial⟩ ?_)
    intro ws tk10 hws
    obtain ⟨v1, v2, rfl, rfl, ⟨w2, rfl⟩⟩ := allV2 hws
    refine d2i_spec (s := { s with heap := h9, toks := tk10 }) (ds := qs.reverse) (B := k) H F9 N9' T'.d ?_ (R.le (by simp; omega)) (.head _) rfl rfl hIq.reverse ?_ (by simp; omega) ?_ (by omega) ?_
    · intro p hp
      rcases List.mem_cons.mp hp with rfl | hp
      · exact olq.1
      rcases List.mem_append.mp hp with h | h
      · exact o71 p h
      · exact (hoff p h).1
    · intro d hd
      have := hqr d (List.mem_reverse.mp hd)
      exact bits_of this.1 this.2
    · rw [List.length_reverse, hql]
      have : (k + 1) * nDigs k a ≤ 16001 * 100 := Nat.mul_le_mul (by omega) hnd
      omega
    intro t1' u h10 tk11 F10 N10 T1'
    refine ⟨_, _, F10, N10, fun h11 tk12 F11 N11 => ?_⟩
    rw [hdq] at F11
    refine exRetPair F11 N11 (evName F11 rfl isI) (evName F11 hmr isI) ?_
    rintro v1 v2 p h12 tk13 ⟨w5, rfl⟩ ⟨w6, rfl⟩ F12 N12 lt12
    rw [hr] at N12
    have N13 : News g' L' h12 ((p, tupObj [.int (a / b) w5, .int (a % b) w6]) :: (t1' ++ (t2' ++ news))) := fun q hq => N12 q (sb_under (sb_app fun q => .tail _ q) hq)
    exact Lv.mk' F12 N13 fun FF NN => hret p w5 w6 t1' t2' h12 tk13 FF NN ⟨T1', T'.i⟩ fun q hq => lt12 q (List.mem_append_right _ (.tail _ (List.mem_append_right _ hq)))
end Mine
end

-- Im
section
open PySem PySem.W PyProof.Rows PySem.Calls
set_option Elab.async false
set_option maxRecDepth 100000
set_option linter.all false
namespace Mine

theorem nDigs_le {x : Int} {k M : Nat} (h : x.natAbs < 2 ^ M) (hM : (M + k - 1) / k ≤ 100) : nDigs k x ≤ 100 := by
  have := intBits_le h
  exact Nat.le_trans (Nat.div_le_div_right (by omega)) hM

/-- what a call of int_divmod gives -/
def ImSpec (w : World) (d : Nat) (a b : Int) : Prop :=
  ∀ (A : Around) (env : Env) (g : Heap) (L : Addr) (m : Mp) (s : Shared) (news t1 t2 : Led) (Q : Value → Shared → Prop) (u1 u2 : Tok),
    Here w A env g L → Fr g L s.heap m → News g L s.heap (t1 ++ (t2 ++ news)) → TT t1 t2 → Off news → Room A d →
    (∀ p t t' t1' t2' h' tk, Fr g L h' m → News g L h' ((p, tupObj [.int (a.fdiv b) t, .int (a.fmod b) t']) :: (t1' ++ (t2' ++ news))) → TT t1' t2' → (∀ q ∈ news, q.1 < p) → Q (.ref p) { s with heap := h', toks := tk }) →
    Go w A (call (.ref 90) [.int a u1, .int b u2]) Q s

theorem im_pos {w : World} {a b : Int} {k M : Nat} (ha : 0 ≤ a) (hb : 0 < b) (hk : k = Builtin.Int.intBits b) (hk2 : k ≤ 16000) (haM : a.natAbs < 2 ^ M) (hM : (M + k - 1) / k ≤ 100) : ImSpec w 121 a b := by
  intro A env g L m s news t1 t2 Q u1 u2 H F N T hoff R hret
  refine' enter (d := 120) (binds := [(Str.ofString "a", .int a u1), (Str.ofString "b", .int b u2)]) H F N R ?ho ?hcd ?hb ?hl ?c1 ?c2 ?c3 ?c4 ?_
  case ho => exact rfl
  case hcd => exact rfl
  case hb => exact rfl
  case hl => exact rfl
  case c1 => exact rfl
  case c2 => exact rfl
  case c3 => exact rfl
  case c4 => decide
  clear H F N R
  intro g' L' h₁ A' tk H F N R lt
  refine exIf (evEq (evName F rfl isI) evInt) (fun hc => absurd (eq_of_beq hc) (by omega)) fun _ tk1 => ?_
  refine exIf (evLt (evName F rfl isI) evInt) (fun hc => absurd (of_decide_eq_true hc) (by omega)) fun _ tk2 => ?_
  refine exIf (evLt (evName F rfl isI) evInt) (fun hc => absurd (of_decide_eq_true hc) (by omega)) fun _ tk3 => ?_
  refine exRetE (callName H F rfl rfl (Ps := [IsI a, IsI b]) ⟨evName F rfl isI, rfl, evName F rfl isI, rfl, trivial⟩ ?_)
  intro ws tk4 hws
  obtain ⟨v1, v2, rfl, ⟨w1, rfl⟩, ⟨w2, rfl⟩⟩ := allV2 hws
  refine dmp_spec (s := { s with heap := h₁, toks := tk4 }) H F N T hoff R ha hb hk hk2 (nDigs_le haM hM) ?_
  intro p t t' t1' t2' h' tk5 F' N' T' lt'
  rw [← fdiv_pos hb, ← fmod_pos hb] at N'
  exact Lv.mk' F' N' fun FF NN => hret p t t' t1' t2' h' tk5 FF NN T' lt'

theorem im_b {w : World} {a b : Int} {k M : Nat} (hb : 0 < b) (hk : k = Builtin.Int.intBits b) (hk2 : k ≤ 16000) (haM : a.natAbs < 2 ^ M) (hM : (M + k - 1) / k ≤ 100) : ImSpec w 122 a b := by
  intro A env g L m s news t1 t2 Q u1 u2 H F N T hoff R hret
  by_cases ha : 0 ≤ a
  · exact im_pos ha hb hk hk2 haM hM A env g L m s news t1 t2 Q u1 u2 H F N T hoff (R.le (by omega)) hret
  refine' enter (d := 121) (binds := [(Str.ofString "a", .int a u1), (Str.ofString "b", .int b u2)]) H F N R ?ho ?hcd ?hb ?hl ?c1 ?c2 ?c3 ?c4 ?_
  case ho => exact rfl
  case hcd => exact rfl
  case hb => exact rfl
  case hl => exact rfl
  case c1 => exact rfl
  case c2 => exact rfl
  case c3 => exact rfl
  case c4 => decide
  clear H F N R
  intro g' L' h₁ A' tk H F N R lt
  refine exIf (evEq (evName F rfl isI) evInt) (fun hc => absurd (eq_of_beq hc) (by omega)) fun _ tk1 => ?_
  refine exIf (evLt (evName F rfl isI) evInt) (fun hc => absurd (of_decide_eq_true hc) (by omega)) fun _ tk2 => ?_
  refine exIf (evLt (evName F rfl isI) evInt) (fun _ tk3 => ?_) fun hc => absurd (of_decide_eq_false hc) (by omega)
  refine exPairE H (callName H F rfl rfl (Ps := [IsI (Builtin.bitNot a), IsI b]) ⟨evInv (evName F rfl isI), rfl, evName F rfl isI, rfl, trivial⟩ ?_)
  intro ws tk4 hws
  obtain ⟨v1, v2, rfl, ⟨w1, rfl⟩, ⟨w2, rfl⟩⟩ := allV2 hws
  have hnot : Builtin.bitNot a = -a - 1 := by unfold Builtin.bitNot; omega
  rw [hnot]
  refine im_pos (a := -a - 1) (by omega) hb hk hk2 (by omega) hM A' _ g' L' _ _ news t1 t2 _ w1 w2 H F N T hoff R ?_
  intro p t t' t1' t2' h2 tk5 F2 N2 T' lt2
  refine ⟨p, _, _, _, _, rfl, News.isTup N2 (.head _), F2, fun q hq => N2 q (.tail _ hq), ?_⟩
  intro h3 tk6 F3 N3
  have e : a.fdiv b = Builtin.bitNot ((-a - 1).fdiv b) ∧ a.fmod b = b + Builtin.bitNot ((-a - 1).fmod b) := by
    rw [fdiv_pos hb, fmod_pos hb, fdiv_pos hb, fmod_pos hb]
    have e1 := Int.mul_ediv_add_emod (-a - 1) b
    have e2 := Int.emod_nonneg (-a - 1) (b := b) (by omega)
    have e3 := Int.emod_lt_of_pos (-a - 1) hb
    have f1 : Builtin.bitNot ((-a - 1) / b) = -((-a - 1) / b) - 1 := by unfold Builtin.bitNot; omega
    have f2 : Builtin.bitNot ((-a - 1) % b) = -((-a - 1) % b) - 1 := by unfold Builtin.bitNot; omega
    rw [f1, f2]
    have := qr_unique (a := a) (b := b) (q := -((-a - 1) / b) - 1) (r := b + (-((-a - 1) % b) - 1)) hb (by
      rw [Int.sub_mul, Int.neg_mul, Int.one_mul]
      rw [Int.mul_comm] at e1
      omega) (by omega) (by omega)
    exact ⟨this.1.symm, this.2.symm⟩
  refine exRetPair (P₁ := IsI (a.fdiv b)) (P₂ := IsI (a.fmod b)) F3 N3 (by rw [e.1]; exact evInv (evName F3 rfl isI)) (by rw [e.2]; exact evAdd (evName F3 rfl isI) (evInv (evName F3 rfl isI))) ?_
  rintro v1 v2 p2 h4 tk7 ⟨x1, rfl⟩ ⟨x2, rfl⟩ F4 N4 lt4
  exact Lv.mk' F4 N4 fun FF NN => hret p2 x1 x2 t1' t2' h4 tk7 FF NN T' fun q hq => lt4 q (List.mem_append_right _ (List.mem_append_right _ hq))

theorem im_spec {w : World} {a b : Int} {k M : Nat} (hb : b ≠ 0) (hk : k = Builtin.Int.intBits b) (hk2 : k ≤ 16000) (haM : a.natAbs < 2 ^ M) (hM : (M + k - 1) / k ≤ 100) : ImSpec w 123 a b := by
  intro A env g L m s news t1 t2 Q u1 u2 H F N T hoff R hret
  by_cases hb0 : 0 < b
  · exact im_b hb0 hk hk2 haM hM A env g L m s news t1 t2 Q u1 u2 H F N T hoff (R.le (by omega)) hret
  refine' enter (d := 122) (binds := [(Str.ofString "a", .int a u1), (Str.ofString "b", .int b u2)]) H F N R ?ho ?hcd ?hb ?hl ?c1 ?c2 ?c3 ?c4 ?_
  case ho => exact rfl
  case hcd => exact rfl
  case hb => exact rfl
  case hl => exact rfl
  case c1 => exact rfl
  case c2 => exact rfl
  case c3 => exact rfl
  case c4 => decide
  clear H F N R
  intro g' L' h₁ A' tk H F N R lt
  refine exIf (evEq (evName F rfl isI) evInt) (fun hc => absurd (eq_of_beq hc) (by omega)) fun _ tk1 => ?_
  refine exIf (evLt (evName F rfl isI) evInt) (fun _ tk2 => ?_) fun hc => absurd (of_decide_eq_false hc) (by omega)
  refine exPairE H (callName H F rfl rfl (Ps := [IsI (-a), IsI (-b)]) ⟨evNeg (evName F rfl isI), rfl, evNeg (evName F rfl isI), rfl, trivial⟩ ?_)
  intro ws tk4 hws
  obtain ⟨v1, v2, rfl, ⟨w1, rfl⟩, ⟨w2, rfl⟩⟩ := allV2 hws
  have hbn : Builtin.Int.intBits (-b) = Builtin.Int.intBits b := by
    unfold Builtin.Int.intBits
    rw [Int.natAbs_neg]
    have h1 : ¬ (b == 0) = true := by simpa using hb
    have h2 : ¬ (-b == 0) = true := by simpa using (show -b ≠ 0 by omega)
    rw [if_neg h1, if_neg h2]
  refine im_b (a := -a) (b := -b) (by omega) (by rw [hbn]; exact hk) hk2 (by rw [Int.natAbs_neg]; exact haM) hM A' _ g' L' _ _ news t1 t2 _ w1 w2 H F N T hoff R ?_
  intro p t t' t1' t2' h2 tk5 F2 N2 T' lt2
  refine ⟨p, _, _, _, _, rfl, News.isTup N2 (.head _), F2, fun q hq => N2 q (.tail _ hq), ?_⟩
  intro h3 tk6 F3 N3
  have e1 : (-a).fdiv (-b) = a.fdiv b := Int.neg_fdiv_neg ..
  have e2 : a.fmod b = -((-a).fmod (-b)) := by
    have f1 := Int.mul_fdiv_add_fmod a b
    have f2 := Int.mul_fdiv_add_fmod (-a) (-b)
    rw [e1, Int.neg_mul] at f2
    omega
  refine exRetPair (P₁ := IsI (a.fdiv b)) (P₂ := IsI (a.fmod b)) F3 N3 (by rw [← e1]; exact evName F3 rfl isI) (by rw [e2]; exact evNeg (evName F3 rfl isI)) ?_
  rintro v1 v2 p2 h4 tk7 ⟨x1, rfl⟩ ⟨x2, rfl⟩ F4 N4 lt4
  exact Lv.mk' F4 N4 fun FF NN => hret p2 x1 x2 t1' t2' h4 tk7 FF NN T' fun q hq => lt4 q (List.mem_append_right _ (List.mem_append_right _ hq))
end Mine
end

-- Cn
section
open PySem PySem.W PyProof.Rows PySem.Calls
set_option Elab.async false
set_option maxRecDepth 100000
set_option linter.all false
namespace Mine

/-- the number that a row of coefficients is laid into -/
def laid (n : Nat) (cs : List Int) : Int := dval n (cs ++ List.replicate (9 - cs.length) 0).reverse

theorem fdiv_shift {a U high sg : Int} (hU : U ≠ 0) (hs : sg = 1 ∨ sg = -1) : (sg * a + high * (sg * U)).fdiv (sg * U) = a.fdiv U + high := by
  have key : (a + high * U).fdiv U = a.fdiv U + high := Int.add_mul_fdiv_right a high hU
  rcases hs with rfl | rfl
  · rw [Int.one_mul, Int.one_mul]; exact key
  · rw [show (-1 : Int) * a + high * (-1 * U) = -(a + high * U) by rw [Int.neg_one_mul, Int.neg_one_mul, Int.mul_neg]; omega, Int.neg_one_mul, Int.neg_fdiv_neg]
    exact key

theorem laid_bits {n : Nat} {cs : List Int} (hc : ∀ c ∈ cs, Builtin.Int.intBits c ≤ 10) (hl : cs.length ≤ 9) : Builtin.Int.intBits (laid n cs) ≤ 10 + (n + 1) * 9 := by
  have h := dval_bits (n := n) (B := 10) (ds := (cs ++ List.replicate (9 - cs.length) 0).reverse) (fun d hd => by
    rcases List.mem_append.mp (List.mem_reverse.mp hd) with h | h
    · exact hc d h
    · rw [List.eq_of_mem_replicate h]
      exact Nat.zero_le _)
  have e : (cs ++ List.replicate (9 - cs.length) 0).reverse.length = 9 := by simp; omega
  rw [e] at h
  exact h

theorem bits_sg {x sg : Int} (hs : sg = 1 ∨ sg = -1) : Builtin.Int.intBits (sg * x) = Builtin.Int.intBits x := by
  rcases hs with rfl | rfl
  · rw [Int.one_mul]
  · rw [Int.neg_one_mul]
    unfold Builtin.Int.intBits
    rw [Int.natAbs_neg]
    by_cases h : x = 0
    · subst h; rfl
    · rw [if_neg (by simpa using h), if_neg (by simpa using (show -x ≠ 0 by omega))]

/-- (cs + [0] * (9 - len(cs)))[::-1] -/
theorem goLaid {w : World} {A : Around} {env : Env} {g : Heap} {L : Addr} {m : Mp} {s : Shared} {led : Led} {Q : Value → Shared → Prop} {cn : Str} {cs : Scope} {a : Addr} {ccd : Value} {cl : List (Str × Addr)} {x : Str} {l : Addr} {vs : List Value} {ns : List Int} {z : Nat}
    {p1 p2 p3 p4 p5 p6 p7 p8 p9 p10 p11 p12 p13 p14 : Pos} {k1 k2 k3 : Nat}
    (H : Here w A env g L) (F : Fr g L s.heap m) (N : News g L s.heap led) (hm : m x = some (.ref l)) (hl : (l, listOf vs.toArray z) ∈ led) (hI : IntsAre vs ns) (hlen : ns.length ≤ 9)
    (h : ∀ D ws h' tk, Fr g L h' m → News g L h' ((D, listOf ws.toArray 0) :: led) → IntsAre ws (ns ++ List.replicate (9 - ns.length) 0).reverse → Q (.ref D) { s with heap := h', toks := tk })
    (hk : cs.kind = .function) (hx : (envX cn cs L a ccd cl).kindOf x = some .local) (hx2 : (envX cn cs L a ccd cl).kindOf (Str.ofString "len") = some .globalImplicit) (hdb : (x == ("__debug__" : Str)) = false) :
    Go w A (eval (.Subscript (.BinOp (.Name x p1) .Add (.BinOp (.List [.Constant (.int 0) k1 p2] p3) .Mult (.BinOp (.Constant (.int 9) k2 p4) .Sub (.Call (.Name (Str.ofString "len") p5) [.Name x p6] [] p7) p8) p9) p10) (.Slice none none (some (.UnaryOp .USub (.Constant (.int 1) k3 p11) p12)) p13) p14) (envX cn cs L a ccd cl)) Q s := by
  have hIl := hI.length
  refine goSlice (g := g) (L := L) (plo := none) (pup := none) (pst := some (-1)) (goBin ((evName F hm (P := IsV (.ref l)) rfl hk hx hdb).go ?_))
  rintro v tk1 rfl
  refine goBin ⟨List_ (args_cons (evInt.run _ _ _ rfl fun v0 tk0 hv0 => args_nil ?_) rfl)⟩
  obtain ⟨t0, rfl⟩ := hv0
  refine newList_N (s := { s with toks := tk0 }) F N (fun h2 F2 N2 => ?_) (by show 1 ≤ sizeLine; decide)
  refine Ev.go (P := IsI ((9 - ns.length : Nat) : Int)) (by
    have e : ((9 - ns.length : Nat) : Int) = 9 - ((vs.toArray.size : Nat) : Int) := by simp [hIl]; omega
    rw [e]
    exact evSub evInt (evLen H F2 (evName F2 hm rfl hk hx hdb) (News.isList N2 (.tail _ hl)) (by simp; omega) (hk := hk) (hx := hx2))) ?_
  rintro v tk2 ⟨t3, rfl⟩
  refine ⟨mul_list (s := { s with heap := h2, toks := tk2 }) F2 N2 (N2 _ (.head _)).1 (by omega) (by omega) (by show 1 * (9 - ns.length) ≤ 2 ^ 24; omega) fun h3 F3 N3 => ?_⟩
  have e4 : List.foldl (fun x1 x2 => x1 ++ x2) #[] (List.replicate (if (List.toArray [Value.int 0 t0]).isEmpty = true then 0 else ((9 - ns.length : Nat) : Int).toNat) (List.toArray [Value.int 0 t0])) = (List.replicate (9 - ns.length) (Value.int 0 t0)).toArray := by
    rw [if_neg (by simp), Int.toNat_natCast]
    exact (foldl_rep _ _ _).trans (Array.empty_append)
  rw [e4] at N3
  refine ⟨kmk_add_ints (s := { s with heap := h3, toks := tk2 }) F3 N3 (News.isList N3 (.tail _ (.tail _ hl))) (News.isList N3 (.head _)) hI (ints_rep t0 _) (fun D us h4 F4 N4 lt4 hI4 => ?_) (by rw [sizeLine_eq]; simp; omega)⟩
  refine ⟨D, us.toArray, _, _, rfl, F4, N4, News.isList N4 (.head _), ?_, evP0, evP0, evP1 (evNeg evInt), ?_⟩
  · have := hI4.length
    rw [sizeLine_eq]; simp at this ⊢; omega
  intro D2 h5 tk3 F5 N5 lt5
  rw [krv_pick] at N5
  exact h D2 us.reverse h5 tk3 F5 (fun p hp => N5 p (by
    rcases List.mem_cons.mp hp with rfl | hp
    · exact .head _
    · exact List.mem_cons_of_mem _ (List.mem_cons_of_mem _ (List.mem_cons_of_mem _ (List.mem_cons_of_mem _ hp))))) hI4.reverse
end Mine
namespace Mine
set_option maxHeartbeats 4000000 in
theorem cnt_spec {w : World} {A : Around} {env : Env} {g : Heap} {L : Addr} {m : Mp} {s : Shared} {news t1 t2 : Led} {Q : Value → Shared → Prop} {lo lu : Addr} {ovs uvs : List Value} {os us : List Int} {z1 z2 n bd : Nat} {sg high : Int} {u1 u2 u3 u4 : Tok}
    (H : Here w A env g L) (F : Fr g L s.heap m) (N : News g L s.heap (t1 ++ (t2 ++ news))) (T : TT t1 t2) (hoff : Off news) (R : Room A 125)
    (hlo : (lo, listOf ovs.toArray z1) ∈ news) (hlu : (lu, listOf uvs.toArray z2) ∈ news) (hIo : IntsAre ovs os) (hIu : IntsAre uvs us) (hol : os.length ≤ 9) (hul : us.length ≤ 9)
    (hoc : ∀ c ∈ os, Builtin.Int.intBits c ≤ 10) (huc : ∀ c ∈ us, Builtin.Int.intBits c ≤ 10) (hn1 : 16 ≤ n) (hn2 : n ≤ 1400) (hbd : bd ≤ 4) (hsg : sg = 1 ∨ sg = -1) (hhi : Builtin.Int.intBits high ≤ 10 * n)
    (hU0 : laid n us ≠ 0) (hUk : n ≤ Builtin.Int.intBits (laid n us)) (hX0 : 0 ≤ (laid n os * 2 ^ (n * bd)).fdiv (laid n us))
    (hret : ∀ D ws t1' t2' h' tk, Fr g L h' m → News g L h' ((D, listOf ws.toArray 0) :: (t1' ++ (t2' ++ news))) → TT t1' t2' → (∀ q ∈ news, q.1 < D) →
      IntsAre ws (digs n (nDigs n ((laid n os * 2 ^ (n * bd)).fdiv (laid n us))) ((laid n os * 2 ^ (n * bd)).fdiv (laid n us))).reverse → Q (.ref D) { s with heap := h', toks := tk }) :
    Go w A (call (.ref 126) [.ref lo, .ref lu, .int (bd : Int) u1, .int (n : Int) u2, .int sg u3, .int high u4]) Q s := by
  have hnb : n * bd ≤ 5600 := Nat.mul_le_mul hn2 hbd
  have hnb4 : n * bd ≤ n * 4 := Nat.mul_le_mul_left _ hbd
  have bO := laid_bits (n := n) hoc hol
  have bU := laid_bits (n := n) huc hul
  have bsg : Builtin.Int.intBits sg ≤ 1 := by rcases hsg with rfl | rfl <;> decide
  refine' enter (d := 124) (binds := [(Str.ofString "over", .ref lo), (Str.ofString "under", .ref lu), (Str.ofString "bound", .int (bd : Int) u1), (Str.ofString "width", .int (n : Int) u2), (Str.ofString "sign", .int sg u3), (Str.ofString "high", .int high u4)]) H F N R ?ho ?hcd ?hb ?hl ?c1 ?c2 ?c3 ?c4 ?_
  case ho => exact rfl
  case hcd => exact rfl
  case hb => exact rfl
  case hl => exact rfl
  case c1 => exact rfl
  case c2 => exact rfl
  case c3 => exact rfl
  case c4 => decide
  clear H F N R
  intro g' L' h₁ A' tk H F N R lt
  -- one laying of coefficients, as a call of _digits2int
  have lay : ∀ (t1 t2 : Led) (m : Mp) (s : Shared) (x : Str) (l : Addr) (vs : List Value) (cs : List Int) (z : Nat) (Q : Value → Shared → Prop) (D : Addr) (ws : List Value) (uw : Tok), TT t1 t2 → Fr g' L' s.heap m → News g' L' s.heap ((D, listOf ws.toArray 0) :: (t1 ++ (t2 ++ news))) →
      IntsAre ws (cs ++ List.replicate (9 - cs.length) 0).reverse → (∀ c ∈ cs, Builtin.Int.intBits c ≤ 10) → cs.length ≤ 9 →
      (∀ t1' u h' tk, Fr g' L' h' m → News g' L' h' (t1' ++ (t2 ++ news)) → TT t1' t2 → Q (.int (laid n cs) u) { s with heap := h', toks := tk }) → Go w A' (call (.ref 76) [.ref D, .int (n : Int) uw]) Q s := by
    intro t1 t2 m s x l vs cs z Q D ws uw T F N hI hc hl k
    have N' : News g' L' s.heap (t1 ++ ((D, listOf ws.toArray 0) :: (t2 ++ news))) := fun p hp => N p (sb_c1 hp)
    obtain ⟨o71, o64⟩ := T.off N' (fun p hp => List.mem_append_left _ hp) (fun p hp => List.mem_append_right _ (.tail _ (List.mem_append_left _ hp)))
    have olq := T.offObj N' (fun p hp => List.mem_append_left _ hp) (fun p hp => List.mem_append_right _ (.tail _ (List.mem_append_left _ hp))) (List.mem_append_right _ (.head _)) (fun vs e => by cases e)
    have elen : (cs ++ List.replicate (9 - cs.length) 0).reverse.length = 9 := by simp; omega
    refine d2i_spec (ds := (cs ++ List.replicate (9 - cs.length) 0).reverse) (B := 10) H F N' T.d ?_ (R.le (by rw [elen]; omega)) (.head _) rfl rfl hI ?_ (by rw [elen]; omega) (by rw [elen]; omega) (by omega) ?_
    · intro p hp
      rcases List.mem_cons.mp hp with rfl | hp
      · exact olq.1
      rcases List.mem_append.mp hp with h | h
      · exact o71 p h
      · exact (hoff p h).1
    · intro d hd
      rcases List.mem_append.mp (List.mem_reverse.mp hd) with h | h
      · exact hc d h
      · rw [List.eq_of_mem_replicate h]
        exact Nat.zero_le _
    · intro t1' u h' tk F' N2 T1
      exact k t1' u h' tk F' (fun p hp => N2 p (sb_c2 hp)) ⟨T1, T.i⟩
  -- small
  refine exAsgE (g := g') (goBin ((evName F rfl (P := IsI sg) isI).go ?_))
  rintro v tk1 ⟨y1, rfl⟩
  refine callName2G (s := { s with heap := h₁, toks := tk1 }) H F rfl rfl (P2 := IsI (n : Int)) fun tk2 => ?_
  refine goLaid (s := { s with heap := h₁, toks := tk2 }) H F N rfl (List.mem_append_right _ (List.mem_append_right _ hlu)) hIu hul ?_ rfl rfl rfl (by decide)
  intro D ws h2 tk3 F2 N2 hI2
  refine ⟨⟨_, F2⟩, evName F2 rfl isI, ?_⟩
  rintro v2 tk4 ⟨y2, rfl⟩
  refine lay t1 t2 _ { s with heap := h2, toks := tk4 } (Str.ofString "") 0 [] us 0 _ D ws y2 T F2 N2 hI2 huc hul ?_
  intro t1a y3 h3 tk5 F3 N3 Ta
  refine ⟨P.mul_int ?_ (mulOk (by omega))⟩
  refine ⟨_, _, F3, N3, fun h4 tk6 F4 N4 => ?_⟩
  clear N N2 N3 F F2 F3
  -- big
  have bsU : Builtin.Int.intBits (sg * laid n us) ≤ 10 + (n + 1) * 9 := by rw [bits_sg hsg]; exact bU
  have bOs := bits_shl (k := n * bd) bO
  have bhs := intBits_mul_le hhi bsU
  refine exAsgE (g := g') (goBin (goBin ((evName F4 rfl (P := IsI sg) isI).go ?_)))
  rintro v tk7 ⟨y4, rfl⟩
  refine goBin (callName2G (s := { s with heap := h4, toks := tk7 }) H F4 rfl rfl (P2 := IsI (n : Int)) fun tk8 => ?_)
  refine goLaid (s := { s with heap := h4, toks := tk8 }) H F4 N4 rfl (List.mem_append_right _ (List.mem_append_right _ hlo)) hIo hol ?_ rfl rfl rfl (by decide)
  intro D2 ws2 h5 tk9 F5 N5 hI5
  refine ⟨⟨_, F5⟩, evName F5 rfl isI, ?_⟩
  rintro v2 tk10 ⟨y5, rfl⟩
  refine lay t1a t2 _ { s with heap := h5, toks := tk10 } (Str.ofString "") 0 [] os 0 _ D2 ws2 y5 Ta F5 N5 hI5 hoc hol ?_
  intro t1b y6 h6 tk11 F6 N6 Tb
  refine Ev.go (P := IsI ((n * bd : Nat) : Int)) (by
    rw [show ((n * bd : Nat) : Int) = (n : Int) * (bd : Int) from Int.natCast_mul ..]
    exact evMul (evName F6 rfl isI) (evName F6 rfl isI) (mulOk (by
      have := bits_of (k := 30) (show (0 : Int) ≤ (n : Int) by omega) (by omega)
      have := bits_of (k := 30) (show (0 : Int) ≤ (bd : Int) by omega) (by omega)
      omega))) ?_
  rintro v tk12 ⟨y7, rfl⟩
  refine ⟨lshift_int (n := ((n * bd : Nat) : Int)) (by omega) (by omega) ?_⟩
  rw [Int.toNat_natCast]
  refine ⟨P.mul_int ?_ (mulOk (by omega))⟩
  refine Ev.go (P := IsI (high * (sg * laid n us))) (evMul (evName F6 rfl isI) (evName F6 rfl isI) (mulOk (by omega))) ?_
  rintro v tk13 ⟨y8, rfl⟩
  refine ⟨P.add_int ?_⟩
  refine ⟨_, _, F6, N6, fun h7 tk14 F7 N7 => ?_⟩
  clear N4 N5 N6 F4 F5 F6
  -- the division
  have bsO : Builtin.Int.intBits (sg * (laid n os * 2 ^ (n * bd))) ≤ 10 + (n + 1) * 9 + n * bd := by rw [bits_sg hsg]; exact bOs
  have bbig := intBits_add_le bsO bhs
  have hbigM : (sg * (laid n os * 2 ^ (n * bd)) + high * (sg * laid n us)).natAbs < 2 ^ (40 * n) := intBits_le_iff.mp (by omega)
  have hsU0 : sg * laid n us ≠ 0 := by
    intro e
    rcases Int.mul_eq_zero.mp e with h | h
    · rcases hsg with rfl | rfl <;> omega
    · exact hU0 h
  have hdq := fdiv_shift (a := laid n os * 2 ^ (n * bd)) (high := high) hU0 hsg
  generalize hbig : sg * (laid n os * 2 ^ (n * bd)) + high * (sg * laid n us) = big at *
  generalize hsm : sg * laid n us = small at *
  refine exPairE H (callName H F7 rfl rfl (Ps := [IsI big, IsI small]) ⟨evName F7 rfl isI, rfl, evName F7 rfl isI, rfl, trivial⟩ ?_)
  intro ws3 tk15 hws
  obtain ⟨v1, v2, rfl, ⟨w1, rfl⟩, ⟨w2, rfl⟩⟩ := allV2 hws
  have hkk : Builtin.Int.intBits small = Builtin.Int.intBits (laid n us) := by rw [← hsm]; exact bits_sg hsg
  refine im_spec (M := 40 * n) hsU0 rfl (by omega) hbigM (by
    have h1 : n ≤ Builtin.Int.intBits small := by omega
    have h2 : 40 * n + Builtin.Int.intBits small - 1 ≤ Builtin.Int.intBits small * 41 := by omega
    exact Nat.le_trans (Nat.div_le_of_le_mul h2) (by omega)) A' _ g' L' _ _ news t1b t2 _ w1 w2 H F7 N7 Tb hoff (R.le (by omega)) ?_
  intro p y9 y10 t1c t2c h8 tk16 F8 N8 Tc lt8
  refine ⟨p, _, _, _, _, rfl, News.isTup N8 (.head _), F8, fun q hq => N8 q (.tail _ hq), ?_⟩
  intro h9 tk17 F9 N9
  have hfm := Int.mul_fdiv_add_fmod big small
  have bq := intBits_fdiv_le (y := small) bbig
  refine exIf (b := false) (by
    have e : ((big.fdiv small * small + big.fmod small) != big) = false := by
      rw [Int.mul_comm, hfm]; simp
    rw [← e]
    exact evNe (evAdd (evMul (evName F9 rfl isI) (evName F9 rfl isI) (mulOk (by omega))) (evName F9 rfl isI)) (evName F9 rfl isI)) (fun h => by cases h) fun _ tk18 => ?_
  refine exNil ?_
  -- the digits
  have hX : big.fdiv small - high = (laid n os * 2 ^ (n * bd)).fdiv (laid n us) := by rw [hdq]; omega
  generalize hXX : (laid n os * 2 ^ (n * bd)).fdiv (laid n us) = X at *
  have bX : Builtin.Int.intBits X ≤ 10 + (n + 1) * 9 + n * bd := by rw [← hXX]; exact intBits_fdiv_le bOs
  have hnd : nDigs n X ≤ 100 := by
    unfold nDigs
    have h3 : Builtin.Int.intBits X + n - 1 ≤ n * 20 := by omega
    exact Nat.le_trans (Nat.div_le_of_le_mul h3) (by omega)
  obtain ⟨o71, o64⟩ := Tc.off N9 (fun p hp => List.mem_append_left _ hp) (fun p hp => List.mem_append_right _ (List.mem_append_left _ hp))
  have N9' : News g' L' h9 (t2c ++ (t1c ++ news)) := fun p hp => N9 p (sb_c3 hp)
  refine exRetE (goSlice (g := g') (L := L') (plo := none) (pup := none) (pst := some (-1)) (callName (s := { s with heap := h9, toks := tk18 }) H F9 rfl rfl (Ps := [IsI X, IsI (n : Int)]) ⟨by rw [← hX]; exact evSub (evName F9 rfl isI) (evName F9 rfl isI), rfl, evName F9 rfl isI, rfl, trivial⟩ ?_))
  intro ws4 tk19 hws
  obtain ⟨v1, v2, rfl, ⟨w3, rfl⟩, ⟨w4, rfl⟩⟩ := allV2 hws
  have hndn : nDigs n X * n ≤ 100 * 1400 := Nat.mul_le_mul hnd hn2
  refine i2d_spec (s := { s with heap := h9, toks := tk19 }) H F9 N9' Tc.i ?_ (R.le (by omega)) hX0 (by omega) (by omega) (by omega) (by omega) (lt_pow_digs (by omega) hX0) ?_
  · intro p hp
    rcases List.mem_append.mp hp with h | h
    · exact o64 p h
    · exact (hoff p h).2
  intro t2d l dvs z h10 tk20 F10 N10 T2d hI10 lt10
  have hI10l := hI10.length
  rw [digs_len] at hI10l
  refine ⟨l, dvs.toArray, _, _, rfl, F10, N10, News.isList N10 (.head _), by rw [sizeLine_eq]; simp; omega, evP0, evP0, evP1 (evNeg evInt), ?_⟩
  intro D3 h11 tk21 F11 N11 lt11
  rw [krv_pick] at N11
  have N12 : News g' L' h11 ((D3, listOf (dvs.reverse).toArray 0) :: (t1c ++ (t2d ++ news))) := fun p hp => N11 p (sb_under (fun q => .tail _ (sb_c3 q)) hp)
  exact Lv.mk' F11 N12 fun FF NN => hret D3 dvs.reverse t1c t2d h11 tk21 FF NN ⟨Tc.d, T2d⟩ (fun q hq => lt11 q (.tail _ (List.mem_append_right _ (List.mem_append_right _ hq)))) hI10.reverse
end Mine
end

-- Uk
section
open PySem PySem.W PyProof.Rows PySem.Calls PySem.Builtin PySem.Builtin.Str
set_option Elab.async false
set_option maxRecDepth 100000
set_option linter.all false
namespace Mine
section
variable {w : World} {A : Around} {env : Env} {g : Heap} {L : Addr} {m : Mp} {s : Shared} {news : Led} {Q : Value → Shared → Prop}
/-- a call that leaves all that was there: the callee's ghost is the whole heap -/
theorem enterCK {name qual : Str} {params : Arguments} {body : List Stmt} {scope : Scope} {dV kV doc pm cdv ct oc : Value} {an od : Option Addr} {osl : Array (Option Value)} {f : Addr} {args : List Value} {binds : List (Str × Value)} {d : Nat}
    (H : Here w A env g L) (F : Fr g L s.heap m) (R : Room A (d + 1))
    (ho : (KK w).lookup f = some ⟨oc, od, .func (fnOf name qual params body scope dV kV doc pm an cdv ct), osl⟩) (hcd : codeIn (KK w) cdv qual = true)
    (hbind : bindArgs (fnOf name qual params body scope dV kV doc pm an cdv ct) ⟨args, []⟩ = pure binds) (hkind : (binds.all fun y => scope.names.lookup y.1 == some .local || scope.names.lookup y.1 == some .cell) = true)
    (hnd : ((cellsFrom 0 scope.names []).map (·.1)).Nodup)
    (hco : scope.isCoroutine = false) (hgen : scope.isGenerator = false) (hk : scope.kind = .function)
    (h : ∀ L' h₁ A' tk cells, Here w A' (envX qual scope L' f cdv (cellsFrom (L' + 1) scope.names [])) s.heap L' → Fr s.heap L' h₁ (bindL (envOfC qual scope L' f cdv).kindOf binds fun _ => none) → News s.heap L' h₁ cells →
      CellsAre (bindC (envOfC qual scope L' f cdv).kindOf binds fun _ => none) (cellsFrom (L' + 1) scope.names []) cells → Room A' d →
      Go w A' (execs body (envX qual scope L' f cdv (cellsFrom (L' + 1) scope.names [])))
        (fun fl s' => (∃ L2 m2, Fr s.heap L2 s'.heap m2) ∧ Q (match fl with | .ret v => v | _ => .none) s') { s with heap := h₁, toks := tk }) :
    Go w A (call (.ref f) args) Q s := by
  obtain ⟨p, loose, mean, mg, mb, T⟩ := H.T
  obtain ⟨A₀, base, outer, B, hA⟩ := H.B
  have N : News g L s.heap [] := fun _ q => nomatch q
  obtain ⟨FG, BG, st, lv⟩ := groundX (R := RR Q NoE) B F N hA H.hf H.hk
  have hX := H.X.keeps F.keep
  refine ⟨wpAny_call (codeAny_call_function (by have := R.1; omega) (hX _ _ ho) rfl hco hgen rfl (codeRec_of hX hcd) (BindsTo.of_eq hbind _ _ _ _ ?_))⟩
  refine wpAny_newFunctionEnv_cells hk (kindsX hkind _) fun env' he s' x => ?_
  subst he
  refine ⟨(T.nolimit.keeps F.keep).keeps x.toInCall.keep, codeAny_func ?_⟩
  obtain ⟨h₁, tk, rfl, _⟩ := x.done
  have hk₁ := x.toInCall.keep
  obtain ⟨cells, NC, Y⟩ := Cl.news (h₀ := s.heap) (Nat.le_refl _) fun n c hm => ⟨x.cell n c (lookup_of_mem_nodup (cellsFrom_names scope.names 0 (s.heap.objs.size + 1) [] [] rfl ▸ hnd) hm), x.above n c hm⟩
  refine wpAny_mono (h s.heap.objs.size h₁ _ tk cells ⟨hX, ⟨p, loose, mean, mg, mb, T.keeps F.keep⟩, ⟨A, base, env :: outer, BG, Around.frames_deeper hA⟩, rfl, hk, H.hh⟩ ⟨x.toInCall.ns, hk₁, Nat.le_refl _⟩ NC Y R.deeper).run (fun fl s' hl => ?_) fun _ _ z => z.elim
  exact hl.2
end
end Mine
end

-- Un
section
open PySem PySem.W PyProof.Rows PySem.Calls PySem.Builtin PySem.Builtin.Str
set_option Elab.async false
set_option maxRecDepth 100000
set_option linter.all false
namespace Mine
theorem walksLt {w : World} {A : Around} {I : Addr} {fp wr : List Addr} {n : Nat} {P : Nat → Value → Prop} {St : Nat → Heap → Prop} (W : Walks PR w A I fp wr n P St) : Walks PR w A I fp wr n (fun i v => i < n ∧ P i v) St :=
  { W with item := fun i s Q E hi st hQ => W.item i s Q E hi st fun v h' tk hP => hQ v h' tk ⟨hi, hP⟩ }
theorem Ready.lt {w : World} {A : Around} {g : Heap} {L : Addr} {keep : Led} {n : Nat} {P : Nat → Value → Prop} {m : Mp} {led : Led} {it : Value} {h : Heap} (r : Ready w A g L keep n P m led it h) : Ready w A g L keep n (fun i v => i < n ∧ P i v) m led it h := by
  obtain ⟨I, oI, fp, St, e, W, x⟩ := r.out
  exact ⟨I, oI, fp, St, e, walksLt W, x⟩
section
variable {w : World} {A : Around} {env : Env} {g : Heap} {L : Addr} {m : Mp} {s : Shared} {news : Led} {Q : Value → Shared → Prop} {cn : Str} {cs : Scope} {a : Addr} {ccd : Value} {cl : List (Str × Addr)}
theorem goSliceG {value : Expr} {lo up st : Option Expr} {sp pos : Pos} {plo pup pst : Option Int}
    (h : Go w A (eval value env) (fun o s1 => ∃ l items, o = .ref l ∧ s1.heap.IsList l items ∧ items.size ≤ sizeLine ∧ EvP w A env s1.heap lo plo ∧ EvP w A env s1.heap up pup ∧ EvP w A env s1.heap st pst ∧
      ∀ D h' tk, Grow s1.heap h' → h'.IsList D (slicePick items plo pup pst) → Q (.ref D) { s1 with heap := h', toks := tk }) s)
    (h0 : pst ≠ some 0 := by decide)
    (hs : ∀ l i, ∃ ops, subscripted (.Slice lo up st sp) false (.ref l) (.ref i) = operate ops (getItem (.ref l) (.ref i)) := by intro _ _; with_unfolding_all exact ⟨_, rfl⟩) :
    Go w A (eval (.Subscript value (.Slice lo up st sp) pos) env) Q s := by
  refine ⟨Subscript_ (wpAny_mono h.run (fun o s1 z => ?_) fun _ _ z => z)⟩
  obtain ⟨l, items, rfl, hl, hsz, e1, e2, e3, k⟩ := z
  refine wpAny_Slice (e1.run s1 _ _ rfl fun v1 tk1 p1 => e2.run { s1 with toks := tk1 } _ _ rfl fun v2 tk2 p2 => e3.run { s1 with toks := tk2 } _ _ rfl fun v3 tk3 p3 => ?_)
  obtain ⟨ops, hs'⟩ := hs l s1.heap.objs.size
  refine tail_any (T := "list") (ops := ops) (Heap.IsList.typeIs (s := { s1 with toks := tk3, heap := s1.heap.push { cls := .type "slice", data := .fields #[v1, v2, v3] } }) (hl.push _)) list_getitem_lookup
    (wpAny_getItem_list_slice (hl.push _) (Heap.IsSliceOf.new ..) p1 p2 p3 h0 ?_ hsz) hs'
  exact k _ _ tk3 (fun b o e => Heap.get?_push_of_some _ (Heap.get?_push_of_some _ e)) ⟨_, Heap.get?_push_size _ rfl, rfl, _, rfl⟩

theorem goLen {e : Expr} {p pos : Pos} (H : Here w A env g L) (F : Fr g L s.heap m)
    (h : ∀ tk, Go w A (eval e (envX cn cs L a ccd cl)) (fun v s1 => ∃ l items, v = .ref l ∧ s1.heap.IsList l items ∧ (items.size : Int) < 2 ^ 63 ∧ ∀ t tk, Q (.int items.size t) { s1 with toks := tk }) { s with toks := tk })
    (he : eval (.Call (.Name (Str.ofString "len") p) [e] [] pos) (envX cn cs L a ccd cl) = (do callWith pos (← eval (.Name (Str.ofString "len") p) (envX cn cs L a ccd cl)) [] (backTo pos (starEach [e] (envX cn cs L a ccd cl))) (backToKw pos (keywordEach [] (envX cn cs L a ccd cl)))) := by rfl)
    (he2 : starEach [e] (envX cn cs L a ccd cl) = (false, eval e (envX cn cs L a ccd cl)) :: starEach [] (envX cn cs L a ccd cl) := by rfl)
    (hk : cs.kind = .function := by rfl) (hx : (envX cn cs L a ccd cl).kindOf (Str.ofString "len") = some .globalImplicit := by rfl) :
    Go w A (eval (.Call (.Name (Str.ofString "len") p) [e] [] pos) (envX cn cs L a ccd cl)) Q s := by
  refine ⟨Call_ ((evBoot H F rfl boot_len (P := IsV (.builtin "len")) rfl (hk := hk) (hx := hx)).run s _ _ rfl fun v tk hp => ?_) he⟩
  subst hp
  refine PyProof.Rows.callWith_builtin1 (args_cons (wpAny_mono (h tk).run (fun u s1 z => args_nil ?_) fun _ _ z => z) he2) he2 rfl
  obtain ⟨l, items, rfl, hl, hf, k⟩ := z
  exact len_list hl hf (k _ _)
theorem goTest1 {c : Expr} {cenv : Env} {pv : Bool} (h : Go w A (isTrue c cenv (eval c cenv)) (fun b s4 => b = pv ∧ Keeps s s4) s) :
    Go w A (forIn [c] true fun c r => if r = true then do let ok ← isTrue c cenv (eval c cenv); pure (ForInStep.yield ok) else pure (ForInStep.yield r)) (fun ok s4 => ok = pv ∧ Keeps s s4) s := by
  rw [List.forIn_cons]
  refine ⟨wpAny_bind ?_⟩
  rw [if_pos rfl]
  refine wpAny_bind (wpAny_mono h.run (fun b s4 z => wpAny_pure ?_) fun _ _ z => z)
  show wpAny _ _ (forIn [] b _) _ _ _
  rw [List.forIn_nil]
  exact wpAny_pure z
end
/-- how many of a row's texts are unlike all before -/
def unl (l : List (List Nat)) : Nat := ((List.range l.length).filter fun j => !((l.take j).any (· == l.getD j []))).length

def unP (l : List (List Nat)) : Value → Bool
  | .int j _ => !((l.take j.toNat).any (· == l.getD j.toNat []))
  | _ => false
theorem strsAre_sv : ∀ (l : List (List Nat × Tok)), StrsAre (sv l) (l.map fun p => (⟨p.1.toArray⟩ : Str))
  | [] => .nil
  | p :: l => .cons _ _ (strsAre_sv l)
theorem any_str (l : List (List Nat × Tok)) (c : List Nat) : (l.map fun p => (⟨p.1.toArray⟩ : Str)).any (· == ⟨c.toArray⟩) = (l.map (·.1)).any (· == c) := by
  rw [List.any_map, List.any_map]
  congr 1
  funext p
  show ((⟨p.1.toArray⟩ : Str) == ⟨c.toArray⟩) = (p.1 == c)
  rw [Bool.eq_iff_iff, beq_iff_eq, beq_iff_eq]
  constructor
  · intro e
    have := congrArg (fun x : Str => x.cps.toList) e
    simpa using this
  · intro e; rw [e]
theorem paired_len {α β : Type} {T : α → β → Prop} : ∀ {l : List α} {ys : List β}, Paired T l ys → ys.length = l.length
  | _, _, .nil => rfl
  | _, _, .cons _ h => by simp [paired_len h]
theorem range_filter {l : List (List Nat)} : ∀ {vs : List Value} {k : Nat}, (∀ (j : Nat) v, vs[j]? = some v → ∃ t, v = .int ((k + j : Nat) : Int) t) → (vs.filter (unP l)).length = ((List.range' k vs.length).filter fun j => !((l.take j).any (· == l.getD j []))).length
  | [], k, _ => rfl
  | v :: vs, k, h => by
    obtain ⟨t, rfl⟩ := h 0 v rfl
    have ih := range_filter (l := l) (vs := vs) (k := k + 1) fun j v e => by
      obtain ⟨t, e2⟩ := h (j + 1) v (by simpa using e)
      exact ⟨t, by rw [e2]; congr 2; omega⟩
    rw [List.length_cons, List.range'_succ, List.filter_cons, List.filter_cons]
    have e0 : unP l (.int ((k + 0 : Nat) : Int) t) = !((l.take k).any (· == l.getD k [])) := rfl
    rw [e0]
    split
    · rw [List.length_cons, List.length_cons, ih]
    · exact ih

section
variable {w : World} {A : Around} {env : Env} {g : Heap} {L : Addr} {m : Mp} {s : Shared} {Q : Value → Shared → Prop}
set_option maxHeartbeats 2000000 in
theorem un_spec {P : Addr} {l : List (List Nat × Tok)} (hl : s.heap.IsList P (sv l).toArray) (hlen : l.length ≤ 2000) (H : Here w A env g L) (F : Fr g L s.heap m) (R : Room A 1)
    (h : ∀ t h' tk, Grow s.heap h' → Q (.int (unl (l.map (·.1)) : Nat) t) { s with heap := h', toks := tk }) : Go w A (call (.ref 119) [.ref P]) Q s := by
  refine' enterCK (d := 0) (binds := [(Str.ofString "part", .ref P)]) H F R ?ho ?hcd ?hb ?hl ?nd ?c1 ?c2 ?c3 ?_
  case ho => exact rfl
  case hcd => exact rfl
  case hb => exact rfl
  case hl => exact rfl
  case nd => decide +kernel
  case c1 => exact rfl
  case c2 => exact rfl
  case c3 => exact rfl
  intro L' h₁ A' tk cells H' F' N' Y R'
  obtain ⟨o1, rfl, d1⟩ := CellsAre.one Y
  clear Y
  have lenOf : ∀ h' : Heap, Grow s.heap h' → h'.IsList P (sv l).toArray := fun h' hg => by obtain ⟨o, ho, r⟩ := hl; exact ⟨o, hg _ _ ho, r⟩
  have hsz : (sv l).toArray.size = l.length := by simp
  refine exRetE (goLen H' F' fun tk1 => goComp (g := s.heap) (L := L') (cl := [(Str.ofString "part", L' + 1)]) (unP (l.map (·.1))) (fun v y => True) rfl (by decide) rfl (by decide) rfl ?_)
  refine callBootT H' F' rfl rfl (Ps := [IsI ((sv l).toArray.size : Int)]) ⟨evLen H' F' (evCell (P := IsV (.ref P)) N' (c := L' + 1) (o := o1) rfl (.head _) d1 rfl) (lenOf h₁ F'.keep) (by rw [hsz]; omega), rfl, trivial⟩ fun vs tk2 hvs => ?_
  obtain ⟨v1, rfl, t1, rfl⟩ := allV1 hvs
  rw [hsz]
  refine goRange (s := { s with heap := h₁, toks := tk2 }) (by omega) H'.hh F' N' fun it h2 tk3 rd => ?_
  refine ⟨h2, tk3, _, _, _, _, _, rfl, rd.lt, (fun q hq => nomatch hq), (by omega), ?_, ?_, ?_⟩
  · rintro C i v s3 m3 hC ⟨hi, t2, rfl⟩ hns hm F3 N3
    have e0 : (0 + (i : Int) * 1) = (i : Int) := by omega
    rw [e0] at hm ⊢
    have hpi : ∃ p, l[i]? = some p := ⟨l[i], by simp⟩
    obtain ⟨p, hp⟩ := hpi
    have hpv : (sv l).toArray[((i : Int)).toNat]? = some (.str ⟨p.1.toArray⟩ p.2) := by
      show (sv l).toArray[i]? = _
      simp [hp]
    refine goTest1 ⟨wpAny_isTrue_Compare1 ?_ (by with_unfolding_all rfl)⟩
    refine (evItem (P := IsS ⟨p.1.toArray⟩) (i := (i : Int)) (evCellC (P := IsV (.ref P)) N3 (c := L' + 1) (o := o1) rfl (.head _) d1 rfl rfl) (evNameC hns hm isI) (lenOf s3.heap F3.keep) (by omega) (by omega) hpv isS).run s3 _ _ rfl fun v1 tk4 hv1 => ?_
    obtain ⟨t5, rfl⟩ := hv1
    refine (goSliceG (s := { s3 with toks := tk4 }) (plo := none) (pup := some (i : Int)) (pst := none) (Ev.go (evCellC (P := IsV (.ref P)) N3 (c := L' + 1) (o := o1) rfl (.head _) d1 rfl rfl) fun v2 tk5 hv2 => ?_)).run
    subst hv2
    refine ⟨P, _, rfl, lenOf s3.heap F3.keep, (by rw [hsz]; exact Nat.le_trans hlen (by decide)), evP0, evP1 (evNameC hns hm isI), evP0, fun D h' tk6 g6 hD => ?_⟩
    rw [slicePick_upto'] at hD
    have e1 : (sv l).toArray.toList.take i = sv (l.take i) := by simp [sv]
    rw [e1] at hD
    refine notin_list_strs hD (strsAre_sv _) (wpAny_truthy_bool ⟨?_, Keeps.of g6⟩)
    rw [any_str]
    show _ = !(((l.map (·.1)).take i).any (· == (l.map (·.1)).getD i []))
    have e2 : (l.map (·.1)).getD i [] = p.1 := by simp [hp]
    rw [e2, List.map_take]
  · rintro C i v s3 m3 hC ⟨hi, t2, rfl⟩ - hns hm F3 N3
    refine Ev.go (evNameC (P := fun _ => True) hns hm trivial) fun v1 tk4 _ => ⟨trivial, Keeps.of fun _ _ e => e⟩
  · intro D h' tk4 ys c vs hlen' hP hF F3 N3 hne
    have hn : ys.length = unl (l.map (·.1)) := by
      rw [paired_len hF, range_filter (k := 0) fun j v e => by
        obtain ⟨_, t, e2⟩ := hP j v e
        exact ⟨t, by rw [e2]; congr 2; omega⟩]
      unfold unl
      rw [hlen', List.length_map, List.range_eq_range']
    refine ⟨D, ys.toArray, rfl, News.isList N3 (.head _), ?_, fun t tk5 => ⟨⟨_, _, F3⟩, ?_⟩⟩
    · rw [List.size_toArray, hn]
      have : unl (l.map (·.1)) ≤ l.length := by
        unfold unl
        refine Nat.le_trans (List.length_filter_le _ _) ?_
        simp
      omega
    · rw [List.size_toArray, hn]
      exact h t h' tk5 F3.keep
end
end Mine
end

-- Ml
section
open PySem PySem.W PyProof.Rows PySem.Calls PySem.Builtin PySem.Builtin.Str
set_option Elab.async false
set_option maxRecDepth 100000
set_option linter.all false
namespace Mine
/-- a ledger with one object changed -/
def setL (led : Led) (d : Addr) (o : Obj) : Led := led.map fun p => if p.1 = d then (d, o) else p
abbrev NoDup (led : Led) : Prop := (led.map (·.1)).Nodup
theorem setL_addrs (led : Led) (d : Addr) (o : Obj) : (setL led d o).map (·.1) = led.map (·.1) := by
  unfold setL
  rw [List.map_map]
  refine List.map_congr_left fun p _ => ?_
  show (if p.1 = d then (d, o) else p).1 = p.1
  split
  · rename_i h; exact h.symm
  · rfl
theorem setL_nodup {led : Led} {d : Addr} {o : Obj} (h : NoDup led) : NoDup (setL led d o) := by unfold NoDup; rw [setL_addrs]; exact h
theorem setL_mem {led : Led} {d : Addr} {o o0 : Obj} (h : (d, o0) ∈ led) : (d, o) ∈ setL led d o := List.mem_map.mpr ⟨(d, o0), h, if_pos rfl⟩
theorem setL_keep {led : Led} {d : Addr} {o : Obj} {p : Addr × Obj} (h : p ∈ led) (hn : p.1 ≠ d) : p ∈ setL led d o := List.mem_map.mpr ⟨p, h, if_neg hn⟩
theorem setL_id {led : Led} {d : Addr} {o : Obj} (h : ∀ p ∈ led, p.1 ≠ d) : setL led d o = led := by
  unfold setL
  conv => rhs; rw [← List.map_id led]
  exact List.map_congr_left fun p hp => if_neg (h p hp)
theorem updSet {d : Addr} {o o' : Obj} : ∀ {led : Led}, NoDup led → (d, o) ∈ led → Upd d o o' led (setL led d o')
  | p :: r, hn, hm => by
    have hn' := List.nodup_cons.mp hn
    rcases List.mem_cons.mp hm with rfl | hm
    · have hne : ∀ q ∈ r, q.1 ≠ d := fun q hq e => hn'.1 (List.mem_map.mpr ⟨q, hq, e⟩)
      have e : setL ((d, o) :: r) d o' = (d, o') :: r := by
        have := setL_id (o := o') hne
        show (if d = d then (d, o') else (d, o)) :: setL r d o' = _
        rw [if_pos rfl, this]
      rw [e]
      exact .head hne
    · have hpd : p.1 ≠ d := fun e => hn'.1 (List.mem_map.mpr ⟨_, hm, e.symm⟩)
      have e : setL (p :: r) d o' = p :: setL r d o' := by
        show (if p.1 = d then (d, o') else p) :: setL r d o' = _
        rw [if_neg hpd]
      rw [e]
      exact .tail hpd (updSet hn'.2 hm)
theorem updFSet {d : Addr} {o : Obj} : ∀ {led : Led}, NoDup led → (d, o) ∈ led → UpdF d o led (fun o' => setL led d o')
  | p :: r, hn, hm => by
    have hn' := List.nodup_cons.mp hn
    rcases List.mem_cons.mp hm with rfl | hm
    · have hne : ∀ q ∈ r, q.1 ≠ d := fun q hq e => hn'.1 (List.mem_map.mpr ⟨q, hq, e⟩)
      have e : (fun o' => setL ((d, o) :: r) d o') = fun o' => (d, o') :: r := by
        funext o'
        have := setL_id (o := o') hne
        show (if d = d then (d, o') else (d, o)) :: setL r d o' = _
        rw [if_pos rfl, this]
      rw [e]
      exact .head hne
    · have hpd : p.1 ≠ d := fun e => hn'.1 (List.mem_map.mpr ⟨_, hm, e.symm⟩)
      have e : (fun o' => setL (p :: r) d o') = fun o' => p :: setL r d o' := by
        funext o'
        show (if p.1 = d then (d, o') else p) :: setL r d o' = _
        rw [if_neg hpd]
      rw [e]
      exact .tail hpd (updFSet hn'.2 hm)
theorem nodup_eq {led : Led} {p q : Addr × Obj} (h : NoDup led) (hp : p ∈ led) (hq : q ∈ led) (e : p.1 = q.1) : p = q := by
  induction led with
  | nil => exact nomatch hp
  | cons x r ih =>
    have hn := List.nodup_cons.mp h
    rcases List.mem_cons.mp hp with hp' | hp'
    · rcases List.mem_cons.mp hq with hq' | hq'
      · rw [hp', hq']
      · exact absurd (List.mem_map.mpr ⟨q, hq', by rw [← hp']; exact e.symm⟩) hn.1
    · rcases List.mem_cons.mp hq with hq' | hq'
      · exact absurd (List.mem_map.mpr ⟨p, hp', by rw [← hq']; exact e⟩) hn.1
      · exact ih hn.2 hp' hq'
theorem nodup_ne {led : Led} {p q : Addr × Obj} (h : NoDup led) (hp : p ∈ led) (hq : q ∈ led) (hd : p.2.data ≠ q.2.data) : p.1 ≠ q.1 :=
  fun e => hd (by rw [nodup_eq h hp hq e])
end Mine
end

-- Ms
section
open PySem PySem.W PyProof.Rows PySem.Calls PySem.Builtin PySem.Builtin.Str
set_option Elab.async false
set_option maxRecDepth 100000
set_option linter.all false
namespace Mine
section
variable {w : World} {A : Around} {env : Env} {g : Heap} {L : Addr} {m : Mp} {s : Shared} {news : Led} {Q : Value → Shared → Prop} {cn : Str} {cs : Scope} {a : Addr} {ccd : Value} {cl : List (Str × Addr)}
theorem goAddS {a b : List Nat} {t u : Tok} (h : ∀ t' tk, Q (.str ⟨(a ++ b).toArray⟩ t') { s with toks := tk }) (ha : a.length ≤ 100000) (hb : b.length ≤ 100000) : Go w A (binaryOp .Add (.str ⟨a.toArray⟩ t) (.str ⟨b.toArray⟩ u)) Q s := by
  refine ⟨P.add_str ?_⟩
  have la : (⟨a.toArray⟩ : Str).length = a.length := by simp [Str.length]
  have lb : (⟨b.toArray⟩ : Str).length = b.length := by simp [Str.length]
  split
  · rename_i h0
    rw [la] at h0
    have e : a = [] := by simpa using h0
    subst e
    exact h u s.toks
  · split
    · rename_i h0
      rw [lb] at h0
      have e : b = [] := by simpa using h0
      subst e
      have := h t s.toks
      rw [List.append_nil] at this
      exact this
    · have e : (⟨a.toArray⟩ : Str) ++ ⟨b.toArray⟩ = ⟨(a ++ b).toArray⟩ := by show (⟨a.toArray ++ b.toArray⟩ : Str) = _; simp
      rw [e]
      refine ⟨?_, h _ _⟩
      show (a ++ b).toArray.size ≤ sizeLine
      rw [List.size_toArray, List.length_append]
      exact Nat.le_trans (Nat.add_le_add ha hb) (by decide)
theorem goMulDot {k : Nat} {t u : Tok} (hk : k = 1 ∨ k = 2) (h : ∀ t' tk, Q (.str ⟨(List.replicate k 46).toArray⟩ t') { s with toks := tk }) : Go w A (binaryOp .Mult (.str ⟨#[46]⟩ t) (.int (k : Int) u)) Q s := by
  rcases hk with rfl | rfl
  · exact ⟨P.mul_str (by decide) (fun _ q => absurd q (by decide)) (fun _ q => absurd q (by decide)) (by
      rw [if_neg (by decide), if_pos (by decide)]
      exact h t s.toks)⟩
  · exact ⟨P.mul_str (by decide) (fun _ _ => by decide) (fun _ _ => by decide) (by
      rw [if_neg (by decide), if_neg (by decide)]
      exact ⟨by decide, h _ _⟩)⟩
end
end Mine
end

-- Mr
section
open PySem PySem.W PyProof.Rows PySem.Calls PySem.Builtin PySem.Builtin.Str
set_option Elab.async false
set_option maxRecDepth 100000
set_option linter.all false
namespace Mine
section
variable {w : World} {A : Around} {env : Env} {g : Heap} {L : Addr} {m : Mp} {s : Shared} {news : Led} {Q : Value → Shared → Prop} {cn : Str} {cs : Scope} {a : Addr} {ccd : Value} {cl : List (Str × Addr)}
/-- sep.join(e) -/
theorem goJoin {c : Str} {e : Expr} {k1 : Nat} {p1 apos pos : Pos} {pl : Sem Bool}
    (h : ∀ tk, Go w A (eval e env) (fun v s1 => ∃ D l, v = .ref D ∧ s1.heap.IsList D (sv l).toArray ∧ JoinOk c (l.map fun p => ⟨p.1.toArray⟩) = true ∧ ∀ t' k, Q (.str (Txt.join c (l.map fun p => ⟨p.1.toArray⟩)) t') { s1 with toks := k }) { s with toks := tk })
    (he : eval (.Call (.Attribute (.Constant (.str c) k1 p1) (Str.ofString "join") apos) [e] [] pos) env = (do
      let ov ← eval (.Constant (.str c) k1 p1) env
      standAt apos.atName
      let (f, first) ← holding [ov] (getMethod ov (Str.ofString "join") pl)
      callWith pos f first (backTo pos (starEach [e] env)) []) := by rfl)
    (he2 : starEach [e] env = (false, eval e env) :: starEach [] env := by rfl) :
    Go w A (eval (.Call (.Attribute (.Constant (.str c) k1 p1) (Str.ofString "join") apos) [e] [] pos) env) Q s := by
  refine ⟨MethodCall_ (wpAny_Constant_str ?_) he⟩
  refine (getStr PySem.F.slot_str_join PySem.F.type_str_join ?_).run
  refine callWith_method1 (args_cons (wpAny_mono (h _).run (fun v s1 z => args_nil ?_) fun _ _ z => z) he2) he2 (by rfl)
  obtain ⟨D, l, rfl, hl, hj, k⟩ := z
  refine SC.join (l := l.map fun p => ((⟨p.1.toArray⟩ : Str), p.2)) (texts := l.map fun p => ⟨p.1.toArray⟩) ?_ (by rw [List.map_map]; rfl) hj k
  have e : strValues (l.map fun p => ((⟨p.1.toArray⟩ : Str), p.2)) = sv l := by unfold strValues sv; rw [List.map_map]; rfl
  rw [e]
  exact hl
/-- len(e), e a str -/
theorem goLenS {e : Expr} {p pos : Pos} (H : Here w A env g L) (F : Fr g L s.heap m)
    (h : ∀ tk, Go w A (eval e (envX cn cs L a ccd cl)) (fun v s1 => ∃ x t, v = .str x t ∧ x.length ≤ 1000000 ∧ ∀ t tk, Q (.int x.length t) { s1 with toks := tk }) { s with toks := tk })
    (he : eval (.Call (.Name (Str.ofString "len") p) [e] [] pos) (envX cn cs L a ccd cl) = (do callWith pos (← eval (.Name (Str.ofString "len") p) (envX cn cs L a ccd cl)) [] (backTo pos (starEach [e] (envX cn cs L a ccd cl))) (backToKw pos (keywordEach [] (envX cn cs L a ccd cl)))) := by rfl)
    (he2 : starEach [e] (envX cn cs L a ccd cl) = (false, eval e (envX cn cs L a ccd cl)) :: starEach [] (envX cn cs L a ccd cl) := by rfl)
    (hk : cs.kind = .function := by rfl) (hx : (envX cn cs L a ccd cl).kindOf (Str.ofString "len") = some .globalImplicit := by rfl) :
    Go w A (eval (.Call (.Name (Str.ofString "len") p) [e] [] pos) (envX cn cs L a ccd cl)) Q s := by
  refine ⟨Call_ ((evBoot H F rfl boot_len (P := IsV (.builtin "len")) rfl (hk := hk) (hx := hx)).run s _ _ rfl fun v tk hp => ?_) he⟩
  subst hp
  refine PyProof.Rows.callWith_builtin1 (args_cons (wpAny_mono (h tk).run (fun u s1 z => args_nil ?_) fun _ _ z => z) he2) he2 rfl
  obtain ⟨x, t, rfl, hf, k⟩ := z
  exact P.len_str (by omega) (k _ _)
theorem evLenS {h : Heap} {x : Str} {e : Expr} {p pos : Pos} (H : Here w A env g L) (F : Fr g L h m) (h1 : EvS w A (envX cn cs L a ccd cl) h e x) (hf : x.length ≤ 1000000)
    (he : eval (.Call (.Name (Str.ofString "len") p) [e] [] pos) (envX cn cs L a ccd cl) = (do callWith pos (← eval (.Name (Str.ofString "len") p) (envX cn cs L a ccd cl)) [] (backTo pos (starEach [e] (envX cn cs L a ccd cl))) (backToKw pos (keywordEach [] (envX cn cs L a ccd cl)))) := by rfl)
    (he2 : starEach [e] (envX cn cs L a ccd cl) = (false, eval e (envX cn cs L a ccd cl)) :: starEach [] (envX cn cs L a ccd cl) := by rfl)
    (hk : cs.kind = .function := by rfl) (hx : (envX cn cs L a ccd cl).kindOf (Str.ofString "len") = some .globalImplicit := by rfl) :
    EvI w A (envX cn cs L a ccd cl) h (.Call (.Name (Str.ofString "len") p) [e] [] pos) x.length := ⟨fun s Q E e0 k => by
  subst e0
  refine Call_ ((evBoot H F rfl boot_len (P := IsV (.builtin "len")) rfl (hk := hk) (hx := hx)).run s _ _ rfl fun v tk hp => ?_) he
  subst hp
  refine PyProof.Rows.callWith_builtin1 (args_cons (h1.run { s with toks := tk } _ _ rfl fun u tk2 hu => args_nil ?_) he2) he2 rfl
  obtain ⟨t, rfl⟩ := hu
  exact P.len_str (by omega) (k _ _ isI)⟩
end
section
variable {w : World} {A : Around} {env : Env} {s : Shared} {Q : Flow → Shared → Prop} {rest : List Stmt}
/-- if l op r: .., both sides of any kind -/
theorem exIfCmp {l r : Expr} {op : CmpOp} {body orelse : List Stmt} {pos pos' : Pos}
    (h : Go w A (eval l env) (fun u s1 => Go w A (eval r env) (fun v s2 => Go w A (compareOp op u v) (fun b s3 => ∃ c, b = .bool c ∧ (c = true → Go w A (execs body env) (Then w A env rest Q) s3) ∧ (c = false → Go w A (execs orelse env) (Then w A env rest Q) s3)) s2) s1) s)
    (hm : behindInMarks op r = false := by with_unfolding_all rfl) : Go w A (execs (.If (.Compare l [op] [r] pos) body orelse pos' :: rest) env) Q s := by
  refine go_then ⟨wpAny_If (wpAny_isTrue_Compare1 (wpAny_mono h.run (fun u s1 h1 => wpAny_mono h1.run (fun v s2 h2 => wpAny_mono h2.run (fun b s3 h3 => ?_) fun _ _ z => z) fun _ _ z => z) fun _ _ z => z) hm)⟩
  obtain ⟨c, rfl, h1, h2⟩ := h3
  refine wpAny_truthy_bool ?_
  cases c with
  | true => exact (h1 rfl).run
  | false => exact (h2 rfl).run
end
end Mine
end

-- Mg
section
open PySem PySem.W PyProof.Rows PySem.Calls PySem.Builtin PySem.Builtin.Str
set_option Elab.async false
set_option maxRecDepth 100000
set_option linter.all false
namespace Mine
/-- a list's object -/
def LO (its : List Value) (o : Obj) : Prop := ∃ n, o = listOf its.toArray n
theorem LO.isList {g h : Heap} {L d : Addr} {o : Obj} {its : List Value} {led : Led} (N : News g L h led) (hm : (d, o) ∈ led) (x : LO its o) : h.IsList d its.toArray := by
  obtain ⟨n, rfl⟩ := x
  exact News.isList N hm
theorem LO.of (its : List Value) (c : Nat) : LO its (listOf its.toArray c) := ⟨c, rfl⟩
theorem upd_off {d : Addr} {o : Obj} {led : Led} (h : ∀ p ∈ led, p.1 ≠ d) : setL led d o = led := setL_id h
theorem setL_app {d : Addr} {o : Obj} (a b : Led) : setL (a ++ b) d o = setL a d o ++ setL b d o := List.map_append
theorem setL_hd {d : Addr} {o o0 : Obj} (b : Led) : setL ((d, o0) :: b) d o = (d, o) :: setL b d o := by
  show (if d = d then _ else _) :: _ = _
  rw [if_pos rfl]; rfl
theorem setL_tl {d : Addr} {o : Obj} {p : Addr × Obj} (b : Led) (h : p.1 ≠ d) : setL (p :: b) d o = p :: setL b d o := by
  show (if p.1 = d then _ else _) :: _ = _
  rw [if_neg h]; rfl
section
variable {w : World} {A : Around} {env : Env} {g : Heap} {L : Addr} {m : Mp} {s : Shared} {news led : Led} {cn : Str} {cs : Scope} {a : Addr} {ccd : Value} {cl : List (Str × Addr)}
/-- a store into a cell -/
theorem goStoreS {Q : Unit → Shared → Prop} {x : Str} {px : Pos} {v : Value} {c : Addr} {o : Obj} {v₀ : Option Value} (F : Fr g L s.heap m) (N : News g L s.heap led) (hc : cl.lookup x = some c) (hm : (c, o) ∈ led) (hd : o.data = .cell v₀)
    (h : ∀ h' o', Fr g L h' m → News g L h' (setL led c o') → o'.data = .cell (some v) → Q () { s with heap := h' })
    (hk : cs.kind = .function := by rfl) (hx : (envX cn cs L a ccd cl).kindOf x = some .cell := by rfl) : Go w A (assign (.Name x px) (envX cn cs L a ccd cl) v) Q s := by
  have hmem := N _ hm
  refine ⟨PyProof.Rows.assign_Name (wpAny_storeName_cell hk hx hc ⟨o, hmem.1, hd⟩ fun h' hv hs => ?_)⟩
  obtain ⟨o', ho', hd'⟩ := hv
  exact h h' o' (F.change hs hmem.2.1 hmem.2.2) (N.replace hs ho') hd'
/-- l.append(x) -/
theorem appendG {Q : Value → Shared → Prop} {D : Addr} {o : Obj} {its : List Value} {x : Value} (F : Fr g L s.heap m) (N : News g L s.heap led) (hm : (D, o) ∈ led) (hl : LO its o) (hsz : its.length ≤ 100000)
    (h : ∀ h' o', Fr g L h' m → News g L h' (setL led D o') → LO (its ++ [x]) o' → Q .none { s with heap := h' }) : Go w A (call (.builtin "list.append") [.ref D, x]) Q s := by
  obtain ⟨n, rfl⟩ := hl
  have hmem := N _ hm
  refine ⟨append_at (hsz := by rw [List.size_toArray]; exact Nat.le_trans hsz (by decide)) hmem.1 fun h' hs ho' => ?_⟩
  refine h h' _ (F.change hs hmem.2.1 hmem.2.2) (N.replace hs ho') ⟨n + 1, ?_⟩
  rw [List.push_toArray]
/-- l.name(e), l a list -/
theorem methListE {Q : Value → Shared → Prop} {o arg : Expr} {name : Str} {id : String} {apos pos : Pos} {pl : Sem Bool} {D : Addr} {ob : Obj} {its : List Value} (N : News g L s.heap led) (hm : (D, ob) ∈ led) (hl : LO its ob)
    (slot : Slot "list" name id) (hty : typeOf (.builtin id) = pure (.type "method_descriptor")) (ho : Ev w A env s.heap o (IsV (.ref D)))
    (h : ∀ tk, Go w A (eval arg env) (fun v s1 => Go w A (call (.builtin id) [.ref D, v]) Q s1) { s with toks := tk })
    (he : eval (.Call (.Attribute o name apos) [arg] [] pos) env = (do
      let ov ← eval o env
      standAt apos.atName
      let (f, first) ← holding [ov] (getMethod ov name pl)
      callWith pos f first (backTo pos (starEach [arg] env)) []) := by rfl)
    (he2 : starEach [arg] env = (false, eval arg env) :: starEach [] env := by rfl) (hplain : (backTo pos (starEach [] env)).any (·.1) = false := by rfl) :
    Go w A (eval (.Call (.Attribute o name apos) [arg] [] pos) env) Q s := by
  obtain ⟨n, rfl⟩ := hl
  have hg := (N _ hm).1
  refine ⟨MethodCall_ (ho.run s _ _ rfl fun v tk hp => ?_) he⟩
  subst hp
  refine getMethod_builtin (T := "list") ⟨_, hg, rfl⟩ PySem.F.plainAttrs_list slot hty (fun a e => by cases e; exact ⟨_, hg, rfl⟩) ?_
  refine callWith_method1 (args_cons (wpAny_mono (h tk).run (fun v s1 z => args_nil z.run) fun _ _ z => z) he2) he2 hplain
/-- two lists of texts that are alike -/
theorem neStrs {Q : Value → Shared → Prop} {D1 D2 : Addr} {l1 l2 : List (List Nat × Tok)} (h1 : s.heap.IsList D1 (sv l1).toArray) (h2 : s.heap.IsList D2 (sv l2).toArray) (e : l1.map (·.1) = l2.map (·.1)) (R : Room A 0) (h : Q (.bool false) s) :
    Go w A (compareOp .NotEq (.ref D1) (.ref D2)) Q s := by
  have hlen : l1.length = l2.length := by have := congrArg List.length e; simpa using this
  refine ⟨PySem.SeqAt.RcNeAt.lists (e := fun _ => true) h1 h2 (by simp [hlen]) (by have := R.2; omega) (fun j hj1 hj2 => ?_) PR w _ Q ?_⟩
  · have hj1' : j < l1.length := by simpa using hj1
    have hj2' : j < l2.length := by simpa using hj2
    have e1 : (sv l1).toArray[j] = .str ⟨l1[j].1.toArray⟩ l1[j].2 := by simp [sv]
    have e2 : (sv l2).toArray[j] = .str ⟨l2[j].1.toArray⟩ l2[j].2 := by simp [sv]
    have e3 : l1[j].1 = l2[j].1 := by
      have h3 : (l1.map (·.1))[j]? = (l2.map (·.1))[j]? := by rw [e]
      simpa [hj1', hj2'] using h3
    rw [e1, e2, e3]
    have := PySem.SeqAt.EqAt.str_str (A := A.in1) (s := s) ⟨l2[j].1.toArray⟩ l1[j].2 ⟨l2[j].1.toArray⟩ l2[j].2
    rw [beq_self_eq_true] at this
    exact this
  · have e0 : (!(List.range (sv l1).toArray.size).all fun _ => true) = false := by simp
    rw [e0]; exact h
end

/-- the rows of a mail, by their addresses -/
inductive BkL : Led → List (List (List Nat)) → Prop
  | nil : BkL [] []
  | cons {a : Addr} {o : Obj} {l : List (List Nat × Tok)} {r : Led} {B : List (List (List Nat))} : LO (sv l) o → BkL r B → BkL ((a, o) :: r) (l.map (·.1) :: B)
theorem BkL.len : ∀ {bl : Led} {B : List (List (List Nat))}, BkL bl B → bl.length = B.length
  | _, _, .nil => rfl
  | _, _, .cons _ h => by simp [h.len]
abbrev refs (bl : Led) : List Value := bl.map fun p => .ref p.1

theorem BkL.snoc : ∀ {bl : Led} {B : List (List (List Nat))} {a : Addr} {o : Obj} {l : List (List Nat × Tok)}, BkL bl B → LO (sv l) o → BkL (bl ++ [(a, o)]) (B ++ [l.map (·.1)])
  | _, _, _, _, _, .nil, h => .cons h .nil
  | _, _, _, _, _, .cons h0 hr, h => .cons h0 (hr.snoc h)
section
variable {w : World} {A : Around} {g : Heap} {L : Addr} {m : Mp} {s : Shared} {led : Led} {cn : Str} {cs : Scope} {a : Addr} {ccd : Value} {cl : List (Str × Addr)} {env : Env}
theorem restNew {lp : Pos} {x : Str} {scope : Scope} {clo : List (Str × Addr)} {s1 : Shared} {S : Led → Prop} {P : Nat → Value → Prop} {Fin : List Value → Led → Prop} (hS : ∀ l, S l) : ∀ (k i : Nat) (bl : Led), (bl.map (·.1)).Nodup → BkL bl (List.replicate i []) → (∀ p ∈ bl, ∀ q ∈ led, q.1 ≠ p.1) →
    (∀ bl : Led, (bl.map (·.1)).Nodup → BkL bl (List.replicate (k + i) []) → (∀ p ∈ bl, ∀ q ∈ led, q.1 ≠ p.1) → Fin (refs bl) (bl ++ led)) →
    LCg.CompRest PR w A g L m env (.List [] lp) x scope clo s1 S P Fin k i (refs bl) (bl ++ led)
  | 0, i, bl, nd, bk, off, h => LCg.CompRest.zero (h bl nd (by rw [Nat.zero_add]; exact bk) off)
  | k + 1, i, bl, nd, bk, off, h => LCg.CompRest.succ fun v I oI C oC D m₂ hh tk E' hP hC hm F N o3 ne => by
    refine List_ (args_nil (newList_N (s := { s1 with heap := hh, toks := tk }) F N (fun h' F' N' => ?_) (by decide)))
    have hlt : ∀ p ∈ (I, oI) :: (C, oC) :: (D, LCg.lst (refs bl)) :: (bl ++ led), p.1 < hh.objs.size := fun p hp => Heap.lt_size (N p hp).1
    refine LCg.CompEnd.intro F' N' ((bl ++ [(hh.objs.size, listOf #[] 0)]) ++ led) ?_ ?_ (hS _) ?_
    · intro p hp
      simp only [List.mem_cons, List.mem_append, List.append_assoc, List.cons_append, List.nil_append] at hp ⊢
      rcases hp with h | h | h | h | h | h
      · exact .inr (.inl h)
      · exact .inr (.inr (.inl h))
      · exact .inr (.inr (.inr (.inl h)))
      · exact .inr (.inr (.inr (.inr (.inl h))))
      · exact .inl h
      · exact .inr (.inr (.inr (.inr (.inr h))))
    · refine LCg.Off3.of fun p hp => ?_
      simp only [List.mem_append, List.mem_singleton] at hp
      rcases hp with (h | h) | h
      · exact o3.mem p (List.mem_append_left _ h)
      · subst h
        exact ⟨(Nat.ne_of_lt (hlt _ (.head _))).symm, (Nat.ne_of_lt (hlt _ (.tail _ (.head _)))).symm, (Nat.ne_of_lt (hlt _ (.tail _ (.tail _ (.head _))))).symm⟩
      · exact o3.mem p (List.mem_append_right _ h)
    · have e : refs bl ++ [Value.ref hh.objs.size] = refs (bl ++ [(hh.objs.size, listOf #[] 0)]) := by simp [refs]
      show LCg.CompRest _ _ _ _ _ _ _ _ _ _ _ _ _ _ _ k (i + 1) (refs bl ++ [Value.ref hh.objs.size]) _
      rw [e]
      refine restNew hS k (i + 1) _ ?_ ?_ ?_ fun bl nd bk => h bl nd (by rw [show k + 1 + i = k + (i + 1) by omega]; exact bk)
      · rw [List.map_append]
        refine List.nodup_append.mpr ⟨nd, List.pairwise_singleton _ _, fun x hx y hy => ?_⟩
        obtain ⟨p, hp, rfl⟩ := List.mem_map.mp hx
        rw [List.mem_singleton.mp hy]
        exact Nat.ne_of_lt (hlt p (.tail _ (.tail _ (.tail _ (List.mem_append_left _ hp)))))
      · have := bk.snoc (a := hh.objs.size) (l := []) (LO.of [] 0)
        rw [List.replicate_succ']
        exact this
      · intro p hp q hq
        rcases List.mem_append.mp hp with hp | hp
        · exact off p hp q hq
        · rw [List.mem_singleton.mp hp]
          exact Nat.ne_of_lt (hlt q (.tail _ (.tail _ (.tail _ (List.mem_append_right _ hq)))))
/-- y = [[] for x in range(n)] -/
theorem exNewRows {Q : Flow → Shared → Prop} {rest : List Stmt} {e : Expr} {x y : Str} {px py pr lp pc : Pos} {scope : Scope} {clo : List (Str × Addr)} {pos spos : Pos} {n : Nat}
    (H : Here w A (envX cn cs L a ccd cl) g L) (F : Fr g L s.heap m) (N : News g L s.heap led) (hn : n ≤ 100) (he : EvI w A (envX cn cs L a ccd cl) s.heap e (n : Int))
    (h : ∀ D h' tk c bl, (bl.map (·.1)).Nodup → BkL bl (List.replicate n []) → Fr g L h' (upd m y (.ref D)) → News g L h' (bl ++ ((D, listOf (refs bl).toArray c) :: led)) → (∀ p ∈ bl, p.1 ≠ D ∧ ∀ q ∈ led, q.1 ≠ p.1) → (∀ q ∈ led, q.1 ≠ D) →
      Go w A (execs rest (envX cn cs L a ccd cl)) Q { s with heap := h', toks := tk })
    (hclos : closureFor scope (envX cn cs L a ccd cl) = pure clo := by rfl) (hcell : ∀ y ∈ scope.names, y.2 ≠ .cell := by decide) (hkind : scope.kind = .function := by rfl)
    (hnames : ∀ y ∈ scope.names, y.2 = .local → scope.names.lookup y.1 = some .local := by decide) (hx : scope.names.lookup x = some .local := by rfl)
    (hsw : swapsWith (.ListComp (.List [] lp) [⟨.Name x px, .Call (.Name (Str.ofString "range") pr) [e] [] pc, [], 0⟩] scope pos) (some (.Name y py)) spos.line (envX cn cs L a ccd cl) = pure true := by rfl)
    (he2 : starEach [e] (envX cn cs L a ccd cl) = (false, eval e (envX cn cs L a ccd cl)) :: starEach [] (envX cn cs L a ccd cl) := by rfl)
    (hr : (envX cn cs L a ccd cl).kindOf (Str.ofString "range") = some .globalImplicit := by rfl) (hy : (envX cn cs L a ccd cl).kindOf y = some .local := by rfl) (hk : cs.kind = .function := by rfl) :
    Go w A (execs (.Assign [.Name y py] (.ListComp (.List [] lp) [⟨.Name x px, .Call (.Name (Str.ofString "range") pr) [e] [] pc, [], 0⟩] scope pos) spos :: rest) (envX cn cs L a ccd cl)) Q s := by
  refine go_then ⟨LCg.Assign_ListComp_U F rfl hsw hclos hcell hkind hnames hx hy (by show (cs.kind == .class || (cs.kind == .module && L != mainGlobals)) = false; rw [hk]; rfl) ?_⟩
  refine (callBootT H F rfl rfl (Ps := [IsI (n : Int)]) ⟨he, he2, trivial⟩ ?_ (he2 := he2) (hk := hk) (hx := hr)).run
  intro vs tk1 hvs
  obtain ⟨v1, rfl, t1, rfl⟩ := allV1 hvs
  have er : Builtin.Range.rangeSize 0 (n : Int) 1 = n := by rw [rangeSize_nat]; simp
  refine ⟨call_range_1 ?_⟩
  refine LCg.CompSrc.range (news := led) (n := n) H.hh (F.push _) (N.grown fun _ _ e => Heap.get?_push_of_some _ e) (Heap.get?_push_size _ rfl) ?_ er (Nat.le_trans hn (by decide)) fun g2 => ?_
  · unfold Builtin.Range.small
    rw [er]
    unfold Builtin.Range.rangeFitsLong
    simp; omega
  · refine restNew (fun _ => trivial) n 0 [] List.nodup_nil .nil (fun p hp => nomatch hp) fun bl nd bk off => ?_
    intro D h' tk F' N' o1
    have o1' : ∀ p ∈ bl ++ led, p.1 ≠ D := by
      clear N' nd bk off
      generalize bl ++ led = l at o1
      induction l with
      | nil => exact fun p hp => nomatch hp
      | cons q r ih =>
        intro p hp
        rcases List.mem_cons.mp hp with rfl | hp
        · exact o1.1
        · exact ih o1.2 p hp
    refine h D h' tk (refs bl).length bl nd bk F' (fun p hp => N' p ?_) (fun p hp => ⟨o1' p (List.mem_append_left _ hp), off p hp⟩) fun q hq => o1' q (List.mem_append_right _ hq)
    rcases List.mem_append.mp hp with hp | hp
    · exact .tail _ (List.mem_append_left _ hp)
    · rcases List.mem_cons.mp hp with rfl | hp
      · exact .head _
      · exact .tail _ (List.mem_append_right _ hp)
end
end Mine
end

-- Pu
section
open PySem PySem.W PyProof.Rows PySem.Calls
set_option Elab.async false
set_option maxRecDepth 100000
set_option linter.all false
namespace Mine
/-- the state behind a sign: 0 at a row's start, 1 behind a return, 2 within a row -/
def nst (c : Nat) : Nat := if c = 13 then 1 else if c = 10 then 0 else 2
def aft : Nat → List Nat → Nat
  | st, [] => st
  | _, c :: r => aft (nst c) r
/-- what k sendings make of a text that begins in a state -/
def ext (k : Nat) : Nat → List Nat → List Nat
  | _, [] => []
  | st, c :: r =>
    if c = 13 then 13 :: 10 :: ext k 1 r
    else if c = 10 then (if st = 1 then ext k 0 r else 13 :: 10 :: ext k 0 r)
    else if c = 46 ∧ st ≠ 2 then List.replicate (k + 1) 46 ++ ext k 2 r
    else c :: ext k 2 r
theorem ext_1 {k : Nat} {l : List Nat} (h : ∀ r, l ≠ 10 :: r) : ext k 1 l = ext k 0 l := by
  cases l with
  | nil => rfl
  | cons c r =>
    have hc : c ≠ 10 := fun e => h r (by rw [e])
    unfold ext
    simp [hc]
theorem dot_cons (b : Bool) (c : Nat) (r : List Nat) : dot b (c :: r) = (if b && c == 46 then [46, 46] else [c]) ++ dot (c == 10) r := rfl
theorem dot_crlf (b : Bool) (r : List Nat) : dot b (13 :: 10 :: r) = 13 :: 10 :: dot true r := by
  rw [dot_cons, dot_cons]
  simp
theorem norm_other {c : Nat} (h : isNl c = false) (r : List Nat) : norm (c :: r) = c :: norm r := by
  cases r with
  | nil => show (if isNl c then _ else _) = _; rw [if_neg (by rw [h]; decide)]; rfl
  | cons d r =>
    have h1 : (c == 13) = false := by unfold isNl at h; simp at h ⊢; exact h.2
    rw [norm3, if_neg (by rw [h1]; simp), if_neg (by rw [h]; decide)]
theorem norm_crlf (r : List Nat) : norm (13 :: 10 :: r) = 13 :: 10 :: norm r := by rw [norm3, if_pos (by decide)]
theorem ext_13 (k st : Nat) (r : List Nat) : ext k st (13 :: r) = 13 :: 10 :: ext k 1 r := by rw [ext, if_pos rfl]
theorem ext_10 {k st : Nat} (h : st ≠ 1) (r : List Nat) : ext k st (10 :: r) = 13 :: 10 :: ext k 0 r := by rw [ext, if_neg (by decide), if_pos rfl, if_neg h]
theorem ext_110 (k : Nat) (r : List Nat) : ext k 1 (10 :: r) = ext k 0 r := by rw [ext, if_neg (by decide), if_pos rfl, if_pos rfl]
theorem nl_cases {c : Nat} : c = 13 ∨ c = 10 ∨ isNl c = false := by
  unfold isNl
  by_cases h1 : c = 13
  · exact .inl h1
  · by_cases h2 : c = 10
    · exact .inr (.inl h2)
    · exact .inr (.inr (by simp [h1, h2]))
theorem nl_no {c : Nat} (h : isNl c = false) : c ≠ 13 ∧ c ≠ 10 := by
  unfold isNl at h
  simp at h
  exact ⟨h.2, h.1⟩
theorem ext_dot {k st : Nat} (h : st ≠ 2) (r : List Nat) : ext k st (46 :: r) = List.replicate (k + 1) 46 ++ ext k 2 r := by rw [ext, if_neg (by decide), if_neg (by decide), if_pos ⟨rfl, h⟩]
theorem ext_plain {k st c : Nat} (h : isNl c = false) (h2 : ¬ (c = 46 ∧ st ≠ 2)) (r : List Nat) : ext k st (c :: r) = c :: ext k 2 r := by
  obtain ⟨a, b⟩ := nl_no h
  rw [ext, if_neg a, if_neg b, if_neg h2]

theorem ext_append (k : Nat) (b : List Nat) : ∀ (a : List Nat) (st : Nat), ext k st (a ++ b) = ext k st a ++ ext k (aft st a) b
  | [], st => rfl
  | c :: r, st => by
    have h1 := ext_append k b r
    have ha : aft st (c :: r) = aft (nst c) r := rfl
    rw [List.cons_append, ha]
    rcases nl_cases (c := c) with rfl | rfl | hc
    · rw [ext_13, ext_13, h1, show nst 13 = 1 from rfl]; rfl
    · rw [show nst 10 = 0 from rfl]
      by_cases h : st = 1
      · subst h; rw [ext_110, ext_110, h1]
      · rw [ext_10 h, ext_10 h, h1]; rfl
    · obtain ⟨h13, h10⟩ := nl_no hc
      have hn : nst c = 2 := by unfold nst; rw [if_neg h13, if_neg h10]
      rw [hn]
      by_cases h : c = 46 ∧ st ≠ 2
      · obtain ⟨rfl, hs⟩ := h
        rw [ext_dot hs, ext_dot hs, h1, List.append_assoc]
      · rw [ext_plain hc h, ext_plain hc h, h1]; rfl

theorem dot_norm : ∀ (n : Nat) (l : List Nat), l.length ≤ n → dot true (norm l) = ext 1 0 l ∧ dot false (norm l) = ext 1 2 l := by
  intro n
  induction n with
  | zero =>
    intro l h
    rw [List.length_eq_zero_iff.mp (Nat.le_zero.mp h)]
    exact ⟨rfl, rfl⟩
  | succ n ih =>
    intro l h
    cases l with
    | nil => exact ⟨rfl, rfl⟩
    | cons c r =>
      have hr := ih r (by simp at h; omega)
      rcases nl_cases (c := c) with rfl | rfl | hc
      · cases r with
        | nil => exact ⟨rfl, rfl⟩
        | cons d q =>
          by_cases hd : d = 10
          · subst hd
            have hq := ih q (by simp at h; omega)
            rw [norm_crlf, dot_crlf, dot_crlf, ext_13, ext_13, ext_110, hq.1]
            exact ⟨rfl, rfl⟩
          · rw [norm3, if_neg (by simp [hd]), if_pos (by decide), dot_crlf, dot_crlf, ext_13, ext_13, ext_1 (fun r e => hd (List.cons.inj e).1), hr.1]
            exact ⟨rfl, rfl⟩
      · cases r with
        | nil => exact ⟨rfl, rfl⟩
        | cons d q =>
          rw [norm3, if_neg (by simp), if_pos (by decide), dot_crlf, dot_crlf, ext_10 (by decide), ext_10 (by decide), hr.1]
          exact ⟨rfl, rfl⟩
      · obtain ⟨h13, h10⟩ := nl_no hc
        rw [norm_other hc, dot_cons, dot_cons]
        have e10 : (c == 10) = false := by simp [h10]
        rw [e10, hr.2]
        by_cases h46 : c = 46
        · subst h46
          rw [ext_dot (by decide), ext_plain hc (by simp)]
          exact ⟨rfl, rfl⟩
        · rw [ext_plain hc (by simp [h46]), ext_plain hc (by simp)]
          simp [h46]
theorem quote_ext (l : List Nat) : quote l = ext 1 0 l := (dot_norm l.length l (Nat.le_refl _)).1
theorem norm_ext (k : Nat) : ∀ (l : List Nat) (st : Nat), norm (ext k st l) = ext k st l
  | [], st => rfl
  | c :: r, st => by
    have ih := norm_ext k r
    rcases nl_cases (c := c) with rfl | rfl | hc
    · rw [ext_13, norm_crlf, ih]
    · by_cases h : st = 1
      · subst h; rw [ext_110, ih]
      · rw [ext_10 h, norm_crlf, ih]
    · by_cases h : c = 46 ∧ st ≠ 2
      · obtain ⟨rfl, h2⟩ := h
        rw [ext_dot h2]
        have : ∀ j : Nat, norm (List.replicate j 46 ++ ext k 2 r) = List.replicate j 46 ++ ext k 2 r := by
          intro j
          induction j with
          | zero => exact ih 2
          | succ j ij => rw [List.replicate_succ, List.cons_append, norm_other (by decide), ij]
        exact this _
      · rw [ext_plain hc h, norm_other hc, ih]
theorem dot_ext : ∀ (l : List Nat) (st : Nat), dot (st != 2) (ext 1 st l) = ext 2 st l
  | [], st => by cases h : (st != 2) <;> rfl
  | c :: r, st => by
    have ih := dot_ext r
    rcases nl_cases (c := c) with rfl | rfl | hc
    · rw [ext_13, ext_13, dot_crlf]
      have := ih 1
      rw [show ((1 : Nat) != 2) = true from rfl] at this
      rw [this]
    · have h0 := ih 0
      rw [show ((0 : Nat) != 2) = true from rfl] at h0
      by_cases h : st = 1
      · subst h; rw [ext_110, ext_110]; exact h0
      · rw [ext_10 h, ext_10 h, dot_crlf, h0]
    · have h2 := ih 2
      rw [show ((2 : Nat) != 2) = false from rfl] at h2
      obtain ⟨h13, h10⟩ := nl_no hc
      by_cases h : c = 46 ∧ st ≠ 2
      · obtain ⟨rfl, hs⟩ := h
        rw [ext_dot hs, ext_dot hs, show (st != 2) = true by simp [hs]]
        show dot true (46 :: 46 :: ext 1 2 r) = 46 :: 46 :: 46 :: ext 2 2 r
        rw [dot_cons, dot_cons]
        simp [h2]
      · rw [ext_plain hc h, ext_plain hc h, dot_cons, show (c == 10) = false by simp [h10], h2]
        have : ((st != 2) && c == 46) = false := by
          by_cases e : c = 46
          · by_cases e2 : st = 2
            · simp [e2]
            · exact absurd ⟨e, e2⟩ h
          · simp [e]
        rw [this]
        rfl
theorem sent_ext {k : Nat} (hk : k = 1 ∨ k = 2) (l : List Nat) : Nat.repeat quote k l = ext k 0 l := by
  rcases hk with rfl | rfl
  · exact quote_ext l
  · show quote (quote l) = _
    rw [quote_ext l]
    unfold quote
    rw [norm_ext]
    exact dot_ext l 0

/-- the rows of a text that begins in a state -/
def rowsA : Nat → List Nat → List (List Nat)
  | _, [] => [[]]
  | st, c :: r => if c = 13 then [] :: rowsA 1 r else if c = 10 then (if st = 1 then rowsA 0 r else [] :: rowsA 0 r) else hd1 c (rowsA 2 r)
theorem rowsA_13 (st : Nat) (r : List Nat) : rowsA st (13 :: r) = [] :: rowsA 1 r := by rw [rowsA, if_pos rfl]
theorem rowsA_10 {st : Nat} (h : st ≠ 1) (r : List Nat) : rowsA st (10 :: r) = [] :: rowsA 0 r := by rw [rowsA, if_neg (by decide), if_pos rfl, if_neg h]
theorem rowsA_110 (r : List Nat) : rowsA 1 (10 :: r) = rowsA 0 r := by rw [rowsA, if_neg (by decide), if_pos rfl, if_pos rfl]
theorem rowsA_o {c st : Nat} (h : isNl c = false) (r : List Nat) : rowsA st (c :: r) = hd1 c (rowsA 2 r) := by
  obtain ⟨a, b⟩ := nl_no h
  rw [rowsA, if_neg a, if_neg b]
theorem rowsA_st {st : Nat} (h : st ≠ 1) (l : List Nat) : rowsA st l = rowsA 0 l := by
  cases l with
  | nil => rfl
  | cons c r =>
    rcases nl_cases (c := c) with rfl | rfl | hc
    · rw [rowsA_13, rowsA_13]
    · rw [rowsA_10 h, rowsA_10 (by decide)]
    · rw [rowsA_o hc, rowsA_o hc]
theorem rowsA_1 {l : List Nat} (h : ∀ r, l ≠ 10 :: r) : rowsA 1 l = rowsA 0 l := by
  cases l with
  | nil => rfl
  | cons c r =>
    rcases nl_cases (c := c) with rfl | rfl | hc
    · rw [rowsA_13, rowsA_13]
    · exact absurd rfl (h r)
    · rw [rowsA_o hc, rowsA_o hc]
theorem rep1_o {c : Nat} (h : c ≠ 13) (r : List Nat) : rep1 (c :: r) = c :: rep1 r := by
  cases r with
  | nil => rfl
  | cons d r => rw [rep1_3, if_neg (fun q => h q.1)]
theorem rep2_cons (c : Nat) (r : List Nat) : rep2 (c :: r) = (if c = 13 then 10 else c) :: rep2 r := rfl
theorem rowsL_A : ∀ (n : Nat) (l : List Nat), l.length ≤ n → rowsL l = rowsA 0 l := by
  intro n
  induction n with
  | zero =>
    intro l h
    rw [List.length_eq_zero_iff.mp (Nat.le_zero.mp h)]
    rfl
  | succ n ih =>
    intro l h
    cases l with
    | nil => rfl
    | cons c r =>
      have hr := ih r (by simp at h; omega)
      unfold rowsL at hr ih ⊢
      rcases nl_cases (c := c) with rfl | rfl | hc
      · cases r with
        | nil => rfl
        | cons d q =>
          by_cases hd : d = 10
          · subst hd
            have hq := ih q (by simp at h; omega)
            rw [rep1_3, if_pos ⟨rfl, rfl⟩, rep2_cons, if_neg (by decide), cut1_2, if_pos rfl, hq, rowsA_13, rowsA_110]
          · rw [rep1_3, if_neg (fun e => hd e.2), rep2_cons, if_pos rfl, cut1_2, if_pos rfl, hr, rowsA_13, rowsA_1 (fun r e => hd (List.cons.inj e).1)]
      · rw [rep1_o (by decide), rep2_cons, if_neg (by decide), cut1_2, if_pos rfl, hr, rowsA_10 (by decide)]
      · obtain ⟨h13, h10⟩ := nl_no hc
        rw [rep1_o h13, rep2_cons, if_neg h13, cut1_2, if_neg h10, hr, rowsA_o hc, rowsA_st (st := 2) (by decide)]
theorem cut2_crlf (r : List Nat) : cut2 (13 :: 10 :: r) = [] :: cut2 r := by rw [cut2_3, if_pos ⟨rfl, rfl⟩]
theorem cut2_o {c : Nat} (h : c ≠ 13) (r : List Nat) : cut2 (c :: r) = hd1 c (cut2 r) := by
  cases r with
  | nil => rfl
  | cons d r => rw [cut2_3, if_neg (fun q => h q.1)]
/-- the first row dealt with by its state, the others each -/
def stuffs (k st : Nat) : List (List Nat) → List (List Nat)
  | [] => []
  | p :: r => (if st = 2 then p else stuff k p) :: r.map (stuff k)
theorem rowsA_ne : ∀ (l : List Nat) (st : Nat), ∃ p r, rowsA st l = p :: r
  | [], _ => ⟨_, _, rfl⟩
  | c :: l, st => by
    rcases nl_cases (c := c) with rfl | rfl | hc
    · exact ⟨_, _, rowsA_13 ..⟩
    · by_cases h : st = 1
      · subst h; rw [rowsA_110]; exact rowsA_ne l 0
      · exact ⟨_, _, rowsA_10 h _⟩
    · obtain ⟨p, r, e⟩ := rowsA_ne l 2
      rw [rowsA_o hc, e]
      exact ⟨_, _, rfl⟩
theorem stuffs_nil {k st : Nat} (h : st ≠ 2) {l : List (List Nat)} : stuffs k st l = l.map (stuff k) := by
  cases l with
  | nil => rfl
  | cons p r => show (if st = 2 then _ else _) :: _ = _; rw [if_neg h]; rfl
theorem stuffs_cons {k st : Nat} (l : List (List Nat)) : stuffs k st ([] :: l) = [] :: l.map (stuff k) := by
  show (if st = 2 then _ else _) :: _ = _
  split <;> rfl
theorem cut2_dots (k : Nat) {l : List Nat} : ∀ j : Nat, ∀ {p : List Nat} {r : List (List Nat)}, cut2 l = p :: r → cut2 (List.replicate j 46 ++ l) = (List.replicate j 46 ++ p) :: r
  | 0, p, r, h => h
  | j + 1, p, r, h => by rw [List.replicate_succ, List.cons_append, cut2_o (by decide), cut2_dots k j h]; rfl
theorem cut2_ext (k : Nat) : ∀ (l : List Nat) (st : Nat), cut2 (ext k st l) = stuffs k st (rowsA st l)
  | [], st => by show [[]] = (if st = 2 then _ else _) :: _; split <;> rfl
  | c :: r, st => by
    have ih := cut2_ext k r
    rcases nl_cases (c := c) with rfl | rfl | hc
    · rw [ext_13, cut2_crlf, ih, rowsA_13, stuffs_cons, stuffs_nil (by decide)]
    · by_cases h : st = 1
      · subst h; rw [ext_110, rowsA_110, ih, stuffs_nil (by decide), stuffs_nil (by decide)]
      · rw [ext_10 h, cut2_crlf, ih, rowsA_10 h, stuffs_cons, stuffs_nil (by decide)]
    · obtain ⟨p, q, e⟩ := rowsA_ne r 2
      have ih2 := ih 2
      rw [e] at ih2
      have ih3 : cut2 (ext k 2 r) = p :: q.map (stuff k) := ih2
      obtain ⟨h13, h10⟩ := nl_no hc
      rw [rowsA_o hc, e]
      show _ = (if st = 2 then c :: p else stuff k (c :: p)) :: q.map (stuff k)
      by_cases h : c = 46 ∧ st ≠ 2
      · obtain ⟨rfl, hs⟩ := h
        rw [ext_dot hs, if_neg hs]
        have := cut2_dots k (k + 1) ih3
        rw [this]
        have e2 : stuff k (46 :: p) = List.replicate k 46 ++ 46 :: p := by unfold stuff; rw [if_pos (by rfl)]
        rw [e2, List.replicate_succ']
        simp
      · rw [ext_plain hc h, cut2_o h13, ih3]
        have e2 : (if st = 2 then c :: p else stuff k (c :: p)) = c :: p := by
          by_cases hs : st = 2
          · rw [if_pos hs]
          · rw [if_neg hs]
            unfold stuff
            rw [if_neg]
            intro q
            have : c = 46 := by simpa using q
            exact h ⟨this, hs⟩
        rw [e2]
        rfl
theorem unst_stuff (k : Nat) (row : List Nat) (hk : 1 ≤ k) : unst k (stuff k row) = row := by
  unfold stuff
  split
  · obtain ⟨j, rfl⟩ : ∃ j, k = j + 1 := ⟨k - 1, by omega⟩
    unfold unst
    rw [if_pos (by rw [List.replicate_succ]; rfl), List.drop_left' (by simp)]
  · rename_i h
    unfold unst
    rw [if_neg h]
theorem heard_rows {k : Nat} (hk : 1 ≤ k) (l : List Nat) : (cut2 (ext k 0 l)).map (unst k) = rowsL l := by
  rw [cut2_ext, stuffs_nil (by decide), List.map_map, rowsL_A l.length l (Nat.le_refl _)]
  conv => rhs; rw [← List.map_id (rowsA 0 l)]
  exact List.map_congr_left fun p _ => unst_stuff k p hk
theorem joinL_cut2 : ∀ (n : Nat) (l : List Nat), l.length ≤ n → joinL [13, 10] (cut2 l) = l := by
  intro n
  induction n with
  | zero =>
    intro l h
    rw [List.length_eq_zero_iff.mp (Nat.le_zero.mp h)]
    rfl
  | succ n ih =>
    intro l h
    match l, h with
    | [], _ => rfl
    | [c], _ => rfl
    | c :: d :: r, h =>
      rw [cut2_3]
      split
      · rename_i e
        obtain ⟨rfl, rfl⟩ := e
        rw [join_nil _ (cut2_ne r), ih r (by simp at h; omega)]
        rfl
      · rw [join_hd1 _ _ (cut2_ne _), ih (d :: r) (by simp at h ⊢; omega)]
theorem home_ext (k : Nat) (l : List Nat) : joinL [13, 10] ((rowsL l).map (stuff k)) = ext k 0 l := by
  have := cut2_ext k l 0
  rw [stuffs_nil (by decide), ← rowsL_A l.length l (Nat.le_refl _)] at this
  rw [← this, joinL_cut2 _ _ (Nat.le_refl _)]
end Mine
end

-- Pm
section
open PySem PySem.W PyProof.Rows PySem.Calls
set_option Elab.async false
set_option maxRecDepth 100000
set_option linter.all false
namespace Mine
abbrev Bk := List (List (List Nat))
/-- x behind the i-th row -/
def addB : Bk → Nat → List Nat → Bk
  | [], _, _ => []
  | b :: bs, 0, x => (b ++ [x]) :: bs
  | b :: bs, i + 1, x => b :: addB bs i x
def turn (k home bd : Nat) (signs : List (List Nat)) (st : Nat) (S : Bk × List (List Nat)) (t : List Nat) : Bk × List (List Nat) :=
  if (ext k st t).length ≤ home + bd then (addB S.1 ((ext k st t).length - home) (ext k st t), S.2 ++ signs.map (t ++ ·)) else S
def round (k home bd : Nat) (signs : List (List Nat)) (st : Nat) (S : Bk × List (List Nat)) : Bk × List (List Nat) := S.2.foldl (turn k home bd signs st) (S.1, [])
def rounds (k home bd : Nat) (signs : List (List Nat)) (st : Nat) (front : List Nat) (j : Nat) : Bk × List (List Nat) := Nat.repeat (round k home bd signs st) j (List.replicate (bd + 1) [], [front])
def mailsL (k home bd : Nat) (signs : List (List Nat)) (st : Nat) (front : List Nat) : Bk := (rounds k home bd signs st front (bd + 2)).1

theorem addB_map (f : List Nat → List Nat) : ∀ (B : Bk) (i : Nat) (x : List Nat), addB (B.map (List.map f)) i (f x) = (addB B i x).map (List.map f)
  | [], _, _ => rfl
  | b :: bs, 0, x => by show (List.map f b ++ [f x]) :: _ = List.map f (b ++ [x]) :: _; rw [List.map_append]; rfl
  | b :: bs, i + 1, x => by show List.map f b :: addB (List.map (List.map f) bs) i (f x) = List.map f b :: _; rw [addB_map f bs i x]
section
variable (k bd : Nat) (signs : List (List Nat)) (front : List Nat)
def shiftS (S : Bk × List (List Nat)) : Bk × List (List Nat) := (S.1.map (List.map (ext k 0 front ++ ·)), S.2.map (front ++ ·))
theorem turn_shift (S : Bk × List (List Nat)) (t : List Nat) : turn k (ext k 0 front).length bd signs 0 (shiftS k front S) (front ++ t) = shiftS k front (turn k 0 bd signs (aft 0 front) S t) := by
  unfold turn
  rw [ext_append, List.length_append]
  by_cases h : (ext k (aft 0 front) t).length ≤ 0 + bd
  · rw [if_pos h, if_pos (by omega)]
    unfold shiftS
    rw [show (ext k 0 front).length + (ext k (aft 0 front) t).length - (ext k 0 front).length = (ext k (aft 0 front) t).length - 0 by omega]
    refine Prod.ext ?_ ?_
    · exact addB_map (ext k 0 front ++ ·) _ _ _
    · show List.map _ S.2 ++ _ = List.map _ (S.2 ++ _)
      rw [List.map_append, List.map_map]
      congr 1
      exact List.map_congr_left fun x _ => List.append_assoc ..
  · rw [if_neg h, if_neg (by omega)]
theorem fold_shift : ∀ (ts : List (List Nat)) (S : Bk × List (List Nat)), (ts.map (front ++ ·)).foldl (turn k (ext k 0 front).length bd signs 0) (shiftS k front S) = shiftS k front (ts.foldl (turn k 0 bd signs (aft 0 front)) S)
  | [], _ => rfl
  | t :: ts, S => by
    rw [List.map_cons, List.foldl_cons, List.foldl_cons, turn_shift]
    exact fold_shift ts _
theorem round_shift (S : Bk × List (List Nat)) : round k (ext k 0 front).length bd signs 0 (shiftS k front S) = shiftS k front (round k 0 bd signs (aft 0 front) S) := by
  unfold round
  exact fold_shift k bd signs front S.2 (S.1, [])
theorem rounds_shift : ∀ j : Nat, rounds k (ext k 0 front).length bd signs 0 front j = shiftS k front (rounds k 0 bd signs (aft 0 front) [] j)
  | 0 => by
    show (List.replicate (bd + 1) [], [front]) = shiftS k front (List.replicate (bd + 1) [], [[]])
    unfold shiftS
    simp
  | j + 1 => by
    show round _ _ _ _ _ (rounds _ _ _ _ _ _ j) = _
    rw [rounds_shift j, round_shift]
    rfl
theorem mails_shift : mailsL k (ext k 0 front).length bd signs 0 front = (mailsL k 0 bd signs (aft 0 front) []).map (List.map (ext k 0 front ++ ·)) := by
  unfold mailsL
  rw [rounds_shift]
  rfl
end
theorem unl_map (E : List Nat) (l : List (List Nat)) : unl (l.map (E ++ ·)) = unl l := by
  unfold unl
  rw [List.length_map]
  congr 1
  refine List.filter_congr fun j hj => ?_
  have hj' : j < l.length := List.mem_range.mp hj
  congr 1
  rw [← List.map_take, List.any_map]
  have e : (l.map (E ++ ·)).getD j [] = E ++ l.getD j [] := by simp [List.getD_eq_getElem?_getD, hj']
  rw [e]
  congr 1
  funext p
  show ((E ++ p) == (E ++ l.getD j [])) = (p == l.getD j [])
  rw [Bool.eq_iff_iff, beq_iff_eq, beq_iff_eq]
  exact List.append_right_inj E
theorem lens_shift (k bd : Nat) (signs : List (List Nat)) (front : List Nat) : (mailsL k (ext k 0 front).length bd signs 0 front).map List.length = (mailsL k 0 bd signs (aft 0 front) []).map List.length := by
  rw [mails_shift, List.map_map]
  exact List.map_congr_left fun l _ => List.length_map _
theorem unls_shift (k bd : Nat) (signs : List (List Nat)) (front : List Nat) : (mailsL k (ext k 0 front).length bd signs 0 front).map unl = (mailsL k 0 bd signs (aft 0 front) []).map unl := by
  rw [mails_shift, List.map_map]
  exact List.map_congr_left fun l _ => unl_map _ _

/-! rows of coefficients, the lowest first -/
def padd : List Int → List Int → List Int
  | [], q => q
  | p, [] => p
  | a :: p, b :: q => (a + b) :: padd p q
def pscale (c : Int) (p : List Int) : List Int := p.map (c * ·)
def pmul : List Int → List Int → List Int
  | [], _ => []
  | a :: p, q => padd (pscale a q) (0 :: pmul p q)
def sg : List Int → Int
  | [] => 0
  | c :: r => if sg r = 0 then c else sg r
section
variable (n : Nat)
theorem dval_padd : ∀ (p q : List Int), dval n (padd p q) = dval n p + dval n q
  | [], q => by show dval n (padd [] q) = 0 + dval n q; rw [Int.zero_add]; cases q <;> rfl
  | a :: p, [] => by show dval n (a :: p) = dval n (a :: p) + 0; rw [Int.add_zero]
  | a :: p, b :: q => by
    show (a + b) + 2 ^ n * dval n (padd p q) = (a + 2 ^ n * dval n p) + (b + 2 ^ n * dval n q)
    rw [dval_padd p q, Int.mul_add]
    omega
theorem dval_pscale (c : Int) : ∀ (p : List Int), dval n (pscale c p) = c * dval n p
  | [] => by show (0 : Int) = c * 0; omega
  | a :: p => by
    show c * a + 2 ^ n * dval n (pscale c p) = c * (a + 2 ^ n * dval n p)
    rw [dval_pscale c p, Int.mul_add, Int.mul_left_comm]
theorem dval_pmul : ∀ (p q : List Int), dval n (pmul p q) = dval n p * dval n q
  | [], q => by show (0 : Int) = 0 * _; omega
  | a :: p, q => by
    show dval n (padd (pscale a q) (0 :: pmul p q)) = (a + 2 ^ n * dval n p) * dval n q
    rw [dval_padd, dval_pscale]
    show a * dval n q + (0 + 2 ^ n * dval n (pmul p q)) = _
    rw [dval_pmul p q, Int.add_mul, Int.mul_assoc]
    omega
end
def small (p : List Int) : Bool := p.all fun c => decide (c.natAbs ≤ 60000)
theorem big16 {n : Nat} (hn : 16 ≤ n) : (65536 : Int) ≤ 2 ^ n := by
  have := pow_le' hn
  rwa [show (2 : Int) ^ 16 = 65536 from rfl] at this
theorem sg_spec {n : Nat} (hn : 16 ≤ n) : ∀ {p : List Int}, small p = true → (0 < sg p → 1 ≤ dval n p) ∧ (sg p = 0 → dval n p = 0) ∧ (sg p < 0 → dval n p ≤ -1)
  | [], _ => ⟨fun h => absurd h (by decide), fun _ => rfl, fun h => absurd h (by decide)⟩
  | c :: r, h => by
    have h1 : c.natAbs ≤ 60000 ∧ small r = true := by
      unfold small at h ⊢
      rw [List.all_cons, Bool.and_eq_true, decide_eq_true_eq] at h
      exact h
    obtain ⟨a, b, d⟩ := sg_spec hn h1.2
    have hB := big16 hn
    have hc := h1.1
    show (0 < sg (c :: r) → 1 ≤ c + 2 ^ n * dval n r) ∧ (sg (c :: r) = 0 → c + 2 ^ n * dval n r = 0) ∧ (sg (c :: r) < 0 → c + 2 ^ n * dval n r ≤ -1)
    unfold sg
    by_cases h0 : sg r = 0
    · rw [if_pos h0, b h0]
      omega
    · rw [if_neg h0]
      refine ⟨fun q => ?_, fun q => absurd q h0, fun q => ?_⟩
      · have := a q
        have h2 : (2 : Int) ^ n * 1 ≤ 2 ^ n * dval n r := Int.mul_le_mul_of_nonneg_left this (by omega)
        omega
      · have := d q
        have h2 : (2 : Int) ^ n * dval n r ≤ 2 ^ n * (-1) := Int.mul_le_mul_of_nonneg_left this (by omega)
        omega
def lo (cs : List Int) : List Int := (cs ++ List.replicate (9 - cs.length) 0).reverse
/-- all that the digits of a quotient hang on -/
def restP (os us : List Int) (bd : Nat) (C : List Int) : List Int := padd (List.replicate bd 0 ++ lo os) (pscale (-1) (pmul (lo us) C.reverse))
def chk (os us : List Int) (bd : Nat) (C : List Int) : Bool :=
  small (restP os us bd C) && decide (0 ≤ sg (restP os us bd C)) && small (padd (lo us) (pscale (-1) (restP os us bd C))) && decide (0 < sg (padd (lo us) (pscale (-1) (restP os us bd C)))) &&
  small (padd (lo us) [0, -1]) && decide (0 < sg (padd (lo us) [0, -1])) && decide (C.length = bd + 1) && C.all (fun c => decide (0 ≤ c) && decide (c < 60000)) && decide (1 ≤ C.headD 0)
theorem dval_range {n : Nat} : ∀ {V : List Int}, (∀ c ∈ V, 0 ≤ c ∧ c < 2 ^ n) → 0 ≤ dval n V ∧ dval n V < 2 ^ (V.length * n)
  | [], _ => by show (0 : Int) ≤ 0 ∧ (0 : Int) < 2 ^ (0 * n); simp
  | c :: V, h => by
    obtain ⟨a, b⟩ := dval_range (n := n) (V := V) fun d hd => h d (.tail _ hd)
    obtain ⟨c0, c1⟩ := h c (.head _)
    have hp := pow_pos' n
    show 0 ≤ c + 2 ^ n * dval n V ∧ c + 2 ^ n * dval n V < 2 ^ ((V.length + 1) * n)
    rw [Nat.add_mul, Nat.one_mul, Nat.add_comm, Int.pow_add]
    have h1 : 0 ≤ 2 ^ n * dval n V := Int.mul_nonneg (by omega) a
    have h2 : (2 : Int) ^ n * (dval n V + 1) ≤ 2 ^ n * 2 ^ (V.length * n) := Int.mul_le_mul_of_nonneg_left (by omega) (by omega)
    rw [Int.mul_add] at h2
    omega
theorem digs_dval {n : Nat} : ∀ {V : List Int}, (∀ c ∈ V, 0 ≤ c ∧ c < 2 ^ n) → digs n V.length (dval n V) = V
  | [], _ => rfl
  | c :: V, h => by
    obtain ⟨c0, c1⟩ := h c (.head _)
    have hp := pow_pos' n
    have ih := digs_dval (n := n) (V := V) fun d hd => h d (.tail _ hd)
    show (c + 2 ^ n * dval n V) % 2 ^ n :: digs n V.length ((c + 2 ^ n * dval n V) / 2 ^ n) = _
    rw [Int.add_mul_emod_self_left, Int.emod_eq_of_lt c0 c1, Int.add_mul_ediv_left _ _ (by omega), Int.ediv_eq_zero_of_lt c0 c1, Int.zero_add, ih]
theorem dval_zeros (n : Nat) : ∀ (j : Nat) (p : List Int), dval n (List.replicate j 0 ++ p) = dval n p * 2 ^ (n * j)
  | 0, p => by simp
  | j + 1, p => by
    rw [List.replicate_succ, List.cons_append]
    show 0 + 2 ^ n * dval n (List.replicate j 0 ++ p) = _
    rw [dval_zeros n j p, Nat.mul_add, Nat.mul_one, Int.pow_add, Int.zero_add, ← Int.mul_assoc, ← Int.mul_assoc, Int.mul_comm (2 ^ n), Int.mul_assoc, Int.mul_assoc, Int.mul_comm (2 ^ n)]
theorem chk_spec {os us : List Int} {bd : Nat} {C : List Int} (h : chk os us bd C = true) {n : Nat} (hn : 16 ≤ n) :
    laid n us ≠ 0 ∧ n ≤ Builtin.Int.intBits (laid n us) ∧ 0 ≤ (laid n os * 2 ^ (n * bd)).fdiv (laid n us) ∧
    (digs n (nDigs n ((laid n os * 2 ^ (n * bd)).fdiv (laid n us))) ((laid n os * 2 ^ (n * bd)).fdiv (laid n us))).reverse = C := by
  unfold chk at h
  simp only [Bool.and_eq_true, decide_eq_true_eq] at h
  obtain ⟨⟨⟨⟨⟨⟨⟨⟨h1, h2⟩, h3⟩, h4⟩, h5⟩, h6⟩, h7⟩, h8⟩, h9⟩ := h
  have hB := big16 hn
  have hU : laid n us = dval n (lo us) := rfl
  have hO : laid n os * 2 ^ (n * bd) = dval n (List.replicate bd 0 ++ lo os) := (dval_zeros n bd (lo os)).symm
  have eR : dval n (restP os us bd C) = dval n (List.replicate bd 0 ++ lo os) + -1 * (dval n (lo us) * dval n C.reverse) := by
    unfold restP
    rw [dval_padd, dval_pscale, dval_pmul]
  have eUR : dval n (padd (lo us) (pscale (-1) (restP os us bd C))) = dval n (lo us) + -1 * dval n (restP os us bd C) := by rw [dval_padd, dval_pscale]
  have eUB : dval n (padd (lo us) [0, -1]) = dval n (lo us) - 2 ^ n := by
    rw [dval_padd]
    show dval n (lo us) + (0 + 2 ^ n * (-1 + 2 ^ n * 0)) = _
    omega
  obtain ⟨r1, r2, r3⟩ := sg_spec hn h1
  have hR0 : 0 ≤ dval n (restP os us bd C) := by
    by_cases e : sg (restP os us bd C) = 0
    · rw [r2 e]; exact Int.le_refl _
    · have := r1 (by omega); omega
  have hUR := (sg_spec hn h3).1 h4
  have hUB := (sg_spec hn h5).1 h6
  rw [eUR] at hUR
  rw [eUB] at hUB
  have hV : ∀ c ∈ C.reverse, 0 ≤ c ∧ c < 2 ^ n := fun c hc => by
    have := List.all_eq_true.mp h8 c (List.mem_reverse.mp hc)
    simp only [Bool.and_eq_true, decide_eq_true_eq] at this
    omega
  have hX : (laid n os * 2 ^ (n * bd)).fdiv (laid n us) = dval n C.reverse := by
    rw [hO, hU, fdiv_pos (by omega)]
    refine (qr_unique (r := dval n (restP os us bd C)) (by omega) ?_ hR0 (by omega)).1.symm
    rw [eR, Int.mul_comm (dval n C.reverse)]
    omega
  obtain ⟨x0, x1⟩ := dval_range hV
  have hlen : C.reverse.length = bd + 1 := by rw [List.length_reverse, h7]
  have hlow : (2 : Int) ^ (bd * n) ≤ dval n C.reverse := by
    cases C with
    | nil => simp at h7
    | cons c C' =>
      have hc : 1 ≤ c := h9
      have hl' : C'.reverse.length = bd := by simp at h7 ⊢; exact h7
      rw [List.reverse_cons, dval_append, hl']
      have hpos := (dval_range (n := n) (V := C'.reverse) fun d hd => hV d (by rw [List.reverse_cons]; exact List.mem_append_left _ hd)).1
      show _ ≤ dval n C'.reverse + 2 ^ (bd * n) * (c + 2 ^ n * 0)
      have hm : (2 : Int) ^ (bd * n) * 1 ≤ 2 ^ (bd * n) * (c + 2 ^ n * 0) := Int.mul_le_mul_of_nonneg_left (by omega) (Int.le_of_lt (pow_pos' _))
      omega
  refine ⟨by rw [hU]; omega, ?_, by rw [hX]; exact x0, ?_⟩
  · rw [hU]
    rcases Nat.lt_or_ge (Builtin.Int.intBits (dval n (lo us))) n with hlt | hge
    · have h := intBits_le_iff.mp (Nat.le_of_lt hlt)
      have e2 : (2 : Int) ^ n = ((2 ^ n : Nat) : Int) := by simp
      rw [e2] at hUB
      omega
    · exact hge
  · rw [hX]
    generalize hx : dval n C.reverse = X at *
    have hub : Builtin.Int.intBits X ≤ (bd + 1) * n := by
      rw [hlen] at x1
      refine bits_of x0 x1
    have hlb : bd * n < Builtin.Int.intBits X := by
      rcases Nat.lt_or_ge (bd * n) (Builtin.Int.intBits X) with hlt | hge
      · exact hlt
      · have h := intBits_le_iff.mp hge
        have e2 : (2 : Int) ^ (bd * n) = ((2 ^ (bd * n) : Nat) : Int) := by simp
        rw [e2] at hlow
        omega
    have hnd : nDigs n X = bd + 1 := by
      unfold nDigs
      rw [Nat.add_mul] at hub
      have e : Builtin.Int.intBits X + n - 1 = (Builtin.Int.intBits X - bd * n - 1) + (bd + 1) * n := by rw [Nat.add_mul]; omega
      rw [e, Nat.add_mul_div_right _ _ (by omega), Nat.div_eq_of_lt (by omega)]
      omega
    rw [hnd, ← hlen, ← hx, digs_dval hV, List.reverse_reverse]
end Mine
end

-- Pc
section
open PySem PySem.W PyProof.Rows PySem.Calls
set_option Elab.async false
set_option maxRecDepth 100000
set_option linter.all false
namespace Mine
def plains (p : Nat) : List Nat := match p with | 0 => [45, 11] | 1 => [8232, 32] | 2 => [98, 133] | _ => [92, 28]
def signsOf (p some : Nat) : List (List Nat) := ((plains p).take some).map (fun c => [c]) ++ [[46], [13], [10]]
def bdOf (some : Nat) : Nat := 4 - some
def begunOf (k st : Nat) : List Int := if st = 2 then [1] else if k = 1 then [1, -1, 1] else [1, -1, 0, 1]
def overOf (k st : Nat) : List Int := if st = 1 then (if k = 1 then [2, -2, 1, 1, -1] else [2, -2, -1, 3, 0, -1]) else begunOf k st
def everyOf (k some : Nat) : List Int := if k = 1 then [1, -1 - (some : Int), -3, 3, -2, -1, 1] else [1, -1 - (some : Int), -3, 3, 1, -4, 0, 1]
def eachOf (k some : Nat) : List Int := if k = 1 then [1, -1 - (some : Int), -1, 1, -1] else [1, -1 - (some : Int), -1, 1, 0, -1]
def cfg (k some p st : Nat) : Bool :=
  chk (overOf k st) (everyOf k some) (bdOf some) ((mailsL k 0 (bdOf some) (signsOf p some) st []).map fun l => (l.length : Int)) &&
  chk (begunOf k st) (eachOf k some) (bdOf some) ((mailsL k 0 (bdOf some) (signsOf p some) st []).map fun l => (unl l : Int)) &&
  ((mailsL k 0 (bdOf some) (signsOf p some) st []).all fun l => decide (l.length ≤ 2000))
theorem cfg_1_0 : ∀ p : Fin 4, ∀ st : Fin 3, cfg 1 0 p.1 st.1 = true := by decide +kernel
theorem cfg_1_1 : ∀ p : Fin 4, ∀ st : Fin 3, cfg 1 1 p.1 st.1 = true := by decide +kernel
theorem cfg_1_2 : ∀ p : Fin 4, ∀ st : Fin 3, cfg 1 2 p.1 st.1 = true := by decide +kernel
theorem cfg_2_0 : ∀ p : Fin 4, ∀ st : Fin 3, cfg 2 0 p.1 st.1 = true := by decide +kernel
theorem cfg_2_1 : ∀ p : Fin 4, ∀ st : Fin 3, cfg 2 1 p.1 st.1 = true := by decide +kernel
theorem cfg_2_2 : ∀ p : Fin 4, ∀ st : Fin 3, cfg 2 2 p.1 st.1 = true := by decide +kernel
theorem cfg_all {k some p st : Nat} (hk : k = 1 ∨ k = 2) (hs : some < 3) (hp : p < 4) (hst : st < 3) : cfg k some p st = true := by
  have h : some = 0 ∨ some = 1 ∨ some = 2 := by omega
  rcases hk with rfl | rfl <;> rcases h with rfl | rfl | rfl
  · exact cfg_1_0 ⟨p, hp⟩ ⟨st, hst⟩
  · exact cfg_1_1 ⟨p, hp⟩ ⟨st, hst⟩
  · exact cfg_1_2 ⟨p, hp⟩ ⟨st, hst⟩
  · exact cfg_2_0 ⟨p, hp⟩ ⟨st, hst⟩
  · exact cfg_2_1 ⟨p, hp⟩ ⟨st, hst⟩
  · exact cfg_2_2 ⟨p, hp⟩ ⟨st, hst⟩
end Mine
end

-- Pv
section
open PySem PySem.W PyProof.Rows PySem.Calls
set_option Elab.async false
set_option maxRecDepth 100000
set_option linter.all false
namespace Mine
theorem addB_len : ∀ (B : Bk) (i : Nat) (x : List Nat), (addB B i x).length = B.length
  | [], _, _ => rfl
  | b :: bs, 0, x => rfl
  | b :: bs, i + 1, x => by show (addB bs i x).length + 1 = bs.length + 1; rw [addB_len bs i x]
theorem addB_bound {n : Nat} : ∀ {B : Bk} {i : Nat} {x : List Nat}, (∀ b ∈ B, b.length ≤ n) → ∀ b ∈ addB B i x, b.length ≤ n + 1
  | [], _, _, _, b, hb => nomatch hb
  | b0 :: bs, 0, x, h, b, hb => by
    rcases List.mem_cons.mp hb with rfl | hb
    · have := h b0 (.head _); simp; exact this
    · have := h b (.tail _ hb); omega
  | b0 :: bs, i + 1, x, h, b, hb => by
    rcases List.mem_cons.mp hb with rfl | hb
    · have := h b (.head _); omega
    · exact addB_bound (fun q hq => h q (.tail _ hq)) b hb
/-- a text of a round -/
def TOK (front : List Nat) (j : Nat) (t : List Nat) : Prop := (∃ u, t = front ++ u) ∧ t.length ≤ front.length + j
structure SOK (front : List Nat) (bd j n i : Nat) (S : Bk × List (List Nat)) : Prop where
  len : S.1.length = bd + 1
  bk : ∀ b ∈ S.1, b.length ≤ n
  ok : ∀ t ∈ S.2, TOK front j t
  num : S.2.length ≤ i
section
variable {k home bd : Nat} {signs : List (List Nat)} {front : List Nat} {st : Nat}
theorem turn_ok (h1 : ∀ x ∈ signs, x.length = 1) (h2 : signs.length ≤ 5) {j n i : Nat} {S : Bk × List (List Nat)} {t : List Nat} (ht : TOK front j t) (hS : SOK front bd (j + 1) n (5 * i) S) :
    SOK front bd (j + 1) (n + 1) (5 * (i + 1)) (turn k home bd signs st S t) := by
  obtain ⟨a, b, c, d⟩ := hS
  unfold turn
  split
  · refine ⟨by rw [addB_len]; exact a, addB_bound b, fun q hq => ?_, ?_⟩
    · rcases List.mem_append.mp hq with hq | hq
      · exact c q hq
      · obtain ⟨x, hx, rfl⟩ := List.mem_map.mp hq
        obtain ⟨⟨u, rfl⟩, hl⟩ := ht
        refine ⟨⟨u ++ x, List.append_assoc ..⟩, ?_⟩
        have := h1 x hx
        simp only [List.length_append] at hl ⊢
        omega
    · show (S.2 ++ signs.map _).length ≤ _
      rw [List.length_append, List.length_map]
      omega
  · exact ⟨a, fun q hq => Nat.le_succ_of_le (b q hq), c, by omega⟩
theorem fold_ok (h1 : ∀ x ∈ signs, x.length = 1) (h2 : signs.length ≤ 5) {j : Nat} : ∀ {ts : List (List Nat)} {n i : Nat} {S : Bk × List (List Nat)}, (∀ t ∈ ts, TOK front j t) → SOK front bd (j + 1) n (5 * i) S →
    SOK front bd (j + 1) (n + ts.length) (5 * (i + ts.length)) (ts.foldl (turn k home bd signs st) S)
  | [], n, i, S, _, hS => hS
  | t :: ts, n, i, S, ht, hS => by
    have := fold_ok h1 h2 (ts := ts) (fun q hq => ht q (.tail _ hq)) (turn_ok (k := k) (home := home) (st := st) h1 h2 (ht t (.head _)) hS)
    rw [List.length_cons, List.foldl_cons]
    rw [show n + (ts.length + 1) = n + 1 + ts.length by omega, show i + (ts.length + 1) = i + 1 + ts.length by omega]
    exact this
theorem rounds_ok (h1 : ∀ x ∈ signs, x.length = 1) (h2 : signs.length ≤ 5) (j : Nat) : j ≤ 6 → SOK front bd j (j * 3125) (5 ^ j) (rounds k home bd signs st front j)
:= by
  induction j with
  | zero => intro _; exact ⟨by show (List.replicate (bd + 1) []).length = _; simp, fun b hb => by rw [List.eq_of_mem_replicate hb]; exact Nat.le_refl _, fun t ht => by rw [List.mem_singleton.mp ht]; exact ⟨⟨[], by simp⟩, Nat.le_refl _⟩, Nat.le_refl _⟩
  | succ j ih =>
    intro hj
    have ih := ih (by omega)
    show SOK _ _ _ _ _ (round k home bd signs st (rounds k home bd signs st front j))
    generalize rounds k home bd signs st front j = S at ih ⊢
    obtain ⟨a, b, c, d⟩ := ih
    have := fold_ok (k := k) (home := home) (st := st) h1 h2 (n := j * 3125) (i := 0) (S := (S.1, [])) c ⟨a, b, (fun t ht => nomatch ht), Nat.zero_le _⟩
    obtain ⟨a', b', c', d'⟩ := this
    have h5 : 5 ^ j ≤ 3125 := by have : 5 ^ j ≤ 5 ^ 5 := Nat.pow_le_pow_right (by decide) (by omega); simpa using this
    refine ⟨a', fun q hq => Nat.le_trans (b' q hq) (by omega), c', Nat.le_trans d' (by rw [Nat.pow_succ]; omega)⟩
end
theorem ext_pre (k : Nat) (front u : List Nat) : (ext k 0 front).length ≤ (ext k 0 (front ++ u)).length := by
  rw [ext_append, List.length_append]; omega
theorem extk_len (k : Nat) : ∀ (l : List Nat) (st : Nat), (ext k st l).length ≤ (k + 2) * l.length
  | [], _ => Nat.le_refl _
  | c :: r, st => by
    have ih := extk_len k r
    rw [List.length_cons, Nat.mul_add, Nat.mul_one]
    rcases nl_cases (c := c) with rfl | rfl | hc
    · have := ih 1; rw [ext_13]; simp only [List.length_cons]; omega
    · have := ih 0
      by_cases h : st = 1
      · subst h; rw [ext_110]; omega
      · rw [ext_10 h]; simp only [List.length_cons]; omega
    · have := ih 2
      by_cases h : c = 46 ∧ st ≠ 2
      · obtain ⟨rfl, h2⟩ := h
        rw [ext_dot h2, List.length_append, List.length_replicate]; omega
      · rw [ext_plain hc h]; simp only [List.length_cons]; omega
end Mine
end

-- Mh
section
open PySem PySem.W PyProof.Rows PySem.Calls PySem.Builtin PySem.Builtin.Str
set_option Elab.async false
set_option maxRecDepth 100000
set_option linter.all false
namespace Mine
theorem updEq {m : Mp} {x : Str} {v : Value} : upd m x v x = some v := if_pos rfl
theorem updNe {m : Mp} {x y : Str} {v : Value} {r : Option Value} (h : m y = r) (hne : y ≠ x) : upd m x v y = r := (if_neg hne).trans h
section
variable {w : World} {A : Around} {env : Env} {g : Heap} {L : Addr} {m : Mp} {s : Shared} {led : Led}
/-- l.extend(b) -/
theorem extendG {Q : Value → Shared → Prop} {D b : Addr} {o : Obj} {its its2 : List Value} {n2 : Nat} (F : Fr g L s.heap m) (N : News g L s.heap led) (hd : NoDup led) (hm : (D, o) ∈ led) (hl : LO its o) (hb : (b, listOf its2.toArray n2) ∈ led)
    (hne : its2 ≠ []) (hz : its.length ≤ 100000) (hz2 : its2.length ≤ 100000)
    (h : ∀ h' o', Fr g L h' m → News g L h' (setL led D o') → LO (its ++ its2) o' → Q .none { s with heap := h' }) : Go w A (call (.builtin "list.extend") [.ref D, .ref b]) Q s := by
  obtain ⟨n, rfl⟩ := hl
  refine ⟨kl_extend (l := its ++ its2) (n := n) F N hb (by simp) (by simpa using hne) (updSet hd hm) ?_ ?_ ?_ fun h' F' N' => h h' _ F' N' ⟨_, rfl⟩⟩
  · have e : Builtin.List.listTooLong (its.toArray.size + its2.toArray.size) = false := by
      unfold Builtin.List.listTooLong
      simp
      unfold sizeLine at *
      omega
    rw [e]; simp
  · rw [List.toList_toArray, sizeLine_eq]; omega
  · rw [List.size_toArray, List.size_toArray, sizeLine_eq]; omega
end
theorem setL_bl {bl : Led} {a : Addr} {o' : Obj} : ∀ {B : Bk} {i : Nat} {o : Obj} {lb : List (List Nat × Tok)} {x : List Nat} {t : Tok}, NoDup bl → BkL bl B → bl[i]? = some (a, o) → LO (sv lb) o → LO (sv (lb ++ [(x, t)])) o' → BkL (setL bl a o') (addB B i x) := by
  induction bl with
  | nil => intro B i o lb x t _ _ h; simp at h
  | cons p r ih =>
    intro B i o lb x t hn hb hi hl hl'
    have hn' := List.nodup_cons.mp hn
    cases hb with
    | cons h0 hr =>
      rename_i a0 o0 l0 B0
      cases i with
      | zero =>
        have e : (a0, o0) = (a, o) := by simpa using hi
        cases e
        have hoff : ∀ q ∈ r, q.1 ≠ a := fun q hq e => hn'.1 (List.mem_map.mpr ⟨q, hq, e⟩)
        rw [setL_hd, setL_id hoff]
        have el : l0.map (·.1) = lb.map (·.1) := by
          obtain ⟨n0, e0⟩ := h0
          obtain ⟨n1, e1⟩ := hl
          rw [e0] at e1
          have e2 : (sv l0).toArray = (sv lb).toArray := by injection e1 with _ _ e2; injection e2
          have e3 : sv l0 = sv lb := by simpa using congrArg Array.toList e2
          have := congrArg (List.map fun v : Value => match v with | .str c _ => c.cps.toList | _ => []) e3
          unfold sv at this
          rw [List.map_map, List.map_map] at this
          exact this
        show BkL _ ((l0.map (·.1) ++ [x]) :: B0)
        have := BkL.cons (a := a) hl' hr
        rw [List.map_append] at this
        rw [el]
        exact this
      | succ i =>
        have hi' : r[i]? = some (a, o) := by simpa using hi
        have hne : a0 ≠ a := fun e => hn'.1 (List.mem_map.mpr ⟨_, List.mem_of_getElem? hi', e.symm⟩)
        rw [setL_tl (p := (a0, o0)) _ hne]
        exact .cons h0 (ih hn'.2 hr hi' hl hl')
theorem refs_setL (bl : Led) (a : Addr) (o : Obj) : refs (setL bl a o) = refs bl := by
  have h := setL_addrs bl a o
  have e : ∀ l : Led, refs l = (l.map (·.1)).map Value.ref := fun l => by unfold refs; rw [List.map_map]; rfl
  rw [e, e, h]
theorem BkL.get : ∀ {bl : Led} {B : Bk} {i : Nat}, BkL bl B → i < B.length → ∃ a o l, bl[i]? = some (a, o) ∧ LO (sv l) o ∧ B[i]? = some (l.map (·.1))
  | _, _, i, .nil, h => absurd h (Nat.not_lt_zero _)
  | _, _, 0, .cons h0 hr, _ => ⟨_, _, _, rfl, h0, rfl⟩
  | _, _, i + 1, .cons h0 hr, h => by
    obtain ⟨a, o, l, e1, e2, e3⟩ := hr.get (i := i) (by simpa using h)
    exact ⟨a, o, l, by simpa using e1, e2, by simpa using e3⟩
/-- the ledger within the loops -/
abbrev inL (G c2 c1 D T : Addr) (oG o2 o1 oD oT : Obj) (r : Led) : Led := (G, oG) :: (c2, o2) :: (c1, o1) :: (D, oD) :: (T, oT) :: r
theorem nd_cons {p : Addr × Obj} {r : Led} (h : NoDup (p :: r)) : (∀ q ∈ r, q.1 ≠ p.1) ∧ NoDup r := by
  have := List.nodup_cons.mp h
  exact ⟨fun q hq e => this.1 (List.mem_map.mpr ⟨q, hq, e⟩), this.2⟩
theorem nd_mk {p : Addr × Obj} {r : Led} (h1 : ∀ q ∈ r, q.1 ≠ p.1) (h2 : NoDup r) : NoDup (p :: r) :=
  List.nodup_cons.mpr ⟨fun hm => by obtain ⟨q, hq, e⟩ := List.mem_map.mp hm; exact h1 q hq e, h2⟩
section
variable {I G c2 c1 D T : Addr} {oI oG o2 o1 oD oT o' : Obj} {r : Led}
theorem in_c2 (h : NoDup ((I, oI) :: inL G c2 c1 D T oG o2 o1 oD oT r)) : setL ((I, oI) :: inL G c2 c1 D T oG o2 o1 oD oT r) c2 o' = (I, oI) :: inL G c2 c1 D T oG o' o1 oD oT r := by
  obtain ⟨hI, h⟩ := nd_cons h
  obtain ⟨hG, h⟩ := nd_cons h
  obtain ⟨h2, h⟩ := nd_cons h
  rw [setL_tl (p := (I, oI)) _ (hI (c2, o2) (.tail _ (.head _))).symm, setL_tl (p := (G, oG)) _ (hG (c2, o2) (.head _)).symm, setL_hd, setL_id h2]
theorem in_G (h : NoDup ((I, oI) :: inL G c2 c1 D T oG o2 o1 oD oT r)) : setL ((I, oI) :: inL G c2 c1 D T oG o2 o1 oD oT r) G o' = (I, oI) :: inL G c2 c1 D T o' o2 o1 oD oT r := by
  obtain ⟨hI, h⟩ := nd_cons h
  obtain ⟨hG, h⟩ := nd_cons h
  rw [setL_tl (p := (I, oI)) _ (hI (G, oG) (.head _)).symm, setL_hd, setL_id hG]
theorem in_bl {a : Addr} {o : Obj} {bl : Led} (h : NoDup ((I, oI) :: inL G c2 c1 D T oG o2 o1 oD oT (bl ++ r))) (hm : (a, o) ∈ bl) : setL ((I, oI) :: inL G c2 c1 D T oG o2 o1 oD oT (bl ++ r)) a o' = (I, oI) :: inL G c2 c1 D T oG o2 o1 oD oT (setL bl a o' ++ r) := by
  obtain ⟨hI, h⟩ := nd_cons h
  obtain ⟨hG, h⟩ := nd_cons h
  obtain ⟨h2, h⟩ := nd_cons h
  obtain ⟨h1, h⟩ := nd_cons h
  obtain ⟨hD, h⟩ := nd_cons h
  obtain ⟨hT, h⟩ := nd_cons h
  have hmr : (a, o) ∈ bl ++ r := List.mem_append_left _ hm
  have hr : ∀ q ∈ r, q.1 ≠ a := fun q hq e => by
    have hn : (bl.map (·.1) ++ r.map (·.1)).Nodup := by rw [← List.map_append]; exact h
    exact (List.nodup_append.mp hn).2.2 a (List.mem_map.mpr ⟨_, hm, rfl⟩) q.1 (List.mem_map.mpr ⟨_, hq, rfl⟩) e.symm
  rw [setL_tl (p := (I, oI)) _ (hI (a, o) (.tail _ (.tail _ (.tail _ (.tail _ (.tail _ hmr)))))).symm, setL_tl (p := (G, oG)) _ (hG (a, o) (.tail _ (.tail _ (.tail _ (.tail _ hmr))))).symm, setL_tl (p := (c2, o2)) _ (h2 (a, o) (.tail _ (.tail _ (.tail _ hmr)))).symm,
    setL_tl (p := (c1, o1)) _ (h1 (a, o) (.tail _ (.tail _ hmr))).symm, setL_tl (p := (D, oD)) _ (hD (a, o) (.tail _ hmr)).symm, setL_tl (p := (T, oT)) _ (hT (a, o) hmr).symm, setL_app, setL_id hr]
end
/-- a ledger whose addresses are all new stays apart -/
theorem nd_addrs {l l' : Led} (h : NoDup l) (e : l'.map (·.1) = l.map (·.1)) : NoDup l' := by unfold NoDup; rw [e]; exact h
end Mine
end

-- Mi
section
open PySem PySem.W PyProof.Rows PySem.Calls PySem.Builtin PySem.Builtin.Str
set_option Elab.async false
set_option maxRecDepth 100000
set_option linter.all false
namespace Mine
theorem led_nodup {g h : Heap} {L : Addr} : ∀ {led : Led}, News g L h led → ∃ led' : Led, NoDup led' ∧ ∀ p, p ∈ led' ↔ p ∈ led
  | [], _ => ⟨[], List.nodup_nil, fun _ => Iff.rfl⟩
  | p :: r, N => by
    obtain ⟨r', nd, hi⟩ := led_nodup (led := r) fun q hq => N q (.tail _ hq)
    by_cases hp : p ∈ r
    · refine ⟨r', nd, fun q => (hi q).trans ⟨.tail _, fun hq => ?_⟩⟩
      rcases List.mem_cons.mp hq with rfl | hq
      · exact hp
      · exact hq
    · refine ⟨p :: r', nd_mk (fun q hq e => hp ?_) nd, fun q => ?_⟩
      · have hq' := (hi q).mp hq
        have h1 := (N q (.tail _ hq')).1
        have h2 := (N p (.head _)).1
        rw [e, h2] at h1
        have : q = p := Prod.ext e (Option.some.inj h1).symm
        rw [← this]; exact hq'
      · rw [List.mem_cons, List.mem_cons, hi q]
theorem news_new {g h : Heap} {L : Addr} {led : Led} (N : News g L h led) : ∀ q ∈ led, q.1 ≠ h.objs.size := fun q hq => Nat.ne_of_lt (Heap.lt_size (N q hq).1)
theorem fold_take {α β : Type} (f : β → α → β) (S : β) {l : List α} {i : Nat} {t : α} (h : l[i]? = some t) : (l.take (i + 1)).foldl f S = f ((l.take i).foldl f S) t := by
  rw [List.take_succ, h, List.foldl_append]
  rfl
/-- what the frame keeps -/
structure MF (home bd : Nat) (D S : Addr) (m : Mp) : Prop where
  home : ∃ t, m (Str.ofString "home") = some (.int (home : Int) t)
  mails : m (Str.ofString "mails") = some (.ref D)
  signs : m (Str.ofString "signs") = some (.ref S)
  bound : ∃ t, m (Str.ofString "bound") = some (.int (bd : Int) t)
theorem MF.upd {home bd : Nat} {D S : Addr} {m : Mp} {x : Str} {v : Value} (h : MF home bd D S m) (h1 : Str.ofString "home" ≠ x) (h2 : Str.ofString "mails" ≠ x) (h3 : Str.ofString "signs" ≠ x) (h4 : Str.ofString "bound" ≠ x) : MF home bd D S (upd m x v) := by
  obtain ⟨⟨t, a⟩, b, c, ⟨u, d⟩⟩ := h
  exact ⟨⟨t, updNe a h1⟩, updNe b h2, updNe c h3, ⟨u, updNe d h4⟩⟩
section
variable (k home bd : Nat) (sgs : List (List Nat)) (c2 c1 D S : Addr) (o1 oD : Obj) (rf : List Value) (base : Led)
structure OJ (front : List Nat) (i : Nat) (m : Mp) (led : Led) : Prop where
  ex : ∃ T oT o2 v0 l bl, led = (c2, o2) :: (c1, o1) :: (D, oD) :: (T, oT) :: (bl ++ base) ∧ NoDup led ∧ o2.data = .cell v0 ∧ LO (sv l) oT ∧ refs bl = rf ∧ BkL bl (rounds k home bd sgs 0 front i).1 ∧
    l.map (·.1) = (rounds k home bd sgs 0 front i).2 ∧ m (Str.ofString "texts") = some (.ref T)
  fr : MF home bd D S m
structure IJ (G T : Addr) (oT : Obj) (texts : List (List Nat)) (S0 : Bk × List (List Nat)) (i : Nat) (m : Mp) (led : Led) : Prop where
  ex : ∃ oG o2 v0 lg bl, led = inL G c2 c1 D T oG o2 o1 oD oT (bl ++ base) ∧ NoDup led ∧ o2.data = .cell v0 ∧ LO (sv lg) oG ∧ refs bl = rf ∧ BkL bl ((texts.take i).foldl (turn k home bd sgs 0) S0).1 ∧
    lg.map (·.1) = ((texts.take i).foldl (turn k home bd sgs 0) S0).2
  longer : m (Str.ofString "longer") = some (.ref G)
  fr : MF home bd D S m
end
theorem nd_perm {a b : Led} (p : a.Perm b) (h : NoDup b) : NoDup a := (p.map _).nodup_iff.mpr h
section
variable {I G c2 c1 D T : Addr} {oI oG o2 o1 oD oT : Obj} {bl r : Led}
theorem nd_in (h : NoDup ((c2, o2) :: (c1, o1) :: (D, oD) :: (T, oT) :: (bl ++ r))) (hI : ∀ p ∈ (c2, o2) :: (c1, o1) :: (D, oD) :: (T, oT) :: (bl ++ r), p.1 ≠ I) (hG : ∀ p ∈ (I, oI) :: (c2, o2) :: (c1, o1) :: (D, oD) :: (T, oT) :: (bl ++ r), p.1 ≠ G) :
    NoDup (inL G c2 c1 D T oG o2 o1 oD oT (bl ++ ((I, oI) :: r))) :=
  nd_perm (List.Perm.cons _ (List.perm_middle (l₁ := (c2, o2) :: (c1, o1) :: (D, oD) :: (T, oT) :: bl))) (nd_mk (p := (G, oG)) hG (nd_mk hI h))
theorem nd_out (h : NoDup (inL G c2 c1 D T oG o2 o1 oD oT (bl ++ ((I, oI) :: r)))) : NoDup ((c2, o2) :: (c1, o1) :: (D, oD) :: (G, oG) :: (bl ++ r)) ∧ ∀ p ∈ (c2, o2) :: (c1, o1) :: (D, oD) :: (G, oG) :: (bl ++ r), p.1 ≠ I := by
  have h1 : NoDup ((I, oI) :: inL G c2 c1 D T oG o2 o1 oD oT (bl ++ r)) := nd_perm (List.perm_middle (l₁ := inL G c2 c1 D T oG o2 o1 oD oT bl)).symm h
  obtain ⟨a, b⟩ := nd_cons h1
  have h2 : NoDup ((c2, o2) :: (c1, o1) :: (D, oD) :: (G, oG) :: (T, oT) :: (bl ++ r)) := nd_perm (List.perm_middle (l₁ := [(c2, o2), (c1, o1), (D, oD)])) b
  refine ⟨h2.sublist (.cons₂ _ (.cons₂ _ (.cons₂ _ (.cons₂ _ (.cons _ (.refl _)))))), fun p hp => a p ?_⟩
  exact sb_m6 hp
end
theorem sv_at {l : List (List Nat × Tok)} {i : Nat} {v : Value} (h : (sv l)[i]? = some v) : ∃ p, l[i]? = some p ∧ v = .str ⟨p.1.toArray⟩ p.2 := by
  unfold sv at h
  rw [List.getElem?_map] at h
  cases e : l[i]? with
  | none => rw [e] at h; cases h
  | some p => rw [e] at h; cases h; exact ⟨p, rfl, rfl⟩
theorem stuff_len (k : Nat) (row : List Nat) : (stuff k row).length ≤ k + row.length := by
  unfold stuff
  split
  · rw [List.length_append, List.length_replicate]; omega
  · omega
theorem rowsL_len (cs : List Nat) : ∀ p ∈ rowsL cs, p.length ≤ cs.length := fun p hp => by
  have h := cut1_len 10 (rep2 (rep1 cs)) p hp
  have h2 := rep1_len cs
  have h3 : (rep2 (rep1 cs)).length = (rep1 cs).length := by unfold rep2; rw [List.length_map]
  omega
theorem rowsL_num (cs : List Nat) : (rowsL cs).length ≤ cs.length + 1 := by
  have h := cut1_num 10 (rep2 (rep1 cs))
  have h2 := rep1_len cs
  have h3 : (rep2 (rep1 cs)).length = (rep1 cs).length := by unfold rep2; rw [List.length_map]
  unfold rowsL
  omega
theorem rowsL_ne (cs : List Nat) : ∃ p r, rowsL cs = p :: r := by
  rw [rowsL_A cs.length cs (Nat.le_refl _)]
  exact rowsA_ne cs 0
theorem sum_le {l : List Nat} {b : Nat} (h : ∀ x ∈ l, x ≤ b) : l.sum ≤ l.length * b := by
  induction l with
  | nil => simp
  | cons a l ih =>
    have := h a (.head _)
    have := ih fun x hx => h x (.tail _ hx)
    rw [List.sum_cons, List.length_cons, Nat.add_mul, Nat.one_mul]
    omega
theorem glue_rows (l : List (List Nat × Tok)) (hne : ∃ p r, l.map (·.1) = p :: r) : Txt.join ⟨#[13, 10]⟩ (l.map fun p => (⟨p.1.toArray⟩ : Str)) = ⟨(joinL [13, 10] (l.map (·.1))).toArray⟩ := by
  have h : (Txt.join ⟨#[13, 10]⟩ (l.map fun p => (⟨p.1.toArray⟩ : Str))).cps.toList = joinL [13, 10] ((l.map fun p => (⟨p.1.toArray⟩ : Str)).map (·.cps.toList)) := by
    refine glued_eq _ _ ?_
    obtain ⟨p, r, e⟩ := hne
    cases l with
    | nil => cases e
    | cons a b => exact ⟨_, _, rfl⟩
  rw [List.map_map] at h
  apply Str.ext'
  apply Array.toList_inj.mp
  rw [h]
  rfl
end Mine
end

-- Mj
section
open PySem PySem.W PyProof.Rows PySem.Calls PySem.Builtin PySem.Builtin.Str
set_option Elab.async false
set_option maxRecDepth 100000
set_option linter.all false
namespace Mine
section
variable {w : World} {A : Around} {env : Env} {g : Heap} {L : Addr} {m : Mp} {s : Shared} {news : Led} {Q : Value → Shared → Prop}
set_option maxHeartbeats 4000000 in
theorem mails_spec {front : List Nat} {S : Addr} {sg : List (List Nat × Tok)} {z k bd : Nat} {t tt tb : Tok} (hk : k = 1 ∨ k = 2) (hbd : bd ≤ 4) (hfl : front.length ≤ 15)
    (hs1 : ∀ x ∈ sg.map (·.1), x.length = 1) (hs2 : sg.length ≤ 5) (hs0 : sg ≠ [])
    (H : Here w A env g L) (F : Fr g L s.heap m) (N : News g L s.heap news) (R : Room A 3) (hS : (S, listOf (sv sg).toArray z) ∈ news)
    (h : ∀ D c bl h' tk, BkL bl (mailsL k (ext k 0 front).length bd (sg.map (·.1)) 0 front) → Fr g L h' m → News g L h' (bl ++ ((D, listOf (refs bl).toArray c) :: news)) → Q (.ref D) { s with heap := h', toks := tk }) :
    Go w A (call (.ref 114) [.str ⟨front.toArray⟩ t, .ref S, .int (k : Int) tt, .int (bd : Int) tb]) Q s := by
  obtain ⟨news', nd, hnw⟩ := led_nodup N
  refine' enterC (d := 2) (binds := [(Str.ofString "front", .str ⟨front.toArray⟩ t), (Str.ofString "signs", .ref S), (Str.ofString "times", .int (k : Int) tt), (Str.ofString "bound", .int (bd : Int) tb)]) H F (news := news') (fun p hp => N p ((hnw p).mp hp)) R ?ho ?hcd ?hb ?hl ?nd ?c1 ?c2 ?c3 ?_
  case ho => exact rfl
  case hcd => exact rfl
  case hb => exact rfl
  case hl => exact rfl
  case nd => decide +kernel
  case c1 => exact rfl
  case c2 => exact rfl
  case c3 => exact rfl
  clear H F R
  intro g' L' h₁ A' tk cells H F N2 Y R lt
  obtain ⟨o2, o1, rfl, d2, d1⟩ := CellsAre.two Y
  clear Y
  have hS' : (S, listOf (sv sg).toArray z) ∈ news' := (hnw _).mpr hS
  refine exAsgE (g := g') (goLenS H F fun tk1 => goJoin fun tk2 => goComp (g := g') (L := L') (cl := [(Str.ofString "times", L' + 1)]) (fun _ => true) (fun v y => ∀ c t, v = .str ⟨c.toArray⟩ t → ∃ t', y = .str ⟨(stuff k c).toArray⟩ t') rfl (by decide) rfl (by decide) rfl ?_)
  refine callName H F rfl rfl (Ps := [IsS ⟨front.toArray⟩]) ⟨evName F rfl isS, rfl, trivial⟩ fun vs tk3 hvs => ?_
  obtain ⟨v1, rfl, t3, rfl⟩ := allV1 hvs
  refine rows_spec (by omega) H F N2 (R.le (by decide)) fun D l h2 tk4 hl F2 N2 lt2 => ?_
  obtain ⟨l', el, el'⟩ := sv_of l
  rw [el] at N2
  have hl' : l'.map (·.1) = rowsL front := by rw [el', hl]
  have hrow : ∀ p ∈ l', p.1.length ≤ 15 := fun p hp => by
    have := rowsL_len front p.1 (by rw [← hl']; exact List.mem_map_of_mem hp)
    omega
  have hn : l'.length ≤ 16 := by
    have := congrArg List.length hl'
    rw [List.length_map] at this
    have h3 := rowsL_num front
    omega
  refine readyList (s := { s with heap := h2, toks := tk4 }) (z := 0) H.hh F2 N2 (.head _) fun it h3 rd => ?_
  refine ⟨h3, tk4, _, _, _, _, _, rfl, rd, (fun p hp => by rw [List.mem_singleton.mp hp]; exact .head _), (by rw [List.length_map]; omega), ?_, ?_, ?_⟩
  · intro C i v s3 m3 hC hP hns hm F3 N3
    exact ⟨wpAny_pure ⟨rfl, s3.heap, s3.toks, rfl, fun _ _ e => e⟩⟩
  · intro C i v s3 m3 hC hP _ hns hm F3 N3
    obtain ⟨p, hp, rfl⟩ := sv_mem hP
    have hpl := hrow p hp
    refine goIfCmp (goSliceTo (j := 1) (Ev.go (evNameC hns hm isS) fun v1 tk1 hv1 => ?_))
    obtain ⟨t1, rfl⟩ := hv1
    refine ⟨_, t1, rfl, (by show p.1.toArray.size ≤ _; rw [List.size_toArray]; omega), evInt, fun t2 h4 tk4 g4 => ?_⟩
    rw [slTo1]
    refine Ev.go evStr fun v2 tk5 hv2 => ?_
    obtain ⟨t3, rfl⟩ := hv2
    have hns4 : h4.Ns C m3 := hns.at' fun o e => g4 _ o e
    have N4 : News g' L' h4 _ := N3.grown g4
    refine ⟨P.eq_str ⟨_, rfl, fun hc => ?_, fun hc => ?_⟩⟩
    · refine goBin (s := { s3 with heap := h4, toks := tk5 }) (goBin (Ev.go evStr fun v1 tk6 hv1 => Ev.go (evCellC (P := IsI (k : Int)) (v := .int (k : Int) tt) N4 (c := L' + 1) (o := o1) rfl (.tail _ (.tail _ (.head _))) d1 isI rfl) fun v2 tk7 hv2 => ?_))
      obtain ⟨t4, rfl⟩ := hv1
      obtain ⟨t5, rfl⟩ := hv2
      refine goMulDot hk fun t6 tk8 => ?_
      refine Ev.go (evNameC hns4 hm isS) fun v1 tk9 hv1 => ?_
      obtain ⟨t7, rfl⟩ := hv1
      refine goAddS (fun t8 tk10 => ⟨?_, Keeps.of g4⟩) (by rw [List.length_replicate]; omega) (by omega)
      intro c t' e
      cases e
      refine ⟨t8, ?_⟩
      have : stuff k p.1 = List.replicate k 46 ++ p.1 := by
        unfold stuff
        rw [if_pos]
        exact hc
      rw [this]
    · refine Ev.go (s := { s3 with heap := h4, toks := tk5 }) (evNameC hns4 hm isS) fun v1 tk6 hv1 => ?_
      obtain ⟨t4, rfl⟩ := hv1
      refine ⟨?_, Keeps.of g4⟩
      intro c t' e
      cases e
      refine ⟨t4, ?_⟩
      have : stuff k p.1 = p.1 := by
        unfold stuff
        rw [if_neg]
        intro q
        have hc' : ((p.1.take 1) == [46]) = false := hc
        rw [hc'] at q
        cases q
      rw [this]
  intro D2 h' tk3 ys c vs hlen' hP hF F3 N3 hne
  have ev := vals_eq hlen' hP
  subst ev
  rw [filter_all] at hF
  obtain ⟨l2, rfl, e2⟩ := paired_strs hF
  rw [hl'] at e2
  have hl2 : ∀ p ∈ l2, p.1.length ≤ 17 := fun p hp => by
    have hm := List.mem_map_of_mem (f := fun q : List Nat × Tok => q.1) hp
    rw [e2] at hm
    obtain ⟨q, hq, e⟩ := List.mem_map.mp hm
    have h4 := stuff_len k q
    have h5 := rowsL_len front q hq
    have e' : stuff k q = p.1 := e
    rw [e'] at h4
    omega
  have hn2 : l2.length ≤ 16 := by
    have := congrArg List.length e2
    rw [List.length_map, List.length_map] at this
    have h3 := rowsL_num front
    omega
  have hhome : (Txt.join ⟨#[13, 10]⟩ (l2.map fun p => (⟨p.1.toArray⟩ : Str))) = ⟨(ext k 0 front).toArray⟩ := by
    rw [glue_rows l2 (by rw [e2]; obtain ⟨p, r, e⟩ := rowsL_ne front; exact ⟨_, _, by rw [e]; rfl⟩), e2, home_ext]
  refine ⟨D2, l2, rfl, News.isList N3 (.head _), joinOk_of_weight ?_ (by decide), fun t4 tk4 => ?_⟩
  · have h5 := sum_le (l := (l2.map fun p => (⟨p.1.toArray⟩ : Str)).map (·.length)) (b := 17) fun x hx => by
      rw [List.map_map] at hx
      obtain ⟨p, hp, rfl⟩ := List.mem_map.mp hx
      have := hl2 p hp
      show p.1.toArray.size ≤ 17
      simpa using this
    rw [List.length_map, List.length_map] at h5
    rw [List.length_map]
    omega
  have hel := extk_len k front 0
  have hel2 : (ext k 0 front).length ≤ 60 := by
    refine Nat.le_trans hel ?_
    have : k + 2 ≤ 4 := by omega
    exact Nat.le_trans (Nat.mul_le_mul this hfl) (by decide)
  refine ⟨_, t4, rfl, ?_, fun t5 tk5 => ⟨_, _, F3, N3, fun h5 tk6 F5 N5 => ?_⟩⟩
  · have e : Txt.join (Str.ofString "\r\n") (l2.map fun p => (⟨p.1.toArray⟩ : Str)) = ⟨(ext k 0 front).toArray⟩ := hhome
    rw [e]
    show (ext k 0 front).toArray.size ≤ _
    rw [List.size_toArray]; omega
  -- what stands so far
  have ejl : (Txt.join (Str.ofString "\r\n") (l2.map fun p => (⟨p.1.toArray⟩ : Str))).length = (ext k 0 front).length := by
    have e : Txt.join (Str.ofString "\r\n") (l2.map fun p => (⟨p.1.toArray⟩ : Str)) = ⟨(ext k 0 front).toArray⟩ := hhome
    rw [e]
    show (ext k 0 front).toArray.size = _
    rw [List.size_toArray]
  rw [ejl] at F5
  have N6 : News g' L' h5 ((L' + 1 + 1, o2) :: (L' + 1, o1) :: news') := fun p hp => N5 p (.tail _ (.tail _ hp))
  have ltc : ∀ p ∈ news', p.1 ≠ L' + 1 + 1 ∧ p.1 ≠ L' + 1 := fun p hp => by
    have h9 : @LT.lt Nat _ p.1 L' := lt p hp
    have a : @Ne Nat p.1 (L' + 1 + 1) := by omega
    have b : @Ne Nat p.1 (L' + 1) := by omega
    exact ⟨a, b⟩
  have nd6 : NoDup ((L' + 1 + 1, o2) :: (L' + 1, o1) :: news') := nd_mk (fun q hq => by
    rcases List.mem_cons.mp hq with rfl | hq
    · show @Ne Nat (L' + 1) (L' + 1 + 1)
      omega
    · exact (ltc q hq).1) (nd_mk (fun q hq => (ltc q hq).2) nd)
  refine exNewRows (n := bd + 1) H F5 N6 (by omega) (evAdd (i := (bd : Int)) (j := 1) (evName F5 (updNe (v := _) rfl (by decide)) isI) evInt) fun D h6 tk7 c bl ndb hbk F6 N7 ob oD => ?_
  refine exAsgE (g := g') ⟨List_ (args_cons ((evName (P := IsS ⟨front.toArray⟩) F6 (updNe (updNe (v := _) rfl (by decide)) (by decide)) isS).run _ _ _ rfl fun v0 tk8 hv0 => args_nil ?_) rfl)⟩
  obtain ⟨t8, rfl⟩ := hv0
  refine newList_N (s := { s with heap := h6, toks := tk8 }) F6 N7 (fun h7 F7 N8 => ?_) (by show 1 ≤ sizeLine; decide)
  refine ⟨_, _, F7, N8, fun h8 tk9 F8 N9 => ?_⟩
  have newT := news_new N7
  generalize hT : h6.objs.size = T at *
  generalize hoD : listOf (refs bl).toArray c = oDD at *
  obtain ⟨m8, mf, hm8, F8⟩ : ∃ m8 : Mp, MF (ext k 0 front).length bd D S m8 ∧ m8 (Str.ofString "texts") = some (.ref T) ∧ Fr g' L' h8 m8 :=
    ⟨_, ⟨⟨t5, updNe (updNe updEq (by decide)) (by decide)⟩, updNe updEq (by decide), updNe (updNe (updNe (v := _) rfl (by decide)) (by decide)) (by decide), ⟨tb, updNe (updNe (updNe (v := _) rfl (by decide)) (by decide)) (by decide)⟩⟩, updEq, F8⟩
  have ndO : NoDup ((L' + 1 + 1, o2) :: (L' + 1, o1) :: (D, oDD) :: (T, lstObj [Value.str ⟨front.toArray⟩ t8]) :: (bl ++ news')) := by
    obtain ⟨n1, nd7⟩ := nd_cons nd6
    obtain ⟨n2, nd8⟩ := nd_cons nd7
    have hbl : ∀ q ∈ bl, ∀ r ∈ (L' + 1 + 1, o2) :: (L' + 1, o1) :: news', q.1 ≠ r.1 := fun q hq r hr => ((ob q hq).2 r hr).symm
    refine nd_mk (fun q hq => ?_) (nd_mk (fun q hq => ?_) (nd_mk (fun q hq => ?_) (nd_mk (fun q hq => ?_) ?_)))
    · rcases List.mem_cons.mp hq with rfl | hq
      · exact n1 _ (.head _)
      rcases List.mem_cons.mp hq with rfl | hq
      · exact (oD _ (.head _)).symm
      rcases List.mem_cons.mp hq with rfl | hq
      · exact (newT (L' + 1 + 1, o2) (List.mem_append_right _ (.tail _ (.head _)))).symm
      rcases List.mem_append.mp hq with hq | hq
      · exact hbl q hq _ (.head _)
      · exact n1 _ (.tail _ hq)
    · rcases List.mem_cons.mp hq with rfl | hq
      · exact (oD (L' + 1, o1) (.tail _ (.head _))).symm
      rcases List.mem_cons.mp hq with rfl | hq
      · exact (newT (L' + 1, o1) (List.mem_append_right _ (.tail _ (.tail _ (.head _))))).symm
      rcases List.mem_append.mp hq with hq | hq
      · exact hbl q hq _ (.tail _ (.head _))
      · exact n2 _ hq
    · rcases List.mem_cons.mp hq with rfl | hq
      · exact (newT (D, oDD) (List.mem_append_right _ (.head _))).symm
      rcases List.mem_append.mp hq with hq | hq
      · exact (ob q hq).1
      · exact oD _ (.tail _ (.tail _ hq))
    · rcases List.mem_append.mp hq with hq | hq
      · exact newT q (List.mem_append_left _ hq)
      · exact newT q (List.mem_append_right _ (.tail _ (.tail _ (.tail _ hq))))
    · unfold NoDup
      rw [List.map_append]
      refine List.nodup_append.mpr ⟨ndb, nd8, fun x hx y hy => ?_⟩
      obtain ⟨q, hq, rfl⟩ := List.mem_map.mp hx
      obtain ⟨r, hr, rfl⟩ := List.mem_map.mp hy
      exact hbl q hq r (.tail _ (.tail _ hr))
  have N10 : News g' L' h8 ((L' + 1 + 1, o2) :: (L' + 1, o1) :: (D, oDD) :: (T, lstObj [Value.str ⟨front.toArray⟩ t8]) :: (bl ++ news')) := fun p hp => N9 p (sb_m1 hp)
  clear N9 N8 N7 N6 N3 N2 F7 F6 F5 F3 F2 F
  refine exFor (g := g') (L := L') (OJ k (ext k 0 front).length bd (sg.map (·.1)) (L' + 1 + 1) (L' + 1) D S o1 oDD (refs bl) news' front) [] (bd + 2) (fun i v => ∃ t, v = .int (0 + (i : Int) * 1) t) ?_ ?_ ?_
  · obtain ⟨tb', hb⟩ := mf.bound
    refine callBootT H F8 rfl rfl (Ps := [IsI ((bd + 2 : Nat) : Int)]) ⟨evAdd (i := (bd : Int)) (j := 2) (evName F8 hb isI) evInt, rfl, trivial⟩ fun vs tk1 hvs => ?_
    obtain ⟨v1, rfl, t1, rfl⟩ := allV1 hvs
    refine goRange (s := { s with heap := h8, toks := tk1 }) (by omega) H.hh F8 N10 fun it h' tk2 rd => ?_
    exact ⟨h', tk2, _, _, rfl, rd, (fun q hq => nomatch hq), ⟨T, _, o2, none, [(front, t8)], bl, rfl, ndO, d2, ⟨_, rfl⟩, rfl, hbk, rfl, hm8⟩, mf⟩
  · rintro j v m1 led1 h1 tk1 I0 oI0 hj - ⟨⟨T, oT, o2, v0, l, bl1, rfl, nd1, dc2, ⟨zT, rfl⟩, hrf, hbk1, hl1, hmT⟩, mf1⟩ - F1 N1 hne1
    have hok := rounds_ok (k := k) (home := (ext k 0 front).length) (bd := bd) (signs := sg.map (·.1)) (front := front) (st := 0) hs1 (by rw [List.length_map]; exact hs2) j (by omega)
    generalize hB0 : (rounds k (ext k 0 front).length bd (sg.map (·.1)) 0 front j).1 = B0 at *
    have h5j : 5 ^ j ≤ 3125 := by have : 5 ^ j ≤ 5 ^ 5 := Nat.pow_le_pow_right (by decide) (by omega); simpa using this
    refine goStore (s := { s with heap := h1, toks := tk1 }) F1 N1 fun h2 tk2 F2 N2 => ?_
    refine exAsgE (g := g') ⟨List_ (args_nil (newList_N F2 N2 (fun h3 F3 N3 => ?_) (by decide)))⟩
    have newG := news_new N2
    dsimp only at newG N3
    generalize hG : h2.objs.size = G at *
    refine ⟨_, _, F3, N3, fun h4 tk4 F4 N4 => ?_⟩
    have mf4 : MF (ext k 0 front).length bd D S (upd (upd m1 (Str.ofString "size") v) (Str.ofString "longer") (.ref G)) := (mf1.upd (by decide) (by decide) (by decide) (by decide)).upd (by decide) (by decide) (by decide) (by decide)
    have hmT4 : upd (upd m1 (Str.ofString "size") v) (Str.ofString "longer") (.ref G) (Str.ofString "texts") = some (.ref T) := updNe (updNe hmT (by decide)) (by decide)
    have hmG4 : upd (upd m1 (Str.ofString "size") v) (Str.ofString "longer") (.ref G) (Str.ofString "longer") = some (.ref G) := updEq
    generalize upd (upd m1 (Str.ofString "size") v) (Str.ofString "longer") (.ref G) = m4 at *
    have N5 : News g' L' h4 (inL G (L' + 1 + 1) (L' + 1) D T (lstObj []) o2 o1 oDD (W.listOf (sv l).toArray zT) (bl1 ++ ((I0, oI0) :: news'))) := fun p hp => N4 p (sb_m2 hp)
    have nd5 : NoDup (inL G (L' + 1 + 1) (L' + 1) D T (lstObj []) o2 o1 oDD (W.listOf (sv l).toArray zT) (bl1 ++ ((I0, oI0) :: news'))) := nd_in nd1 hne1 newG
    refine exFor (g := g') (L := L') (IJ k (ext k 0 front).length bd (sg.map (·.1)) (L' + 1 + 1) (L' + 1) D S o1 oDD (refs bl) ((I0, oI0) :: news') G T (W.listOf (sv l).toArray zT) (l.map (·.1)) (B0, [])) [(T, W.listOf (sv l).toArray zT)] (sv l).length (fun i v => (sv l)[i]? = some v) ?_ ?_ ?_
    · refine Ev.go (evName F4 hmT4 (P := IsV (.ref T)) rfl) fun v tk5 hv => ?_
      subst hv
      refine readyList (s := { s with heap := h4, toks := tk5 }) (z := zT) H.hh F4 N5 (.tail _ (.tail _ (.tail _ (.tail _ (.head _))))) fun it h' rd => ?_
      exact ⟨h', tk5, _, _, rfl, rd, (fun q hq => by rw [List.mem_singleton.mp hq]; exact .tail _ (.tail _ (.tail _ (.tail _ (.head _))))), ⟨_, o2, v0, [], bl1, rfl, nd5, dc2, ⟨_, rfl⟩, hrf, hbk1, rfl⟩, hmG4, mf4⟩
    · rintro i v m2 led2 h5 tk5 I oI hi hP ⟨⟨oG, o2', v0', lg, bl2, rfl, nd2, dc2', lG, hrf2, hbk2, hlg⟩, hmG, mf2⟩ hkeep F5 N6 hne5
      obtain ⟨p, hp, rfl⟩ := sv_at hP
      have nd3 := nd_mk (p := (I, oI)) hne5 nd2
      have hpm : p.1 ∈ (rounds k (ext k 0 front).length bd (sg.map (·.1)) 0 front j).2 := by rw [← hl1]; exact List.mem_map_of_mem (List.mem_of_getElem? hp)
      obtain ⟨⟨u, hpu⟩, hplen⟩ := hok.ok _ hpm
      have hpl : p.1.length ≤ 20 := by omega
      have hmin : (ext k 0 front).length ≤ (ext k 0 p.1).length := by rw [hpu]; exact ext_pre k front u
      have hmax : (ext k 0 p.1).length ≤ 80 := by
        refine Nat.le_trans (extk_len k p.1 0) ?_
        have : k + 2 ≤ 4 := by omega
        exact Nat.le_trans (Nat.mul_le_mul this hpl) (by decide)
      refine goStoreS (s := { s with heap := h5, toks := tk5 }) (led := (I, oI) :: inL G (L' + 1 + 1) (L' + 1) D T oG o2' o1 oDD (W.listOf (sv l).toArray zT) (bl2 ++ ((I0, oI0) :: news'))) F5 N6 (c := L' + 1 + 1) rfl (.tail _ (.tail _ (.head _))) dc2' fun h6 o2n F6 N7 dn => ?_
      rw [in_c2 nd3] at N7
      have nd4 : NoDup ((I, oI) :: inL G (L' + 1 + 1) (L' + 1) D T oG o2n o1 oDD (W.listOf (sv l).toArray zT) (bl2 ++ ((I0, oI0) :: news'))) := nd_addrs nd3 rfl
      refine exAsgE (g := g') (callName H F6 rfl rfl (Ps := [IsS ⟨p.1.toArray⟩, IsI (k : Int)]) ⟨evCell N7 (c := L' + 1 + 1) rfl (.tail _ (.tail _ (.head _))) dn isS, rfl, evCell N7 (c := L' + 1) rfl (.tail _ (.tail _ (.tail _ (.head _)))) d1 isI, rfl, trivial⟩ fun vs tk6 hvs => ?_)
      obtain ⟨v1, v2, rfl, ⟨t1, rfl⟩, ⟨t2, rfl⟩⟩ := allV2 hvs
      refine sent_spec (s := { s with heap := h6, toks := tk6 }) (by omega) (by omega) H F6 N7 R fun h7 tk7 t7 F7 N8 => ?_
      rw [sent_ext hk]
      refine ⟨_, _, F7, N8, fun h8 tk8 F8 N9 => ?_⟩
      have mf3 : MF (ext k 0 front).length bd D S (upd m2 (Str.ofString "mail") (.str ⟨(ext k 0 p.1).toArray⟩ t7)) := mf2.upd (by decide) (by decide) (by decide) (by decide)
      have hmM : upd m2 (Str.ofString "mail") (.str ⟨(ext k 0 p.1).toArray⟩ t7) (Str.ofString "mail") = some (.str ⟨(ext k 0 p.1).toArray⟩ t7) := updEq
      have hmG3 : upd m2 (Str.ofString "mail") (.str ⟨(ext k 0 p.1).toArray⟩ t7) (Str.ofString "longer") = some (.ref G) := updNe hmG (by decide)
      generalize upd m2 (Str.ofString "mail") (.str ⟨(ext k 0 p.1).toArray⟩ t7) = m3 at *
      obtain ⟨th, hmh⟩ := mf3.home
      obtain ⟨tbb, hmb⟩ := mf3.bound
      have hsl : (⟨(ext k 0 p.1).toArray⟩ : Str).length = (ext k 0 p.1).length := by show (ext k 0 p.1).toArray.size = _; simp
      have hft := fold_take (turn k (ext k 0 front).length bd (sg.map (·.1)) 0) (B0, []) (l := l.map (·.1)) (i := i) (t := p.1) (by rw [List.getElem?_map, hp]; rfl)
      have hS : SOK front bd (j + 1) (j * 3125 + i) (5 * i) (((l.map (·.1)).take i).foldl (turn k (ext k 0 front).length bd (sg.map (·.1)) 0) (B0, [])) := by
        have hil : i ≤ (l.map (·.1)).length := by have : i < (sv l).length := hi; simp at this ⊢; omega
        have hlen : ((l.map (·.1)).take i).length = i := List.length_take_of_le hil
        have h := fold_ok (k := k) (home := (ext k 0 front).length) (bd := bd) (signs := sg.map (·.1)) (front := front) (st := 0) hs1 (by rw [List.length_map]; exact hs2) (j := j) (ts := (l.map (·.1)).take i) (n := j * 3125) (i := 0) (S := (B0, []))
          (fun q hq => hok.ok q (by rw [← hl1]; exact List.mem_of_mem_take hq)) ⟨hB0 ▸ hok.len, hB0 ▸ hok.bk, (fun t ht => nomatch ht), Nat.zero_le _⟩
        rw [hlen, Nat.zero_add] at h
        exact h
      generalize ((l.map (·.1)).take i).foldl (turn k (ext k 0 front).length bd (sg.map (·.1)) 0) (B0, []) = SS at *
      refine exIf (evLe (evSub (evLenS H F8 (evName F8 hmM isS) (by omega)) (evName F8 hmh isI)) (evName F8 hmb isI)) (fun hc tk9 => ?_) (fun hc tk9 => ?_)
      · have hc' : (((⟨(ext k 0 p.1).toArray⟩ : Str).length : Int) - ((ext k 0 front).length : Int) ≤ (bd : Int)) := of_decide_eq_true hc
        have hyes : (ext k 0 p.1).length ≤ (ext k 0 front).length + bd := by omega
        have ht : turn k (ext k 0 front).length bd (sg.map (·.1)) 0 SS p.1 = (addB SS.1 ((ext k 0 p.1).length - (ext k 0 front).length) (ext k 0 p.1), SS.2 ++ (sg.map (·.1)).map (p.1 ++ ·)) := by unfold turn; rw [if_pos hyes]
        rw [ht] at hft
        -- heard != rows
        refine exIfCmp (s := { s with heap := h8, toks := tk9 }) (callName H F8 rfl rfl (Ps := [IsS ⟨(ext k 0 p.1).toArray⟩, IsI (k : Int)]) ⟨evName F8 hmM isS, rfl, evCell N9 (c := L' + 1) rfl (.tail _ (.tail _ (.tail _ (.head _)))) d1 isI, rfl, trivial⟩ fun vs tk10 hvs => ?_)
        obtain ⟨v1, v2, rfl, ⟨t3, rfl⟩, ⟨t4, rfl⟩⟩ := allV2 hvs
        refine heard_spec (s := { s with heap := h8, toks := tk10 }) (by omega) H F8 N9 (R.le (by decide)) fun D1 lh ch h9 tk11 elh F9 N10 ne10 => ?_
        refine callName H F9 rfl rfl (Ps := [IsS ⟨p.1.toArray⟩]) ⟨evCell N10 (c := L' + 1 + 1) rfl (.tail _ (.tail _ (.tail _ (.head _)))) dn isS, rfl, trivial⟩ fun vs tk12 hvs => ?_
        obtain ⟨v1, rfl, ⟨t5, rfl⟩⟩ := allV1 hvs
        refine rows_spec (s := { s with heap := h9, toks := tk12 }) (by omega) H F9 N10 (R.le (by decide)) fun D3 lr h10 tk13 elr F10 N11 ne11 => ?_
        obtain ⟨lr', er, er'⟩ := sv_of lr
        rw [er] at N11
        refine neStrs (s := { s with heap := h10, toks := tk13 }) (News.isList N11 (.tail _ (.head _))) (News.isList N11 (.head _)) (by rw [elh, er', elr]; exact heard_rows (by omega) p.1) (R.le (by decide)) ⟨false, rfl, (fun e => by cases e), fun _ => exNil ?_⟩
        have N12 : News g' L' h10 ((I, oI) :: inL G (L' + 1 + 1) (L' + 1) D T oG o2n o1 oDD (W.listOf (sv l).toArray zT) (bl2 ++ ((I0, oI0) :: news'))) := fun q hq => N11 q (.tail _ (.tail _ hq))
        clear N11 N10 ne11 ne10 F9 er er' elr elh
        show Go w A' (execs _ _) _ _
        -- mails[..].append(mail)
        have hidx : (ext k 0 p.1).length - (ext k 0 front).length < SS.1.length := by rw [hS.len]; omega
        obtain ⟨a, oa, la, hga, hla, hBa⟩ := hbk2.get (i := (ext k 0 p.1).length - (ext k 0 front).length) (by rw [← hbk2.len, hbk2.len]; exact hidx)
        have hamem : (a, oa) ∈ bl2 := List.mem_of_getElem? hga
        have hrefs : (refs bl).toArray[((((⟨(ext k 0 p.1).toArray⟩ : Str).length : Int) - ((ext k 0 front).length : Int))).toNat]? = some (.ref a) := by
          have e1 : ((((⟨(ext k 0 p.1).toArray⟩ : Str).length : Int) - ((ext k 0 front).length : Int))).toNat = (ext k 0 p.1).length - (ext k 0 front).length := by omega
          rw [e1, ← hrf2]
          simp [refs, hga]
        have hDl : h10.IsList D (refs bl).toArray := by
          rw [← hoD] at N12
          exact News.isList N12 (.tail _ (.tail _ (.tail _ (.tail _ (.head _)))))
        have hlal : la.length ≤ 100000 := by
          have h6 := hS.bk _ (List.mem_of_getElem? hBa)
          have hil : i < (sv l).length := hi
          have h7 : l.length ≤ 3125 := by
            have := hok.num
            rw [← hl1, List.length_map] at this
            omega
          rw [List.length_map] at h6 hil
          omega
        refine exExpr (methListE (s := { s with heap := h10, toks := tk13 }) N12 (.tail _ (.tail _ (.tail _ (.tail _ (.tail _ (.tail _ (List.mem_append_left _ hamem))))))) hla PySem.F.slot_list_append PySem.F.type_list_append
          (evItem (i := ((⟨(ext k 0 p.1).toArray⟩ : Str).length : Int) - ((ext k 0 front).length : Int)) (evName F10 mf3.mails rfl) (evSub (evLenS H F10 (evName F10 hmM isS) (by omega)) (evName F10 hmh isI)) hDl (by omega) (by omega) hrefs rfl)
          fun tk14 => Ev.go (evName F10 hmM isS) fun v tk15 hv => ?_)
        obtain ⟨t6, rfl⟩ := hv
        refine appendG (s := { s with heap := h10, toks := tk15 }) F10 N12 (.tail _ (.tail _ (.tail _ (.tail _ (.tail _ (.tail _ (List.mem_append_left _ hamem))))))) hla (by simpa using hlal) fun h11 oa' F11 N13 hla' => ⟨rfl, ?_⟩
        rw [in_bl nd4 hamem] at N13
        have nd5' : NoDup ((I, oI) :: inL G (L' + 1 + 1) (L' + 1) D T oG o2n o1 oDD (W.listOf (sv l).toArray zT) (setL bl2 a oa' ++ ((I0, oI0) :: news'))) := nd_addrs nd4 (by simp only [List.map_cons, List.map_append, setL_addrs])
        have hbk3 : BkL (setL bl2 a oa') (addB SS.1 ((ext k 0 p.1).length - (ext k 0 front).length) (ext k 0 p.1)) := by
          have hndb : NoDup bl2 := by
            obtain ⟨_, q⟩ := nd_cons nd2
            obtain ⟨_, q⟩ := nd_cons q
            obtain ⟨_, q⟩ := nd_cons q
            obtain ⟨_, q⟩ := nd_cons q
            obtain ⟨_, q⟩ := nd_cons q
            exact q.sublist (by rw [List.map_append]; exact List.sublist_append_left _ _)
          refine setL_bl (lb := la) (t := t6) hndb hbk2 hga hla ?_
          unfold sv at hla' ⊢
          rw [List.map_append]
          exact hla'
        have hrf3 : refs (setL bl2 a oa') = refs bl := (refs_setL ..).trans hrf2
        generalize setL bl2 a oa' = bl3 at *
        -- longer.extend([..])
        have hgl : lg.length ≤ 20000 := by
          have h6 := hS.num
          rw [← hlg, List.length_map] at h6
          have hil : i < (sv l).length := hi
          have h7 : l.length ≤ 3125 := by
            have := hok.num
            rw [← hl1, List.length_map] at this
            omega
          rw [List.length_map] at hil
          omega
        refine exExpr (methListE (s := { s with heap := h11, toks := tk15 }) N13 (.tail _ (.head _)) lG PySem.F.slot_list_extend PySem.F.type_list_extend (evName F11 hmG3 rfl)
          fun tk16 => goComp (g := g') (L := L') (cl := [(Str.ofString "text", L' + 1 + 1)]) (fun _ => true) (fun v y => ∀ c t, v = .str ⟨c.toArray⟩ t → ∃ t', y = .str ⟨(p.1 ++ c).toArray⟩ t') rfl (by decide) rfl (by decide) rfl ?_)
        refine Ev.go (evName F11 mf3.signs (P := IsV (.ref S)) rfl) fun v tk17 hv => ?_
        subst hv
        have hSm : (S, listOf (sv sg).toArray z) ∈ (I, oI) :: inL G (L' + 1 + 1) (L' + 1) D T oG o2n o1 oDD (W.listOf (sv l).toArray zT) (bl3 ++ ((I0, oI0) :: news')) := .tail _ (.tail _ (.tail _ (.tail _ (.tail _ (.tail _ (List.mem_append_right _ (.tail _ hS')))))))
        refine readyList (s := { s with heap := h11, toks := tk17 }) (z := z) H.hh F11 N13 hSm fun it h12 rd => ?_
        refine ⟨h12, tk17, _, _, _, _, _, rfl, rd, (fun q hq => by rw [List.mem_singleton.mp hq]; exact hSm), (by rw [List.length_map]; omega), ?_, ?_, ?_⟩
        · intro C i v s3 m3 hC hP hns hm F3 N3
          exact ⟨wpAny_pure ⟨rfl, s3.heap, s3.toks, rfl, fun _ _ e => e⟩⟩
        · intro C i v s3 m3 hC hP _ hns hm F3 N3
          obtain ⟨q, hq, rfl⟩ := sv_at hP
          have hql : q.1.length = 1 := hs1 _ (List.mem_map_of_mem (List.mem_of_getElem? hq))
          refine goBin (Ev.go (evCellC (P := IsS ⟨p.1.toArray⟩) N3 (c := L' + 1 + 1) rfl (.tail _ (.tail _ (.head _))) dn isS rfl) fun v1 tk18 hv1 => Ev.go (evNameC hns hm isS) fun v2 tk19 hv2 => ?_)
          obtain ⟨t7, rfl⟩ := hv1
          obtain ⟨t8, rfl⟩ := hv2
          refine goAddS (fun t9 tk20 => ⟨?_, Keeps.of fun _ _ e => e⟩) (by omega) (by omega)
          intro c t' e
          cases e
          exact ⟨t9, rfl⟩
        · intro D4 h13 tk18 ys c4 vs hlen' hP hF F12 N14 hne14
          have ev := vals_eq hlen' hP
          subst ev
          rw [filter_all] at hF
          obtain ⟨l4, rfl, e4⟩ := paired_strs hF
          have nd6' := nd_mk (p := (D4, listOf (sv l4).toArray c4)) hne14 nd5'
          refine extendG (s := { s with heap := h13, toks := tk18 }) F12 N14 nd6' (.tail _ (.tail _ (.head _))) lG (.head _) ?_ ?_ ?_ fun h14 oG' F13 N15 lG' => ⟨rfl, ?_⟩
          · intro e
            have := congrArg List.length e
            have h6 := congrArg List.length e4
            simp only [List.length_map, List.length_nil] at this h6
            rw [h6] at this
            exact hs0 (List.eq_nil_of_length_eq_zero this)
          · rw [List.length_map]; omega
          · have h6 := congrArg List.length e4
            simp only [List.length_map] at h6
            rw [List.length_map, h6]; omega
          rw [setL_tl (p := (D4, listOf (sv l4).toArray c4)) _ (hne14 (G, oG) (.tail _ (.head _))).symm, in_G nd5'] at N15
          have nd7 : NoDup ((I, oI) :: inL G (L' + 1 + 1) (L' + 1) D T oG' o2n o1 oDD (W.listOf (sv l).toArray zT) (bl3 ++ ((I0, oI0) :: news'))) := nd_addrs nd5' rfl
          refine exNil (exNil ⟨rfl, m3, _, h14, tk18, rfl, F13, (fun q hq => N15 q (.tail _ hq)), (nd_cons nd7).1, (fun q hq => by rw [List.mem_singleton.mp hq]; exact .tail _ (.tail _ (.tail _ (.tail _ (.head _))))), ⟨oG', o2n, _, lg ++ l4, bl3, rfl, (nd_cons nd7).2, dn, ?_, hrf3, ?_, ?_⟩, hmG3, mf3⟩)
          · unfold sv at lG' ⊢
            rw [List.map_append]
            exact lG'
          · rw [hft]; exact hbk3
          · rw [hft, List.map_append, e4, hlg]
      · have hc' : ¬ (((⟨(ext k 0 p.1).toArray⟩ : Str).length : Int) - ((ext k 0 front).length : Int) ≤ (bd : Int)) := of_decide_eq_false hc
        have hno : ¬ (ext k 0 p.1).length ≤ (ext k 0 front).length + bd := by omega
        have ht : turn k (ext k 0 front).length bd (sg.map (·.1)) 0 SS p.1 = SS := by unfold turn; rw [if_neg hno]
        rw [ht] at hft
        refine exNil (exNil ⟨rfl, m3, _, h8, tk9, rfl, F8, N9, (nd_cons nd4).1, (fun q hq => by rw [List.mem_singleton.mp hq]; exact .tail _ (.tail _ (.tail _ (.tail _ (.head _))))), ⟨oG, o2n, _, lg, bl2, rfl, (nd_cons nd4).2, dn, lG, hrf2, ?_, ?_⟩, hmG3, mf3⟩)
        · rw [hft]; exact hbk2
        · rw [hft]; exact hlg
    · rintro m2 led2 h5 tk5 ⟨⟨oG, o2', v0', lg, bl2, rfl, nd2, dc2', lG, hrf2, hbk2, hlg⟩, hmG, mf2⟩ - F5 N6
      refine exAsg F5 N6 (evName F5 hmG (P := IsV (.ref G)) rfl) fun v5 h6 tk6 hv F6 N7 => ?_
      subst hv
      have e5 : ((l.map (·.1)).take (sv l).length).foldl (turn k (ext k 0 front).length bd (sg.map (·.1)) 0) (B0, []) = rounds k (ext k 0 front).length bd (sg.map (·.1)) 0 front (j + 1) := by
        have e1 : (l.map (·.1)).take (sv l).length = l.map (·.1) := List.take_of_length_le (by simp)
        rw [e1, hl1, ← hB0]
        rfl
      rw [e5] at hbk2 hlg
      refine exNil ⟨rfl, _, (L' + 1 + 1, o2') :: (L' + 1, o1) :: (D, oDD) :: (G, oG) :: (bl2 ++ news'), h6, tk6, rfl, F6, fun p hp => N7 p (sb_m3 hp), ?_, (fun q hq => nomatch hq), ⟨G, oG, o2', v0', lg, bl2, rfl, ?_, dc2', lG, hrf2, hbk2, hlg, updEq⟩, mf2.upd (by decide) (by decide) (by decide) (by decide)⟩
      · exact (nd_out nd2).2
      · exact (nd_out nd2).1
  · rintro m1 led1 h1 tk1 ⟨⟨T, oT, o2, v0, l, bl1, rfl, nd1, dc2, lT, hrf, hbk1, hl1, hmT⟩, mf1⟩ - F1 N1
    refine exRet (evName F1 mf1.mails rfl) fun v tk2 hv => ?_
    subst hv
    refine Lv.mk' F1 N1 fun F3 N3 => h D c bl1 h1 tk2 hbk1 F3 fun p hp => ?_
    rw [hrf, hoD] at hp
    exact N3 p (sb_m4 (hnw p).mpr hp)
end
end Mine
end

-- Nr
section
open PySem PySem.W PyProof.Rows PySem.Calls PySem.Builtin PySem.Builtin.Str
set_option Elab.async false
set_option maxRecDepth 100000
set_option linter.all false
namespace Mine
section
variable {w : World} {A : Around} {g h : Heap} {L : Addr} {m : Mp} {s : Shared} {news : Led} {Q : Value → Shared → Prop} {cn : Str} {cs : Scope} {a : Addr} {ccd : Value} {cl clo : List (Str × Addr)} {scope : Scope} {C : Addr} {x : Str} {pos : Pos} {v : Value} {P : Value → Prop} {env : Env}
/-- names of the top's and of the built-ins within a comprehension -/
theorem evGlobC (H : Here w A env g L) (F : Fr g L h m) (hv : nsIn (KK w) mainGlobals x = some (some v)) (hP : P v)
    (hk : scope.kind = .function := by rfl) (hx : (compEnvC scope clo C (envX cn cs L a ccd cl)).kindOf x = some .globalImplicit := by rfl) (hd : (x == ("__debug__" : Str)) = false := by decide) :
    Ev w A (compEnvC scope clo C (envX cn cs L a ccd cl)) h (.Name x pos) P := ⟨fun s Q E e k => by
  subst e
  obtain ⟨p, loose, mean, mg, mb, T⟩ := H.T
  exact Name_function_global (env := compEnvC scope clo C (envX cn cs L a ccd cl)) hk hx (loadGlobal_global (env := compEnvC scope clo C (envX cn cs L a ccd cl)) ((topRead_of T).g.keeps F.keep) (mg_of H.X (topRead_of T).g hv) (k v s.toks hP)) hd⟩
theorem evBootC (H : Here w A env g L) (F : Fr g L h m) (hv : nsIn (KK w) mainGlobals x = some none) (hb : bootBuiltins x = some v) (hP : P v) (hn : x ≠ "__name__" := by decide)
    (hk : scope.kind = .function := by rfl) (hx : (compEnvC scope clo C (envX cn cs L a ccd cl)).kindOf x = some .globalImplicit := by rfl) (hd : (x == ("__debug__" : Str)) = false := by decide) :
    Ev w A (compEnvC scope clo C (envX cn cs L a ccd cl)) h (.Name x pos) P := ⟨fun s Q E e k => by
  subst e
  obtain ⟨p, loose, mean, mg, mb, T⟩ := H.T
  exact Name_function_global (env := compEnvC scope clo C (envX cn cs L a ccd cl)) hk hx (loadGlobal_builtin (env := compEnvC scope clo C (envX cn cs L a ccd cl)) ((topRead_of T).g.keeps F.keep) (mg_none_of H.X (topRead_of T).g hv) ((topRead_of T).b.keeps F.keep) (((topRead_of T).builtins x hn).trans hb) (k v s.toks hP)) hd⟩
theorem callBootC {fn : Str} {id : String} {arg : Expr} {args : List Expr} {Ps : List (Value → Prop)} {p pos : Pos} (H : Here w A env g L) (F : Fr g L s.heap m)
    (hv : nsIn (KK w) mainGlobals fn = some none) (hb : bootBuiltins fn = some (.builtin id)) (evs : Evs w A (compEnvC scope clo C (envX cn cs L a ccd cl)) s.heap (arg :: args) Ps)
    (h : ∀ vs tk, AllV vs Ps → Go w A (call (.builtin id) vs) Q { s with toks := tk })
    (hn : fn ≠ "__name__" := by decide)
    (he : eval (.Call (.Name fn p) (arg :: args) [] pos) (compEnvC scope clo C (envX cn cs L a ccd cl)) = (do callWith pos (← eval (.Name fn p) (compEnvC scope clo C (envX cn cs L a ccd cl))) [] (backTo pos (starEach (arg :: args) (compEnvC scope clo C (envX cn cs L a ccd cl)))) (backToKw pos (keywordEach [] (compEnvC scope clo C (envX cn cs L a ccd cl))))) := by rfl)
    (he2 : starEach (arg :: args) (compEnvC scope clo C (envX cn cs L a ccd cl)) = (false, eval arg (compEnvC scope clo C (envX cn cs L a ccd cl))) :: starEach args (compEnvC scope clo C (envX cn cs L a ccd cl)) := by rfl) (hplain : (backTo pos (starEach args (compEnvC scope clo C (envX cn cs L a ccd cl)))).any (·.1) = false := by rfl)
    (hk : scope.kind = .function := by rfl) (hx : (compEnvC scope clo C (envX cn cs L a ccd cl)).kindOf fn = some .globalImplicit := by rfl) (hd : (fn == ("__debug__" : Str)) = false := by decide) :
    Go w A (eval (.Call (.Name fn p) (arg :: args) [] pos) (compEnvC scope clo C (envX cn cs L a ccd cl))) Q s :=
  ⟨Call_ ((evBootC H F hv hb (P := IsV (.builtin id)) rfl hn hk hx hd).run s _ _ rfl fun v tk hp => by
    subst hp
    exact PyProof.Rows.callWith_builtin1 (evArgs (s := { s with toks := tk }) evs fun vs tk' hvs => (h vs tk' hvs).run).run he2 hplain) he⟩
theorem callNameC {fn : Str} {f : Addr} {arg : Expr} {args : List Expr} {Ps : List (Value → Prop)} {p pos : Pos} (H : Here w A env g L) (F : Fr g L s.heap m)
    (hv : nsIn (KK w) mainGlobals fn = some (some (.ref f))) (hkeep : keepIn (KK w) (.ref f) = true) (evs : Evs w A (compEnvC scope clo C (envX cn cs L a ccd cl)) s.heap (arg :: args) Ps)
    (h : ∀ vs tk, AllV vs Ps → Go w A (call (.ref f) vs) Q { s with toks := tk })
    (he : eval (.Call (.Name fn p) (arg :: args) [] pos) (compEnvC scope clo C (envX cn cs L a ccd cl)) = (do callWith pos (← eval (.Name fn p) (compEnvC scope clo C (envX cn cs L a ccd cl))) [] (backTo pos (starEach (arg :: args) (compEnvC scope clo C (envX cn cs L a ccd cl)))) (backToKw pos (keywordEach [] (compEnvC scope clo C (envX cn cs L a ccd cl))))) := by rfl)
    (he2 : starEach (arg :: args) (compEnvC scope clo C (envX cn cs L a ccd cl)) = (false, eval arg (compEnvC scope clo C (envX cn cs L a ccd cl))) :: starEach args (compEnvC scope clo C (envX cn cs L a ccd cl)) := by rfl) (hplain : (backTo pos (starEach args (compEnvC scope clo C (envX cn cs L a ccd cl)))).any (·.1) = false := by rfl)
    (hk : scope.kind = .function := by rfl) (hx : (compEnvC scope clo C (envX cn cs L a ccd cl)).kindOf fn = some .globalImplicit := by rfl) (hd : (fn == ("__debug__" : Str)) = false := by decide) :
    Go w A (eval (.Call (.Name fn p) (arg :: args) [] pos) (compEnvC scope clo C (envX cn cs L a ccd cl))) Q s :=
  ⟨Call_ ((evGlobC H F hv (P := IsV (.ref f)) rfl hk hx hd).run s _ _ rfl fun v tk hp => by
    subst hp
    exact callWith_K H.X hkeep (evArgs (s := { s with toks := tk }) evs fun vs tk' hvs => ⟨H.X.keeps F.keep, (h vs tk' hvs).run⟩).run he2 hplain) he⟩
end

theorem ints_all : ∀ {is : List Int} {vs : List Value}, AllV vs (is.map IsI) → IntsAre vs is
  | [], [], _ => .nil
  | i :: is, v :: vs, h => by
    obtain ⟨⟨t, rfl⟩, h2⟩ := h
    exact .cons i t (ints_all h2)
  | [], _ :: _, h => h.elim
  | _ :: _, [], h => h.elim
section
variable {w : World} {A : Around} {g : Heap} {L : Addr} {m : Mp} {s : Shared} {news : Led} {Q : Value → Shared → Prop} {env : Env}
/-- a list display of ints -/
theorem goListI {es : List Expr} {is : List Int} {lp : Pos} (F : Fr g L s.heap m) (N : News g L s.heap news) (evs : Evs w A env s.heap es (is.map IsI)) (hn : is.length ≤ 100)
    (h : ∀ D ws h' tk, Fr g L h' m → News g L h' ((D, listOf ws.toArray 0) :: news) → (∀ p ∈ news, p.1 < D) → IntsAre ws is → Q (.ref D) { s with heap := h', toks := tk }) :
    Go w A (eval (.List es lp) env) Q s := by
  refine ⟨List_ (evArgs evs fun vs tk hv => ?_).run⟩
  have hi := ints_all hv
  refine newList_N (s := { s with toks := tk }) F N (fun h' F' N' => h _ vs h' tk F' N' (fun p hp => Heap.lt_size (N p hp).1) hi) ?_
  rw [← hi.length] at hn
  exact Nat.le_trans hn (by decide)
/-- (e1, e2, ..)[i] -/
theorem goTupItem {es : List Expr} {k : Nat} {tp pos : Pos} {idx : Expr}
    (h : Go w A (spliced (backTo tp (starEach es env))) (fun vs s1 => ∃ m' news' j v, Fr g L s1.heap m' ∧ News g L s1.heap news' ∧ vs.length ≤ 100 ∧ (0 : Int) ≤ j ∧ vs[j.toNat]? = some v ∧
      (∀ h', Fr g L h' m' → News g L h' news' → Grow s1.heap h' → EvI w A env h' idx j) ∧ ∀ h' tk, Fr g L h' m' → News g L h' news' → Grow s1.heap h' → Q v { s1 with heap := h', toks := tk }) s)
    (hs : ∀ t u i, subscripted idx false (.ref t) (.int i u) = operate [.ref t, .int i u] (getItem (.ref t) (.int i u)) := by intro _ _ _; with_unfolding_all rfl) :
    Go w A (eval (.Subscript (.Tuple es k tp) idx pos) env) Q s := by
  refine ⟨Subscript_ (Tuple_ (wpAny_mono h.run (fun vs s1 z => ?_) fun _ _ z => z))⟩
  obtain ⟨m', news', j, v, F, N, hl, h0, hv, ev, kk⟩ := z
  have hlt : j.toNat < vs.length := by
    rcases Nat.lt_or_ge j.toNat vs.length with hlt | hge
    · exact hlt
    · rw [List.getElem?_eq_none hge] at hv; cases hv
  refine wpAny_newObj_type (?_) (by show vs.toArray.size ≤ sizeLine; rw [List.size_toArray]; exact Nat.le_trans hl (by decide))
  have hg : Grow s1.heap (s1.heap.push { cls := .type "tuple", data := .seq vs.toArray }) := fun _ _ e => Heap.get?_push_of_some _ e
  refine (ev _ (F.push _) (N.grown hg) hg).run _ _ _ rfl fun v1 tk1 hp => ?_
  obtain ⟨t1, rfl⟩ := hp
  refine item_tupleT (l := vs) (j := j.toNat) ⟨_, Heap.get?_push_size _ rfl, rfl, _, rfl⟩ (by omega) (by omega) ?_ hv (kk _ _ (F.push _) (N.grown hg) hg) (hs _ _ _)
  unfold seqIndex?
  simp
  omega
/-- l[e:], l a list -/
theorem goSliceLo {value lo : Expr} {sp pos : Pos}
    (h : Go w A (eval value env) (fun o s1 => Go w A (eval lo env) (fun v s2 => ∃ l items m' news' j t, o = .ref l ∧ v = .int j t ∧ Fr g L s2.heap m' ∧ News g L s2.heap news' ∧ s2.heap.IsList l items ∧ items.size ≤ sizeLine ∧
      ∀ D h' tk, Fr g L h' m' → News g L h' ((D, listOf (slicePick items (some j) none none) 0) :: news') → (∀ p ∈ news', p.1 < D) → Q (.ref D) { s2 with heap := h', toks := tk }) s1) s)
    (hs : ∀ l i, ∃ ops, subscripted (.Slice (some lo) none none sp) false (.ref l) (.ref i) = operate ops (getItem (.ref l) (.ref i)) := by intro _ _; with_unfolding_all exact ⟨_, rfl⟩) :
    Go w A (eval (.Subscript value (.Slice (some lo) none none sp) pos) env) Q s := by
  refine ⟨Subscript_ (wpAny_mono h.run (fun o s1 z => ?_) fun _ _ z => z)⟩
  refine wpAny_Slice (evalPart_some_step (wpAny_mono z.run (fun v s2 z => ?_) fun _ _ z => z))
  refine evalPart_none_step (evalPart_none_step ?_)
  obtain ⟨l, items, m', news', j, t, rfl, rfl, F, N, hl, hsz, k⟩ := z
  obtain ⟨ops, hs'⟩ := hs l s2.heap.objs.size
  refine tail_any (T := "list") (ops := ops) (Heap.IsList.typeIs (s := { s2 with heap := s2.heap.push { cls := .type "slice", data := .fields #[.int j t, .none, .none] } }) (hl.push _)) list_getitem_lookup
    (wpAny_getItem_list_slice (hl.push _) (Heap.IsSliceOf.new ..) (.int j t) .none .none (by decide) ?_ hsz) hs'
  have N1 := News.push (F.push { cls := .type "slice", data := .fields #[.int j t, .none, .none] }) (N.grown fun _ _ e => Heap.get?_push_of_some _ e) { cls := .type "list", data := .seq (slicePick items (some j) none none) }
  exact k _ _ _ ((F.push _).push _) N1 fun p hp => Nat.lt_of_lt_of_le (Heap.lt_size (N p hp).1) (by show _ ≤ (s2.heap.push _).objs.size; rw [Heap.size_push]; exact Nat.le_succ _)
/-- list(text) -/
theorem goListStr {cs : List Nat} {t : Tok} (hh : A.handled = none) (F : Fr g L s.heap m) (N : News g L s.heap news) (hn : cs.length ≤ 100000)
    (h : ∀ D l c h' tk, l.map (·.1) = cs.map (fun c => [c]) → Fr g L h' m → News g L h' ((D, listOf (sv l).toArray c) :: news) → (∀ p ∈ news, p.1 < D) → Q (.ref D) { s with heap := h', toks := tk }) : Go w A (call (.type "list") [.str ⟨cs.toArray⟩ t]) Q s := by
  refine ⟨call_list_str hh _ t (fun h' tk acc' c' hk hS hacc => ?_) (by rw [List.size_toArray]; exact Nat.le_trans hn (by decide))⟩
  have hex : ∃ l : List (List Nat × Tok), acc'.toList = sv l ∧ l.map (·.1) = cs.map (fun c => [c]) := by
    obtain ⟨h1, h2⟩ := hacc
    have h1' : acc'.toList.length = cs.length := by simpa using h1
    have h2' : ∀ (j : Nat) (v : Value), acc'.toList[j]? = some v → ∃ c u, cs[j]? = some c ∧ v = Value.str ⟨#[c]⟩ u := fun j v e => by
      obtain ⟨c, u, e1, e2⟩ := h2 j v (by rw [← Array.getElem?_toList]; exact e)
      exact ⟨c, u, by simpa using e1, e2⟩
    generalize acc'.toList = l at h1' h2'
    clear h1 h2 hS h
    induction l generalizing cs with
    | nil => exact ⟨[], rfl, by rw [List.length_eq_zero_iff.mp h1'.symm]; rfl⟩
    | cons v r ih =>
      cases cs with
      | nil => simp at h1'
      | cons c cr =>
        obtain ⟨l, e1, e2⟩ := ih (cs := cr) (by simp at hn; omega) (by simpa using h1') fun j v e => h2' (j + 1) v (by simpa using e)
        obtain ⟨c', u, e3, e4⟩ := h2' 0 v rfl
        have : c = c' := by simpa using e3
        subst this
        exact ⟨([c], u) :: l, by rw [e1, e4]; rfl, by rw [List.map_cons, e2]; rfl⟩
  obtain ⟨l, e1, e2⟩ := hex
  have hb := Heap.get?_push_size
  have hnone : g.get? s.heap.objs.size = none := by
    cases e : g.get? s.heap.objs.size with
    | none => rfl
    | some o => exact absurd (Heap.lt_size (F.keep _ _ e)) (Nat.lt_irrefl _)
  refine h _ l c' h' tk e2 (F.keeps hk) (fun p hp => ?_) fun p hp => Heap.lt_size (N p hp).1
  rcases List.mem_cons.mp hp with rfl | hp
  · refine ⟨?_, Nat.ne_of_gt F.ns.lt, hnone⟩
    have e : acc' = (sv l).toArray := by rw [← e1, Array.toArray_toList]
    rw [← e]
    exact hS
  · exact (N.grown hk) p hp
end
end Mine
end

-- Nt
section
open PySem PySem.W PyProof.Rows PySem.Calls PySem.Builtin PySem.Builtin.Str
set_option Elab.async false
set_option maxRecDepth 100000
set_option linter.all false
namespace Mine
theorem slTo (cs : List Nat) (k : Nat) : Txt.slice ⟨cs.toArray⟩ none (some (k : Int)) = ⟨(cs.take k).toArray⟩ := by
  have hl : (⟨cs.toArray⟩ : Str).length = cs.length := by show cs.toArray.size = _; simp
  have h := eq_of_beq (slice_to_min_closes (x := ⟨cs.toArray⟩) (n := (k : Int)) (by omega) rfl)
  rw [h, hl]
  congr 2
  show (List.drop 0 cs).take _ = _
  rw [List.drop_zero]
  split
  · rw [List.take_of_length_le (by omega), List.take_of_length_le (by omega)]
  · congr 1
theorem slLast (cs : List Nat) : Txt.slice ⟨cs.toArray⟩ (some (-1)) none = ⟨(cs.drop (cs.length - 1)).toArray⟩ := by
  have hl : (⟨cs.toArray⟩ : Str).length = cs.length := by show cs.toArray.size = _; simp
  rw [slice_from_neg (by omega), hl]
  have e : max (0 : Int) ((cs.length : Int) + -1) = ((cs.length - 1 : Nat) : Int) := by omega
  rw [e, slFrom]
section
variable {w : World} {A : Around} {env : Env} {g : Heap} {L : Addr} {m : Mp} {s : Shared} {news : Led} {Q : Value → Shared → Prop}
theorem goMulS {a : List Nat} {k : Nat} {t u : Tok} (ha : a.length ≤ 1000) (hk : k = 1 ∨ k = 2 ∨ k = 3) (h : ∀ b t' tk, b.length ≤ 3 * a.length → Q (.str ⟨List.toArray b⟩ t') { s with toks := tk }) : Go w A (binaryOp .Mult (.str ⟨a.toArray⟩ t) (.int (k : Int) u)) Q s := by
  have hl : (⟨a.toArray⟩ : Str).length = a.length := by show a.toArray.size = _; simp
  refine ⟨P.mul_str ?_ ?_ ?_ ?_⟩
  · rcases hk with rfl | rfl | rfl <;> decide
  · intro _ _
    rw [hl]
    have e : (2 ^ 63 - 1 : Int) / (k : Int) ≥ 1000 := by rcases hk with rfl | rfl | rfl <;> decide
    omega
  · intro _ _
    rw [hl]
    show tooLong _ = false
    unfold tooLong
    have : a.length * ((k : Int)).toNat ≤ 3000 := by
      have : ((k : Int)).toNat ≤ 3 := by omega
      exact Nat.mul_le_mul ha this
    simp only [decide_eq_false_iff_not]
    have e : sizeLine = 1073741824 ∨ 3000 < sizeLine := .inr (by decide)
    rcases e with e | e <;> omega
  · have hneg : ¬ ((k : Int) < 1) := by omega
    rw [if_neg hneg]
    split
    · exact h a t s.toks (by omega)
    · have hfold : ∀ n : Nat, (List.replicate n a.toArray).foldl (· ++ ·) #[] = ((List.replicate n a).flatten).toArray := by
        intro n
        have gen : ∀ (n : Nat) (acc : Array Nat), (List.replicate n a.toArray).foldl (· ++ ·) acc = acc ++ ((List.replicate n a).flatten).toArray := by
          intro n
          induction n with
          | zero => intro acc; simp
          | succ n ih =>
            intro acc
            rw [List.replicate_succ, List.foldl_cons, ih, List.replicate_succ, List.flatten_cons]
            simp
        rw [gen]; simp
      show Made.post (Made.str ⟨_⟩) Q s
      rw [Int.toNat_natCast, hfold]
      have hlen : ((List.replicate k a).flatten).length ≤ 3 * a.length := by
        rw [List.length_flatten, List.map_replicate, List.sum_replicate_nat]
        rcases hk with rfl | rfl | rfl <;> omega
      refine ⟨?_, h _ _ _ hlen⟩
      show ((List.replicate k a).flatten).toArray.size ≤ sizeLine
      rw [List.size_toArray]
      exact Nat.le_trans hlen (Nat.le_trans (Nat.mul_le_mul_left _ ha) (by decide))
/-- l op r as a value -/
theorem goCmp {l r : Expr} {op : CmpOp} {pos : Pos} (h : Go w A (eval l env) (fun u s1 => Go w A (eval r env) (fun v s2 => Go w A (compareOp op u v) Q s2) s1) s)
    (hm : behindInMarks op r = false := by with_unfolding_all rfl) : Go w A (eval (.Compare l [op] [r] pos) env) Q s :=
  ⟨wpAny_Compare1 (wpAny_mono h.run (fun u s1 h1 => wpAny_mono h1.run (fun v s2 h2 => h2.run) fun _ _ z => z) fun _ _ z => z) hm⟩
end
section
variable {w : World} {A : Around} {env : Env} {s : Shared} {Q : Flow → Shared → Prop} {rest : List Stmt}
/-- an if on any comparison whose ways meet -/
theorem exIfCmpJ {l r : Expr} {op : CmpOp} {body orelse : List Stmt} {pos pos' : Pos} {J : Shared → Prop}
    (h : Go w A (eval l env) (fun u s1 => Go w A (eval r env) (fun v s2 => Go w A (compareOp op u v) (fun b s3 => ∃ c, b = .bool c ∧ (c = true → Go w A (execs body env) (fun f s' => f = .next ∧ J s') s3) ∧ (c = false → Go w A (execs orelse env) (fun f s' => f = .next ∧ J s') s3)) s2) s1) s)
    (h3 : ∀ s', J s' → Go w A (execs rest env) Q s')
    (hm : behindInMarks op r = false := by with_unfolding_all rfl) : Go w A (execs (.If (.Compare l [op] [r] pos) body orelse pos' :: rest) env) Q s := by
  refine exIfCmp (go_mono h fun u s1 h1 => go_mono h1 fun v s2 h2 => go_mono h2 fun b s3 h4 => ?_) hm
  obtain ⟨c, rfl, ha, hb⟩ := h4
  exact ⟨c, rfl, fun e => go_mono (ha e) fun f s' x => by obtain ⟨rfl, hj⟩ := x; exact h3 s' hj, fun e => go_mono (hb e) fun f s' x => by obtain ⟨rfl, hj⟩ := x; exact h3 s' hj⟩
end
theorem joinL_len : ∀ (l : List (List Nat)), (∀ p ∈ l, p.length = 1) → (joinL [] l).length = l.length
  | [], _ => rfl
  | [p], h => by show p.length = 1; exact h p (.head _)
  | p :: q :: r, h => by
    have ih := joinL_len (q :: r) fun x hx => h x (.tail _ hx)
    show (p ++ [] ++ joinL [] (q :: r)).length = _
    rw [List.append_nil, List.length_append, ih, h p (.head _)]
    simp only [List.length_cons]; omega
theorem join_ones (l : List (List Nat × Tok)) (h : ∀ p ∈ l, p.1.length = 1) : ∃ cs : List Nat, cs.length = l.length ∧ Txt.join ⟨#[]⟩ (l.map fun p => (⟨p.1.toArray⟩ : Str)) = ⟨cs.toArray⟩ := by
  cases l with
  | nil => exact ⟨[], rfl, rfl⟩
  | cons a b =>
    refine ⟨joinL [] ((a :: b).map (·.1)), ?_, ?_⟩
    · rw [joinL_len _ (fun p hp => by obtain ⟨q, hq, rfl⟩ := List.mem_map.mp hp; exact h q hq), List.length_map]
    · have e : (Txt.join ⟨#[]⟩ ((a :: b).map fun p => (⟨p.1.toArray⟩ : Str))).cps.toList = joinL [] (((a :: b).map fun p => (⟨p.1.toArray⟩ : Str)).map (·.cps.toList)) := glued_eq _ _ ⟨_, _, rfl⟩
      rw [List.map_map] at e
      apply Str.ext'
      apply Array.toList_inj.mp
      rw [e]
      rfl
theorem aft_snoc : ∀ (l : List Nat) (st c : Nat), aft st (l ++ [c]) = nst c
  | [], st, c => rfl
  | d :: l, st, c => aft_snoc l (nst d) c
theorem aft_tail (l : List Nat) : (l = [] ∧ aft 0 l = 0 ∧ l.drop (l.length - 1) = []) ∨ ∃ c, aft 0 l = nst c ∧ l.drop (l.length - 1) = [c] := by
  rcases List.eq_nil_or_concat l with rfl | ⟨r, c, rfl⟩
  · exact .inl ⟨rfl, rfl, rfl⟩
  · rw [List.concat_eq_append]
    refine .inr ⟨c, aft_snoc r 0 c, ?_⟩
    rw [List.length_append, List.length_singleton, Nat.add_sub_cancel, List.drop_left]
theorem noPy {a b : Int} (h : Builtin.Int.intBits b ≤ 20) : Builtin.divisionGoesByPylong a b = false := by
  refine Bool.and_eq_false_iff.mpr (.inl (decide_eq_false ?_))
  show ¬ ((if (b == 0) = true then 0 else b.natAbs.log2 / 30 + 1) > 300)
  unfold Builtin.Int.intBits at h
  split
  · omega
  · rename_i h0
    rw [if_neg h0] at h
    omega
theorem paired_ints {T : List (List Nat) → Int} {led : Led} (hu : ∀ p ∈ led, ∀ q ∈ led, p.1 = q.1 → p = q) : ∀ {bl : Led} {B : Bk} {ys : List Value}, (∀ p ∈ bl, p ∈ led) → BkL bl B →
    Paired (fun v y => ∃ a o l t, v = .ref a ∧ (a, o) ∈ led ∧ LO (sv l) o ∧ y = .int (T (l.map (·.1))) t) (refs bl) ys → IntsAre ys (B.map T) := by
  intro bl B ys hm hb
  induction hb generalizing ys with
  | nil => intro hp; cases hp; exact .nil
  | cons h0 hr ih =>
    rename_i a0 o0 l0 bl B
    intro hp
    cases hp with
    | cons h1 h2 =>
      obtain ⟨a, o, l, t, e, hmo, hl, rfl⟩ := h1
      have ea : a0 = a := by injection e
      subst ea
      have := hu _ (hm _ (.head _)) _ hmo rfl
      have eo : o0 = o := congrArg Prod.snd this
      subst eo
      have el : l0.map (·.1) = l.map (·.1) := by
        obtain ⟨n0, e0⟩ := h0
        obtain ⟨n1, e1⟩ := hl
        rw [e0] at e1
        have e2 : (sv l0).toArray = (sv l).toArray := by injection e1 with _ _ e2; injection e2
        have e3 : sv l0 = sv l := by simpa using congrArg Array.toList e2
        have := congrArg (List.map fun v : Value => match v with | .str c _ => c.cps.toList | _ => []) e3
        unfold sv at this
        rw [List.map_map, List.map_map] at this
        exact this
      rw [List.map_cons, el]
      exact .cons _ t (ih (fun p hp => hm p (.tail _ hp)) h2)
theorem led_uniq {g h : Heap} {L : Addr} {led : Led} (N : News g L h led) : ∀ p ∈ led, ∀ q ∈ led, p.1 = q.1 → p = q := fun p hp q hq e => by
  have h1 := (N p hp).1
  have h2 := (N q hq).1
  rw [e, h2] at h1
  exact Prod.ext e (Option.some.inj h1).symm
theorem paired_ones : ∀ {vs ys : List Value}, Paired (fun _ y => ∃ c t, y = .str ⟨#[c]⟩ t) vs ys → ∃ l : List (List Nat × Tok), ys = sv l ∧ l.length = vs.length ∧ ∀ p ∈ l, p.1.length = 1
  | _, _, .nil => ⟨[], rfl, rfl, fun _ h => nomatch h⟩
  | _, _, .cons h hr => by
    obtain ⟨l, rfl, e, h1⟩ := paired_ones hr
    obtain ⟨c, t, rfl⟩ := h
    refine ⟨([c], t) :: l, rfl, by simp [e], fun p hp => ?_⟩
    rcases List.mem_cons.mp hp with rfl | hp
    · rfl
    · exact h1 p hp
end Mine
end

-- Nu
section
open PySem PySem.W PyProof.Rows PySem.Calls PySem.Builtin PySem.Builtin.Str
set_option Elab.async false
set_option maxRecDepth 100000
set_option linter.all false
namespace Mine
section
variable {w : World} {A : Around} {g : Heap} {L : Addr} {m : Mp} {s : Shared} {news : Led} {Q : Value → Shared → Prop} {cn : Str} {cs : Scope} {a : Addr} {ccd : Value} {cl clo : List (Str × Addr)} {env : Env} {scope : Scope} {C : Addr}
/-- (list, list)[times - 1] -/
theorem goPick2 {es1 es2 : List Expr} {is1 is2 : List Int} {k k0 : Nat} {lp1 lp2 tp pos : Pos} {idx : Expr} (F : Fr g L s.heap m) (N : News g L s.heap news) (hk : k = 1 ∨ k = 2)
    (evs1 : ∀ h, Fr g L h m → Evs w A env h es1 (is1.map IsI)) (evs2 : ∀ h, Fr g L h m → Evs w A env h es2 (is2.map IsI)) (ev : ∀ h, Fr g L h m → EvI w A env h idx ((k : Int) - 1)) (hn1 : is1.length ≤ 100) (hn2 : is2.length ≤ 100)
    (h : ∀ D ws h' tk, Fr g L h' m → News g L h' ((D, listOf ws.toArray 0) :: news) → IntsAre ws (if k = 1 then is1 else is2) → Q (.ref D) { s with heap := h', toks := tk })
    (he1 : starEach [.List es1 lp1, .List es2 lp2] env = (false, eval (.List es1 lp1) env) :: starEach [.List es2 lp2] env := by rfl) (he2 : starEach [.List es2 lp2] env = (false, eval (.List es2 lp2) env) :: starEach [] env := by rfl)
    (hs : ∀ t u i, subscripted idx false (.ref t) (.int i u) = operate [.ref t, .int i u] (getItem (.ref t) (.int i u)) := by intro _ _ _; with_unfolding_all rfl) :
    Go w A (eval (.Subscript (.Tuple [.List es1 lp1, .List es2 lp2] k0 tp) idx pos) env) Q s := by
  refine goTupItem (g := g) (L := L) ⟨args_cons (goListI F N (evs1 _ F) hn1 fun D1 ws1 h1 tk1 F1 N1 lt1 hI1 => ?_).run he1⟩ hs
  refine args_cons (goListI (s := { s with heap := h1, toks := tk1 }) F1 N1 (evs2 _ F1) hn2 fun D2 ws2 h2 tk2 F2 N2 lt2 hI2 => args_nil ?_).run he2
  rcases hk with rfl | rfl
  · refine ⟨m, _, _, .ref D1, F2, N2, by show 2 ≤ 100; decide, by decide, rfl, fun h' F' _ _ => ev h' F', fun h' tk F' N' _ => ?_⟩
    rw [if_pos rfl] at h
    exact h D1 ws1 h' tk F' (fun p hp => N' p (.tail _ hp)) hI1
  · refine ⟨m, _, _, .ref D2, F2, N2, by show 2 ≤ 100; decide, by decide, rfl, fun h' F' _ _ => ev h' F', fun h' tk F' N' _ => ?_⟩
    rw [if_neg (by decide)] at h
    refine h D2 ws2 h' tk F' (fun p hp => ?_) hI2
    rcases List.mem_cons.mp hp with rfl | hp
    · exact N' _ (.head _)
    · exact N' p (.tail _ (.tail _ hp))
/-- a call of a built-in class, its argument made on the way -/
theorem callBootTE {fn : Str} {T : String} {arg : Expr} {p pos : Pos} (H : Here w A env g L) (F : Fr g L s.heap m)
    (hv : nsIn (KK w) mainGlobals fn = some none) (hb : bootBuiltins fn = some (.type T))
    (h : ∀ tk, Go w A (eval arg (envX cn cs L a ccd cl)) (fun v s1 => Go w A (call (.type T) [v]) Q s1) { s with toks := tk })
    (hn : fn ≠ "__name__" := by decide)
    (he : eval (.Call (.Name fn p) [arg] [] pos) (envX cn cs L a ccd cl) = (do callWith pos (← eval (.Name fn p) (envX cn cs L a ccd cl)) [] (backTo pos (starEach [arg] (envX cn cs L a ccd cl))) (backToKw pos (keywordEach [] (envX cn cs L a ccd cl)))) := by rfl)
    (he2 : starEach [arg] (envX cn cs L a ccd cl) = (false, eval arg (envX cn cs L a ccd cl)) :: starEach [] (envX cn cs L a ccd cl) := by rfl) (hplain : (backTo pos (starEach [] (envX cn cs L a ccd cl))).any (·.1) = false := by rfl)
    (hk : cs.kind = .function := by rfl) (hx : (envX cn cs L a ccd cl).kindOf fn = some .globalImplicit := by rfl) (hd : (fn == ("__debug__" : Str)) = false := by decide) :
    Go w A (eval (.Call (.Name fn p) [arg] [] pos) (envX cn cs L a ccd cl)) Q s :=
  ⟨Call_ ((evBoot H F hv hb (P := IsV (.type T)) rfl hn hk hx hd).run s _ _ rfl fun v tk hp => by
    subst hp
    exact callWith_type1 (args_cons (wpAny_mono (h tk).run (fun v s1 z => args_nil z.run) fun _ _ z => z) he2) he2 hplain) he⟩
theorem evCast {h : Heap} {e : Expr} {i j : Int} (ev : EvI w A env h e i) (hij : i = j) : EvI w A env h e j := by subst hij; exact ev
theorem goListE {es : List Expr} {lp : Pos} {Ps : List (Value → Prop)} (evs : Evs w A env s.heap es Ps) (h : ∀ vs tk, AllV vs Ps → Go w A (newList vs) Q { s with toks := tk }) : Go w A (eval (.List es lp) env) Q s :=
  ⟨List_ (evArgs evs fun vs tk hv => (h vs tk hv).run).run⟩
theorem goTupE {es : List Expr} {k : Nat} {tp : Pos} {Ps : List (Value → Prop)} (evs : Evs w A env s.heap es Ps) (h : ∀ vs tk, AllV vs Ps → Go w A (newTuple vs) Q { s with toks := tk }) : Go w A (eval (.Tuple es k tp) env) Q s :=
  ⟨Tuple_ (evArgs evs fun vs tk hv => (h vs tk hv).run).run⟩
/-- chr(e) -/
abbrev IsC (v : Value) : Prop := ∃ c t, v = .str ⟨#[c]⟩ t
theorem evChrC {h : Heap} {e : Expr} {i : Int} {p pos : Pos} (H : Here w A env g L) (F : Fr g L h m) (h0 : 0 ≤ i) (h1 : i ≤ 1114111) (ev : EvI w A (compEnvC scope clo C (envX cn cs L a ccd cl)) h e i)
    (he : eval (.Call (.Name (Str.ofString "chr") p) [e] [] pos) (compEnvC scope clo C (envX cn cs L a ccd cl)) = (do callWith pos (← eval (.Name (Str.ofString "chr") p) (compEnvC scope clo C (envX cn cs L a ccd cl))) [] (backTo pos (starEach [e] (compEnvC scope clo C (envX cn cs L a ccd cl)))) (backToKw pos (keywordEach [] (compEnvC scope clo C (envX cn cs L a ccd cl))))) := by rfl)
    (he2 : starEach [e] (compEnvC scope clo C (envX cn cs L a ccd cl)) = (false, eval e (compEnvC scope clo C (envX cn cs L a ccd cl))) :: starEach [] (compEnvC scope clo C (envX cn cs L a ccd cl)) := by rfl)
    (hk : scope.kind = .function := by rfl) (hx : (compEnvC scope clo C (envX cn cs L a ccd cl)).kindOf (Str.ofString "chr") = some .globalImplicit := by rfl) :
    Ev w A (compEnvC scope clo C (envX cn cs L a ccd cl)) h (.Call (.Name (Str.ofString "chr") p) [e] [] pos) IsC := ⟨fun s Q E e0 k => by
  subst e0
  refine Call_ ((evBootC H F rfl boot_chr (P := IsV (.builtin "chr")) rfl (hk := hk) (hx := hx)).run s _ _ rfl fun v tk hp => ?_) he
  subst hp
  refine PyProof.Rows.callWith_builtin1 (args_cons (ev.run { s with toks := tk } _ _ rfl fun u tk2 hu => args_nil ?_) he2) he2 rfl
  obtain ⟨t, rfl⟩ := hu
  exact chr_of_range h0 h1 (k _ _ ⟨_, _, rfl⟩)⟩
end
theorem allV5 {vs : List Value} {P1 P2 P3 P4 P5 : Value → Prop} (h : AllV vs [P1, P2, P3, P4, P5]) : ∃ v1 v2 v3 v4 v5, vs = [v1, v2, v3, v4, v5] ∧ P1 v1 ∧ P2 v2 ∧ P3 v3 ∧ P4 v4 ∧ P5 v5 := by
  match vs, h with
  | [v1, v2, v3, v4, v5], ⟨a, b, c, d, e, _⟩ => exact ⟨v1, v2, v3, v4, v5, rfl, a, b, c, d, e⟩
theorem ints_at : ∀ {vs : List Value} {ns : List Int}, IntsAre vs ns → ∀ {i : Nat} {v : Value}, vs[i]? = some v → ∃ n t, v = .int n t
  | _, _, .nil, i, v, h => by simp at h
  | _, _, .cons n t hr, 0, v, h => ⟨n, t, by simpa using h.symm⟩
  | _, _, .cons n t hr, i + 1, v, h => ints_at hr (i := i) (by simpa using h)
theorem five {l : List Int} (h : l.length = 5) : ∃ d0 d1 d2 d3 d4, l = [d0, d1, d2, d3, d4] := by
  match l, h with
  | [d0, d1, d2, d3, d4], _ => exact ⟨d0, d1, d2, d3, d4, rfl⟩
theorem ints5 {vs : List Value} {d0 d1 d2 d3 d4 : Int} (h : IntsAre vs [d0, d1, d2, d3, d4]) : ∃ t0 t1 t2 t3 t4, vs = [.int d0 t0, .int d1 t1, .int d2 t2, .int d3 t3, .int d4 t4] := by
  cases h with | cons _ t0 h => cases h with | cons _ t1 h => cases h with | cons _ t2 h => cases h with | cons _ t3 h => cases h with | cons _ t4 h => cases h; exact ⟨t0, t1, t2, t3, t4, rfl⟩
/-- the five draws -/
theorem draws_five (ns : List Int) : ((ns.drop 5).take (min 10 ns.length - 5) ++ [1, 0, 1384, 1, 0].drop (if (0 : Int) > (ns.length : Int) - 5 then (0 : Int) else (ns.length : Int) - 5).toNat : List Int).length = 5 := by
  rw [List.length_append, List.length_take, List.length_drop, List.length_drop]
  show _ + (5 - _) = 5
  split <;> omega
theorem mod3 (d : Int) : ∃ p : Nat, d.fmod 3 = (p : Int) ∧ p < 3 := ⟨(d.fmod 3).toNat, by have := Int.fmod_nonneg_of_pos d (b := 3) (by decide); omega, by have := Int.fmod_lt_of_pos d (b := 3) (by decide); have := Int.fmod_nonneg_of_pos d (b := 3) (by decide); omega⟩
theorem modN (d : Int) (n : Nat) (hn : 0 < n) : ∃ p : Nat, d.fmod (n : Int) = (p : Int) ∧ p < n := ⟨(d.fmod n).toNat, by have := Int.fmod_nonneg_of_pos d (b := (n : Int)) (by omega); omega, by have := Int.fmod_lt_of_pos d (b := (n : Int)) (by omega); have := Int.fmod_nonneg_of_pos d (b := (n : Int)) (by omega); omega⟩
/-- the number high -/
theorem high_bits {X : Int} {n e : Nat} (he : e < 2) : Builtin.Int.intBits (((e : Int) * 2 - 1) * X.fmod (2 ^ n)) ≤ n := by
  have hp := pow_pos' n
  have h0 := Int.fmod_nonneg_of_pos X hp
  have h1 := Int.fmod_lt_of_pos X hp
  have hb := bits_of h0 h1
  have : ((e : Int) * 2 - 1) = 1 ∨ ((e : Int) * 2 - 1) = -1 := by omega
  rw [bits_sg this]
  exact hb
/-- what a frame's map has -/
def Has (m : Mp) : List Str → List Value → Prop
  | [], [] => True
  | x :: xs, v :: vs => m x = some v ∧ Has m xs vs
  | _, _ => False
theorem Has.keep {m : Mp} {x : Str} {v : Value} : ∀ {xs : List Str} {vs : List Value}, Has m xs vs → (∀ y ∈ xs, y ≠ x) → Has (Mine.upd m x v) xs vs
  | [], [], _, _ => trivial
  | y :: xs, _ :: vs, ⟨h1, h2⟩, hx => ⟨updNe h1 (hx y (.head _)), h2.keep fun z hz => hx z (.tail _ hz)⟩
theorem Has.upd {m : Mp} {x : Str} {v : Value} {xs : List Str} {vs : List Value} (h : Has m xs vs) (hx : (xs.all fun y => decide (y ≠ x)) = true) : Has (Mine.upd m x v) (x :: xs) (v :: vs) :=
  ⟨updEq, h.keep fun y hy => of_decide_eq_true (List.all_eq_true.mp hx y hy)⟩
end Mine
end

-- Nv
section
open PySem PySem.W PyProof.Rows PySem.Calls
set_option Elab.async false
set_option maxRecDepth 100000
set_option linter.all false
namespace Mine
/-- the one side of the law's two equations -/
def Div (n : Nat) (os us : List Int) (bd : Nat) (C : List Int) : Prop :=
  laid n us ≠ 0 ∧ n ≤ Builtin.Int.intBits (laid n us) ∧ 0 ≤ (laid n os * 2 ^ (n * bd)).fdiv (laid n us) ∧
    (digs n (nDigs n ((laid n os * 2 ^ (n * bd)).fdiv (laid n us))) ((laid n os * 2 ^ (n * bd)).fdiv (laid n us))).reverse = C
theorem law_facts {k p pp st : Nat} (hk : k = 1 ∨ k = 2) (hp : p < 3) (hpp : pp < 4) (hst : st < 3) {n : Nat} (hn : 16 ≤ n) {front : List Nat} (hf : aft 0 front = st) :
    Div n (overOf k st) (everyOf k p) (bdOf p) ((mailsL k (ext k 0 front).length (bdOf p) (signsOf pp p) 0 front).map fun l => (l.length : Int)) ∧
    Div n (begunOf k st) (eachOf k p) (bdOf p) ((mailsL k (ext k 0 front).length (bdOf p) (signsOf pp p) 0 front).map fun l => (unl l : Int)) ∧
    ∀ l ∈ mailsL k (ext k 0 front).length (bdOf p) (signsOf pp p) 0 front, l.length ≤ 2000 := by
  have h := cfg_all hk hp hpp hst
  unfold cfg at h
  rw [Bool.and_eq_true, Bool.and_eq_true] at h
  obtain ⟨⟨h1, h2⟩, h3⟩ := h
  have e1 := lens_shift k (bdOf p) (signsOf pp p) front
  have e2 := unls_shift k (bdOf p) (signsOf pp p) front
  rw [hf] at e1 e2
  have e1' : ((mailsL k (ext k 0 front).length (bdOf p) (signsOf pp p) 0 front).map fun l => (l.length : Int)) = (mailsL k 0 (bdOf p) (signsOf pp p) st []).map fun l => (l.length : Int) := by
    have := congrArg (List.map fun x : Nat => (x : Int)) e1
    rw [List.map_map, List.map_map] at this
    exact this
  have e2' : ((mailsL k (ext k 0 front).length (bdOf p) (signsOf pp p) 0 front).map fun l => (unl l : Int)) = (mailsL k 0 (bdOf p) (signsOf pp p) st []).map fun l => (unl l : Int) := by
    have := congrArg (List.map fun x : Nat => (x : Int)) e2
    rw [List.map_map, List.map_map] at this
    exact this
  refine ⟨?_, ?_, fun l hl => ?_⟩
  · rw [e1']; exact chk_spec h1 hn
  · rw [e2']; exact chk_spec h2 hn
  · have hm : l.length ∈ (mailsL k (ext k 0 front).length (bdOf p) (signsOf pp p) 0 front).map List.length := List.mem_map_of_mem hl
    rw [e1] at hm
    obtain ⟨l', hl', e⟩ := List.mem_map.mp hm
    have := of_decide_eq_true (List.all_eq_true.mp h3 l' hl')
    omega
theorem over_bits {k st : Nat} (hk : k = 1 ∨ k = 2) (hst : st < 3) : (∀ c ∈ overOf k st, Builtin.Int.intBits c ≤ 10) ∧ (overOf k st).length ≤ 9 ∧ (∀ c ∈ begunOf k st, Builtin.Int.intBits c ≤ 10) ∧ (begunOf k st).length ≤ 9 := by
  have h : st = 0 ∨ st = 1 ∨ st = 2 := by omega
  rcases hk with rfl | rfl <;> rcases h with rfl | rfl | rfl <;> decide
theorem every_bits {k p : Nat} (hk : k = 1 ∨ k = 2) (hp : p < 3) : (∀ c ∈ everyOf k p, Builtin.Int.intBits c ≤ 10) ∧ (everyOf k p).length ≤ 9 ∧ (∀ c ∈ eachOf k p, Builtin.Int.intBits c ≤ 10) ∧ (eachOf k p).length ≤ 9 := by
  have h : p = 0 ∨ p = 1 ∨ p = 2 := by omega
  rcases hk with rfl | rfl <;> rcases h with rfl | rfl | rfl <;> decide
theorem signs_ones {pp p : Nat} : ∀ x ∈ signsOf pp p, x.length = 1 := fun x hx => by
  unfold signsOf at hx
  rcases List.mem_append.mp hx with h | h
  · obtain ⟨c, _, rfl⟩ := List.mem_map.mp h; rfl
  · simp only [List.mem_cons, List.not_mem_nil, or_false] at h
    rcases h with rfl | rfl | rfl <;> rfl
/-- a ledger of lists alone -/
def Lists (led : Led) : Prop := ∀ p ∈ led, ∃ its n, p.2 = listOf its n
theorem Lists.nil : Lists [] := fun _ h => nomatch h
theorem Lists.cons {a : Addr} {its : Array Value} {n : Nat} {led : Led} (h : Lists led) : Lists ((a, listOf its n) :: led) := fun p hp => by
  rcases List.mem_cons.mp hp with rfl | hp
  · exact ⟨_, _, rfl⟩
  · exact h p hp
theorem Lists.app {a b : Led} (h1 : Lists a) (h2 : Lists b) : Lists (a ++ b) := fun p hp => by
  rcases List.mem_append.mp hp with hp | hp
  · exact h1 p hp
  · exact h2 p hp
theorem BkL.lists {bl : Led} {B : Bk} (h : BkL bl B) : Lists bl := by
  induction h with
  | nil => exact .nil
  | cons h0 hr ih =>
    obtain ⟨n, rfl⟩ := h0
    exact ih.cons
theorem Lists.off {g h : Heap} {L : Addr} {led t1 t2 : Led} (l : Lists led) (T : TT t1 t2) (N : News g L h (t1 ++ (t2 ++ led))) : Off led := fun p hp => by
  refine T.offObj N (fun q hq => List.mem_append_left _ hq) (fun q hq => List.mem_append_right _ (List.mem_append_left _ hq)) (List.mem_append_right _ (List.mem_append_right _ hp)) fun vs e => ?_
  obtain ⟨its, n, e2⟩ := l p hp
  rw [e2] at e
  cases e
theorem BkL.at {bl : Led} {B : Bk} (h : BkL bl B) {i : Nat} {v : Value} (hv : (refs bl)[i]? = some v) : ∃ a o l, v = .ref a ∧ (a, o) ∈ bl ∧ LO (sv l) o ∧ l.map (·.1) ∈ B := by
  have hi : i < B.length := by
    rw [← h.len]
    rcases Nat.lt_or_ge i bl.length with hlt | hge
    · exact hlt
    · rw [List.getElem?_eq_none (by simpa [refs] using hge)] at hv; cases hv
  obtain ⟨a, o, l, e1, e2, e3⟩ := h.get hi
  refine ⟨a, o, l, ?_, List.mem_of_getElem? e1, e2, List.mem_of_getElem? e3⟩
  simp [refs, e1] at hv
  exact hv.symm
end Mine
end

-- La
section
open PySem PySem.W PyProof.Rows PySem.Calls PySem.Builtin PySem.Builtin.Str
set_option Elab.async false
set_option maxRecDepth 100000
set_option linter.all false
namespace Mine
set_option maxHeartbeats 1000000 in
theorem law_go {w : World} {A : Around} {g : Heap} {L f : Addr} {m : Mp} {s : Shared} {cd : Value} {a : Addr} {vs : List Value} {ns : List Int}
    {name qual : Str} {params : Arguments} {body : List Stmt} {scope : Scope} {dV kV doc pm cdv ct oc : Value} {an od : Option Addr} {osl : Array (Option Value)}
    (ho : (KK w).lookup 131 = some ⟨oc, od, .func (fnOf name qual params body scope dV kV doc pm an cdv ct), osl⟩)
    (H : Here w A (envX qual scope L f cd []) g L) (F : Fr g L s.heap m) (hm : m (Str.ofString "script") = some (.ref a)) (N : News g L s.heap [(71, tabObj #[]), (64, tabObj #[])]) (R : Room A 126)
    (hl : g.IsList a vs.toArray) (hI : IntsAre vs ns) (hn : ns.length ≤ 63) :
    Go w A (execs body (envX qual scope L f cd [])) (fun fl s' => fl = .ret (.bool true) ∧ s'.gens = s.gens ∧ s'.os = s.os ∧ (∃ m', Fr g L s'.heap m') ∧ GrownAt 71 s'.heap ∧ GrownAt 64 s'.heap) s := by
  have e := ho.symm.trans (rfl : (KK w).lookup 131 = some _)
  clear ho
  injection e with e
  injection e with e1 e2 e3 e4
  injection e3 with e3
  injection e3 with q1 q2 q3 q4 q5
  injection q4 with q4
  subst q2 q4 q5
  clear e1 e2 e4 q1 q3
  have lof : ∀ h' : Heap, (∀ b o, g.get? b = some o → h'.get? b = some o) → h'.IsList a vs.toArray := fun h' hk => by obtain ⟨o, ho, r⟩ := hl; exact ⟨o, hk _ _ ho, r⟩
  have hIl := hI.length
  -- draws
  refine exAsgE (g := g) (goBin (goSlice (g := g) (L := L) (plo := some 5) (pup := some 10) (pst := none) (Ev.go (evName F hm (P := IsV (.ref a)) rfl) fun v tk1 hv => ?_)))
  subst hv
  refine ⟨a, vs.toArray, m, _, rfl, F, N, lof _ F.keep, (by rw [sizeLine_eq, List.size_toArray]; omega), evP1 evInt, evP1 evInt, evP0, fun D1 h1 tk2 F1 N1 lt1 => ?_⟩
  refine goSliceLo (g := g) (L := L) (goListI (is := [1, 0, 1384, 1, 0]) (s := { s with heap := h1, toks := tk2 }) F1 N1 ⟨evInt, rfl, evInt, rfl, evInt, rfl, evInt, rfl, evInt, rfl, trivial⟩ (by decide) fun D2 ws2 h2 tk3 F2 N2 lt2 hI2 => ?_)
  refine callBoot H F2 rfl boot_max (Ps := [IsI (((vs.toArray.size : Nat) : Int) - 5), IsI 0]) ⟨evSub (evLen H F2 (evName F2 hm rfl) (lof _ F2.keep) (by rw [List.size_toArray]; omega)) evInt, rfl, evInt, rfl, trivial⟩ fun vs' tk4 hvs => ?_
  obtain ⟨v1, v2, rfl, ⟨t1, rfl⟩, ⟨t2, rfl⟩⟩ := allV2 hvs
  have e63 : ((vs.toArray.size : Nat) : Int) = (ns.length : Int) := by rw [List.size_toArray, hIl]
  rw [e63]
  refine ⟨max_two_N (s := { s with heap := h2, toks := tk4 }) H.hh F2 N2 fun h3 tk5 F3 N3 => ?_⟩
  refine ⟨D2, ws2.toArray, m, _, _, _, rfl, rfl, F3, N3, News.isList N3 (.head _), ?_, fun D3 h4 tk6 F4 N4 lt4 => ?_⟩
  · have := hI2.length
    rw [sizeLine_eq, List.size_toArray, this]; decide
  have l1 := News.isList N4 (.tail _ (.tail _ (.head _)))
  have l3 := News.isList N4 (.head _)
  rw [← Array.toArray_toList (xs := slicePick vs.toArray (some 5) (some 10) none)] at l1
  rw [← Array.toArray_toList (xs := slicePick ws2.toArray _ none none)] at l3
  have hd5 := draws_five ns
  refine ⟨kmk_add_ints (s := { s with heap := h4, toks := tk6 }) F4 N4 l1 l3 (kmk_run hI (by decide) (by decide)) (kmk_from hI2 (by split <;> omega)) (fun D4 us h5 F5 N5 lt5 hI5 => ⟨_, _, F5, N5, fun h6 tk7 F6 N6 => ?_⟩) ?_⟩
  rotate_left
  · rw [sizeLine_eq]
    have : ∀ x y : List Int, (x ++ y).length = x.length + y.length := fun x y => List.length_append
    rw [← this]
    refine Nat.le_trans (Nat.le_of_eq hd5) (by decide)
  have h5e : ∃ d0 d1 d2 d3 d4, (ns.drop 5).take (min 10 ns.length - 5) ++ [1, 0, 1384, 1, 0].drop (if (0 : Int) > (ns.length : Int) - 5 then (0 : Int) else (ns.length : Int) - 5).toNat = [d0, d1, d2, d3, d4] := five hd5
  obtain ⟨d0, d1, d2, d3, d4, h5e⟩ := h5e
  have hI6 : IntsAre us [d0, d1, d2, d3, d4] := by rw [← h5e]; exact hI5
  obtain ⟨t0, t1, t2, t3, t4, rfl⟩ := ints5 hI6
  show Go w A _ _ { s with heap := h6, toks := tk7 }
  have l71 : @LT.lt Nat _ 71 D4 := lt5 (71, tabObj #[]) (.tail _ (.tail _ (.tail _ (.head _))))
  have l64 : @LT.lt Nat _ 64 D4 := lt5 (64, tabObj #[]) (.tail _ (.tail _ (.tail _ (.tail _ (.head _)))))
  have N7 : News g L h6 [(D4, listOf [.int d0 t0, .int d1 t1, .int d2 t2, .int d3 t3, .int d4 t4].toArray 0), (71, tabObj #[]), (64, tabObj #[])] := fun p hp => N6 p (sb_in3 hp)
  have M0 : Has (upd m (Str.ofString "draws") (.ref D4)) [Str.ofString "draws", Str.ofString "script"] [.ref D4, .ref a] := ⟨updEq, updNe hm (by decide), trivial⟩
  generalize upd m (Str.ofString "draws") (.ref D4) = m0 at *
  clear hm
  clear N N1 N2 N3 N4 N5 N6 F1 F2 F3 F4 F5 lt1 lt2 lt4 lt5 l1 l3 hI5 hI6 hd5 h5e hI2 F
  have dr : ∀ (h' : Heap) (m' : Mp) (led : Led), Fr g L h' m' → News g L h' led → (D4, listOf [.int d0 t0, .int d1 t1, .int d2 t2, .int d3 t3, .int d4 t4].toArray 0) ∈ led → h'.IsList D4 [.int d0 t0, .int d1 t1, .int d2 t2, .int d3 t3, .int d4 t4].toArray := fun h' m' led F' N' hm' => News.isList N' hm'
  -- front
  refine exAsgE (g := g) (goBin (goJoin fun tk8 => goComp (g := g) (L := L) (cl := []) (fun _ => true) (fun _ y => IsC y) rfl (by decide) rfl (by decide) rfl ?_))
  refine goSlice (g := g) (L := L) (plo := none) (pup := some 5) (pst := none) (Ev.go (evName F6 M0.2.1 (P := IsV (.ref a)) rfl) fun v tk9 hv => ?_)
  subst hv
  refine ⟨a, vs.toArray, _, _, rfl, F6, N7, lof _ F6.keep, (by rw [sizeLine_eq, List.size_toArray]; omega), evP0, evP1 evInt, evP0, fun D5 h7 tk10 F7 N8 lt8 => ?_⟩
  have e5 : slicePick vs.toArray none (some 5) none = (vs.take 5).toArray := slicePick_upto' vs.toArray 5
  rw [e5] at N8
  refine readyList (s := { s with heap := h7, toks := tk10 }) (z := 0) H.hh F7 N8 (.head _) fun it h8 rd => ?_
  refine ⟨h8, tk10, _, _, _, _, _, rfl, rd, (fun p hp => by rw [List.mem_singleton.mp hp]; exact .head _), (by rw [List.length_take]; omega), ?_, ?_, ?_⟩
  · intro C i v s3 m3 hC hP hns hm F3 N3
    exact ⟨wpAny_pure ⟨rfl, s3.heap, s3.toks, rfl, fun _ _ e => e⟩⟩
  · intro C i v s3 m3 hC hP _ hns hm F3 N3
    obtain ⟨x, tx, rfl⟩ := ints_at hI (i := i) (v := v) (by
      have : (vs.take 5)[i]? = some v := hP
      rw [List.getElem?_take] at this
      split at this
      · exact this
      · cases this)
    obtain ⟨j, hj, hj5⟩ := modN x 5 (by decide)
    obtain ⟨cc, hcc, hcc5⟩ := modN (x.fdiv 5) 55000 (by decide)
    have hcc' : (x.fdiv 5).fmod 55000 = (cc : Int) := hcc
    have hj' : x.fmod 5 = (j : Int) := hj
    refine goTupItem (g := g) (L := L) (evArgs (Ps := [IsS (Str.ofString "."), IsS (Str.ofString "\r"), IsS (Str.ofString "\n"), IsS (Str.ofString "a"), IsC]) ⟨evStr, rfl, evStr, rfl, evStr, rfl, evStr, rfl,
      evChrC H F3 (i := (x.fdiv 5).fmod 55000) (by omega) (by omega) (evMod (evFDiv (evNameC hns hm isI) evInt (by decide) (noPy (by decide))) evInt (by decide)), rfl, trivial⟩ fun vs5 tk11 hv5 => ?_)
    obtain ⟨w0, w1, w2, w3, w4, rfl, ⟨u0, rfl⟩, ⟨u1, rfl⟩, ⟨u2, rfl⟩, ⟨u3, rfl⟩, ⟨c4, u4, rfl⟩⟩ := allV5 hv5
    have hall : ∃ y, [Value.str (Str.ofString ".") u0, .str (Str.ofString "\r") u1, .str (Str.ofString "\n") u2, .str (Str.ofString "a") u3, .str ⟨#[c4]⟩ u4][((j : Nat) : Int).toNat]? = some y ∧ IsC y := by
      have hjj : j = 0 ∨ j = 1 ∨ j = 2 ∨ j = 3 ∨ j = 4 := by omega
      rcases hjj with rfl | rfl | rfl | rfl | rfl
      · exact ⟨_, rfl, 46, u0, rfl⟩
      · exact ⟨_, rfl, 13, u1, rfl⟩
      · exact ⟨_, rfl, 10, u2, rfl⟩
      · exact ⟨_, rfl, 97, u3, rfl⟩
      · exact ⟨_, rfl, c4, u4, rfl⟩
    obtain ⟨y, hy, hyc⟩ := hall
    refine ⟨_, _, (j : Int), y, F3, N3, by show 5 ≤ 100; decide, by omega, hy, fun h' F' N' g' => ?_, fun h' tk' F' N' hg => ⟨hyc, Keeps.of hg⟩⟩
    rw [← hj']
    exact evMod (evNameC (hns.at' fun o e => g' _ o e) hm isI) evInt (by decide)
  intro D6 h9 tk11 ys c vs' hlen' hP hF F8 N9 hne9
  have hv5 : vs'.length ≤ 5 := by rw [hlen', List.length_take]; omega
  rw [filter_all] at hF
  obtain ⟨l6, rfl, el6, h16⟩ := paired_ones hF
  obtain ⟨cs0, hcs0, ejoin⟩ := join_ones l6 h16
  have ejoin' : Txt.join (Str.ofString "") (l6.map fun p => (⟨p.1.toArray⟩ : Str)) = ⟨cs0.toArray⟩ := ejoin
  refine ⟨D6, l6, rfl, News.isList N9 (.head _), joinOk_of_weight ?_ (by decide), fun t5 tk12 => ?_⟩
  · have h5 := sum_le (l := (l6.map fun p => (⟨p.1.toArray⟩ : Str)).map (·.length)) (b := 17) fun x hx => by
      rw [List.map_map] at hx
      obtain ⟨p, hp, rfl⟩ := List.mem_map.mp hx
      have := h16 p hp
      show p.1.toArray.size ≤ 17
      rw [List.size_toArray]; omega
    rw [List.length_map, List.length_map] at h5
    rw [List.length_map]
    omega
  rw [ejoin']
  have N10 : News g L h9 [(D4, listOf [.int d0 t0, .int d1 t1, .int d2 t2, .int d3 t3, .int d4 t4].toArray 0), (71, tabObj #[]), (64, tabObj #[])] := fun p hp => N9 p (.tail _ (.tail _ hp))
  clear N9 N8 N7 hne9 lt8 F7 F6 ejoin ejoin' rd e5
  obtain ⟨p3, hp3, hp33⟩ := modN (d1.fdiv 2) 3 (by decide)
  have hp3' : 1 + (d1.fdiv 2).fmod 3 = ((1 + p3 : Nat) : Int) := by have : (d1.fdiv 2).fmod 3 = (p3 : Int) := hp3; omega
  refine Ev.go (P := IsI ((1 + p3 : Nat) : Int)) (evCast (evAdd evInt (evMod (evFDiv (evItem (i := 1) (v := .int d1 t1) (evName F8 M0.1 rfl) evInt (dr _ _ _ F8 N10 (.head _)) (by decide) (by decide) rfl isI) evInt (by decide) (noPy (by decide))) evInt (by decide))) hp3') fun v tk13 hv => ?_
  obtain ⟨t6, rfl⟩ := hv
  refine goMulS (by omega) (by omega) fun front tf tk14 hfl => ⟨_, _, F8, N10, fun h10 tk15 F9 N11 => ?_⟩
  show Go w A _ _ { s with heap := h10, toks := tk15 }
  have hfront : front.length ≤ 15 := by omega
  clear hfl hcs0 h16 hF el6 hp3 F8 N10
  have M1 := M0.upd (x := Str.ofString "front") (v := .str ⟨front.toArray⟩ tf) (by decide +kernel)
  generalize upd m0 (Str.ofString "front") (.str ⟨front.toArray⟩ tf) = m1 at *
  -- some
  obtain ⟨p, hp, hp3⟩ := mod3 d0
  refine exAsgI (i := (p : Int)) F9 N11 (evCast (evMod (evItem (i := 0) (v := .int d0 t0) (evName F9 M1.2.1 rfl) evInt (dr _ _ _ F9 N11 (.head _)) (by decide) (by decide) rfl isI) evInt (by decide)) hp) fun ts h11 tk16 F10 N12 => ?_
  show Go w A _ _ { s with heap := h11, toks := tk16 }
  have M2 := M1.upd (x := Str.ofString "some") (v := .int (p : Int) ts) (by decide +kernel)
  generalize upd m1 (Str.ofString "some") (.int (p : Int) ts) = m2 at *
  -- bound
  refine exAsgE (g := g) (goTupItem (g := g) (L := L) (evArgs (Ps := [IsI 4, IsI 3, IsI 2]) ⟨evInt, rfl, evInt, rfl, evInt, rfl, trivial⟩ fun vs3 tk17 hv3 => ?_))
  obtain ⟨w0, w1, w2, rfl, ⟨u0, rfl⟩, ⟨u1, rfl⟩, ⟨u2, rfl⟩⟩ := allV3 hv3
  have hall : ∃ t, [Value.int 4 u0, .int 3 u1, .int 2 u2][((p : Nat) : Int).toNat]? = some (.int ((bdOf p : Nat) : Int) t) := by
    have hpp : p = 0 ∨ p = 1 ∨ p = 2 := by omega
    rcases hpp with rfl | rfl | rfl
    · exact ⟨u0, rfl⟩
    · exact ⟨u1, rfl⟩
    · exact ⟨u2, rfl⟩
  obtain ⟨tb, hall⟩ := hall
  refine ⟨_, _, (p : Int), _, F10, N12, by show 3 ≤ 100; decide, by omega, hall, fun h' F' N' _ => evName F' M2.1 isI, fun h12 tk18 F11 N13 _ => ⟨_, _, F11, N13, fun h13 tk19 F12 N14 => ?_⟩⟩
  show Go w A _ _ { s with heap := h13, toks := tk19 }
  have M3 := M2.upd (x := Str.ofString "bound") (v := .int ((bdOf p : Nat) : Int) tb) (by decide +kernel)
  generalize upd m2 (Str.ofString "bound") (.int ((bdOf p : Nat) : Int) tb) = m3 at *
  -- times
  obtain ⟨pk, hpk, hpk2⟩ := modN d1 2 (by decide)
  have hpk' : d1.fmod 2 = (pk : Int) := hpk
  have hpk3 : 1 + d1.fmod 2 = ((1 + pk : Nat) : Int) := by omega
  refine exAsgI (i := ((1 + pk : Nat) : Int)) F12 N14 (evCast (evAdd evInt (evMod (evItem (i := 1) (v := .int d1 t1) (evName F12 M3.2.2.2.1 rfl) evInt (dr _ _ _ F12 N14 (.head _)) (by decide) (by decide) rfl isI) evInt (by decide))) hpk3) fun tk_ h14 tk20 F13 N15 => ?_
  show Go w A _ _ { s with heap := h14, toks := tk20 }
  generalize hk : 1 + pk = k at *
  have hk12 : k = 1 ∨ k = 2 := by omega
  have M4 := M3.upd (x := Str.ofString "times") (v := .int ((k : Nat) : Int) tk_) (by decide +kernel)
  generalize upd m3 (Str.ofString "times") (.int ((k : Nat) : Int) tk_) = m4 at *
  -- width
  obtain ⟨pw, hpw, hpw2⟩ := modN d2 1385 (by decide)
  have hpw' : d2.fmod 1385 = (pw : Int) := hpw
  have hpw3 : 16 + d2.fmod 1385 = ((16 + pw : Nat) : Int) := by omega
  refine exAsgI (i := ((16 + pw : Nat) : Int)) F13 N15 (evCast (evAdd evInt (evMod (evItem (i := 2) (v := .int d2 t2) (evName F13 M4.2.2.2.2.1 rfl) evInt (dr _ _ _ F13 N15 (.head _)) (by decide) (by decide) rfl isI) evInt (by decide))) hpw3) fun tn h15 tk21 F14 N16 => ?_
  show Go w A _ _ { s with heap := h15, toks := tk21 }
  generalize hn_ : 16 + pw = n at *
  have hn1 : 16 ≤ n := by omega
  have hn2 : n ≤ 1400 := by omega
  have M5 := M4.upd (x := Str.ofString "width") (v := .int ((n : Nat) : Int) tn) (by decide +kernel)
  generalize upd m4 (Str.ofString "width") (.int ((n : Nat) : Int) tn) = m5 at *
  -- sign
  obtain ⟨ps, hps, hps2⟩ := modN d3 2 (by decide)
  have hps' : d3.fmod 2 = (ps : Int) := hps
  have hps3 : 1 - d3.fmod 2 * 2 = 1 - (ps : Int) * 2 := by rw [hps']
  have hpsb : Builtin.Int.intBits (d3.fmod 2) ≤ 1 := bits_of (by omega) (by rw [hps']; show (ps : Int) < 2; omega)
  have e22 : Builtin.Int.intBits 2 = 2 := by decide
  refine exAsgI (i := 1 - (ps : Int) * 2) F14 N16 (evCast (evSub evInt (evMul (evMod (evItem (i := 3) (v := .int d3 t3) (evName F14 M5.2.2.2.2.2.1 rfl) evInt (dr _ _ _ F14 N16 (.head _)) (by decide) (by decide) rfl isI) evInt (by decide)) evInt (mulOk (by omega)))) hps3) fun tsg h16 tk22 F15 N17 => ?_
  show Go w A _ _ { s with heap := h16, toks := tk22 }
  have hsg : (1 - (ps : Int) * 2 = 1 ∨ 1 - (ps : Int) * 2 = -1) := by omega
  generalize 1 - (ps : Int) * 2 = sg at *
  have M6 := M5.upd (x := Str.ofString "sign") (v := .int sg tsg) (by decide +kernel)
  generalize upd m5 (Str.ofString "sign") (.int sg tsg) = m6 at *
  -- signs
  obtain ⟨pp, hpp, hpp4⟩ := modN (d3.fdiv 2) 4 (by decide)
  have hpp' : (d3.fdiv 2).fmod 4 = (pp : Int) := hpp
  refine exAsgE (g := g) (goBin (callBootTE H F15 rfl rfl fun tk23 => goSliceTo (j := (p : Int)) (goTupItem (g := g) (L := L) (evArgs (s := { s with heap := h16, toks := tk23 }) (Ps := [IsS ⟨(plains 0).toArray⟩, IsS ⟨(plains 1).toArray⟩, IsS ⟨(plains 2).toArray⟩, IsS ⟨(plains 3).toArray⟩]) ⟨evStr, rfl, evStr, rfl, evStr, rfl, evStr, rfl, trivial⟩ fun vs4 tk24 hv4 => ?_))))
  obtain ⟨w0, w1, w2, w3, rfl, ⟨u0, rfl⟩, ⟨u1, rfl⟩, ⟨u2, rfl⟩, ⟨u3, rfl⟩⟩ := allV4 hv4
  have hall2 : ∃ t, [Value.str ⟨(plains 0).toArray⟩ u0, .str ⟨(plains 1).toArray⟩ u1, .str ⟨(plains 2).toArray⟩ u2, .str ⟨(plains 3).toArray⟩ u3][((pp : Nat) : Int).toNat]? = some (.str ⟨(plains pp).toArray⟩ t) := by
    have hp4 : pp = 0 ∨ pp = 1 ∨ pp = 2 ∨ pp = 3 := by omega
    rcases hp4 with rfl | rfl | rfl | rfl
    · exact ⟨u0, rfl⟩
    · exact ⟨u1, rfl⟩
    · exact ⟨u2, rfl⟩
    · exact ⟨u3, rfl⟩
  obtain ⟨tpp, hall2⟩ := hall2
  have hpl2 : (plains pp).length = 2 := by
    have hp4 : pp = 0 ∨ pp = 1 ∨ pp = 2 ∨ pp = 3 := by omega
    rcases hp4 with rfl | rfl | rfl | rfl <;> rfl
  refine ⟨m6, _, (pp : Int), _, F15, N17, by show 4 ≤ 100; decide, by omega, hall2, fun h' F' N' _ => evCast (evMod (evFDiv (evItem (i := 3) (v := .int d3 t3) (evName F' M6.2.2.2.2.2.2.1 rfl) evInt (dr _ _ _ F' N' (.head _)) (by decide) (by decide) rfl isI) evInt (by decide) (noPy (by decide))) evInt (by decide)) hpp', fun h17 tk25 F16 N18 _ => ?_⟩
  refine ⟨_, tpp, rfl, (by show (plains pp).toArray.size ≤ _; rw [List.size_toArray, hpl2]; decide), evName F16 M6.2.2.2.2.1 isI, fun tsl h18 tk26 g18 => ?_⟩
  rw [slTo]
  have F17 := F16.grownK g18
  have N19 := N18.grown g18
  refine goListStr (s := { s with heap := h18, toks := tk26 }) H.hh F17 N19 (by rw [List.length_take, hpl2]; omega) fun D7 l7 c7 h19 tk27 hl7 F18 N20 lt20 => ?_
  refine goListE (s := { s with heap := h19, toks := tk27 }) (Ps := [IsS (Str.ofString "."), IsS (Str.ofString "\r"), IsS (Str.ofString "\n")]) ⟨evStr, rfl, evStr, rfl, evStr, rfl, trivial⟩ fun vs6 tk28 hv6 => ?_
  obtain ⟨w0, w1, w2, rfl, ⟨u0, rfl⟩, ⟨u1, rfl⟩, ⟨u2, rfl⟩⟩ := allV3 hv6
  refine ⟨newList_N (s := { s with heap := h19, toks := tk28 }) F18 N20 (fun h20 F19 N21 => ⟨?_⟩) (by show 3 ≤ sizeLine; decide)⟩
  have hl7n : l7.length ≤ 2 := by
    have := congrArg List.length hl7
    rw [List.length_map, List.length_map, List.length_take, hpl2] at this
    omega
  refine add_lists (s := { s with heap := h20, toks := tk28 }) F19 N21 (News.isList N21 (.tail _ (.head _))) (News.isList N21 (.head _)) (fun h21 F20 N22 => ⟨_, _, F20, N22, fun h22 tk29 F21 N23 => ?_⟩) (by rw [List.length_map]; show l7.length + 3 ≤ _; rw [sizeLine_eq]; omega)
  show Go w A _ _ { s with heap := h22, toks := tk29 }
  have M7 := M6.upd (x := Str.ofString "signs") (v := .ref h20.objs.size) (by decide +kernel)
  generalize upd m6 (Str.ofString "signs") (.ref h20.objs.size) = m7 at *
  obtain ⟨sg_, hsg_, hsgv, hsgn⟩ : ∃ sg_ : List (List Nat × Tok), sg_.map (·.1) = signsOf pp p ∧ sv l7 ++ [Value.str (Str.ofString ".") u0, .str (Str.ofString "\r") u1, .str (Str.ofString "\n") u2] = sv sg_ ∧ sg_.length ≤ 5 ∧ sg_ ≠ [] := by
    refine ⟨l7 ++ [([46], u0), ([13], u1), ([10], u2)], ?_, ?_, ?_, ?_⟩
    · rw [List.map_append, hl7]
      unfold signsOf
      rfl
    · unfold sv
      rw [List.map_append]
      rfl
    · rw [List.length_append]; show l7.length + 3 ≤ 5; omega
    · intro e
      have := congrArg List.length e
      simp at this
  rw [hsgv] at N23
  generalize h20.objs.size = Ds at *
  have N24 : News g L h22 [(Ds, listOf (sv sg_).toArray 0), (D4, listOf [.int d0 t0, .int d1 t1, .int d2 t2, .int d3 t3, .int d4 t4].toArray 0), (71, tabObj #[]), (64, tabObj #[])] := fun p hp => N23 p (sb_in2 hp)
  clear N23 N22 N21 N20 N19 N18 N17 N16 N15 N14 N13 N12 N11 F20 F19 F18 F17 F16 F15 F14 F13 F12 F11 F10 F9 lt20 hl7 hsgv hl7n
  -- high
  obtain ⟨ph, hph, hph2⟩ := modN (d3.fdiv 8) 2 (by decide)
  have hph' : (d3.fdiv 8).fmod 2 = (ph : Int) := hph
  have hphb : Builtin.Int.intBits ((d3.fdiv 8).fmod 2) ≤ 1 := bits_of (by omega) (by rw [hph']; show (ph : Int) < 2; omega)
  obtain ⟨X, hX⟩ : ∃ X : Int, 3 ^ (9000 : Int).toNat + d4 = X := ⟨_, rfl⟩
  have hw10 : (2 : Int) ^ (10 * (n : Int)).toNat = 2 ^ (10 * n) := by
    have : (10 * (n : Int)).toNat = 10 * n := by omega
    rw [this]
  have hXb : Builtin.Int.intBits (X.fmod (2 ^ (10 * n))) ≤ 14000 := by
    refine Nat.le_trans (bits_of (Int.fmod_nonneg_of_pos X (pow_pos' (10 * n))) (Int.fmod_lt_of_pos X (pow_pos' (10 * n)))) (by omega)
  have hnb : Builtin.Int.intBits (n : Int) ≤ 11 := bits_of (by omega) (by omega)
  have e10 : Builtin.Int.intBits 10 = 4 := by decide
  have hp12 : ((ph : Int) * 2 - 1) = 1 ∨ ((ph : Int) * 2 - 1) = -1 := by omega
  have hp12b : Builtin.Int.intBits ((ph : Int) * 2 - 1) ≤ 1 := by rcases hp12 with e | e <;> rw [e] <;> decide
  have hhi : Builtin.Int.intBits (((ph : Int) * 2 - 1) * X.fmod (2 ^ (10 * n))) ≤ 10 * n := high_bits hph2
  refine exAsgI (i := ((ph : Int) * 2 - 1) * X.fmod (2 ^ (10 * n))) F21 N24 (evMul (evCast (evSub (evMul (evMod (evFDiv (evItem (i := 3) (v := .int d3 t3) (evName F21 M7.2.2.2.2.2.2.2.1 rfl) evInt (dr _ _ _ F21 N24 (.tail _ (.head _))) (by decide) (by decide) rfl isI) evInt (by decide) (noPy (by decide))) evInt (by decide)) evInt (mulOk (by omega))) evInt) (by rw [hph']))
    (evMod (evCast (evAdd (evPow evInt evInt (by decide) (by decide)) (evItem (i := 4) (v := .int d4 t4) (evName F21 M7.2.2.2.2.2.2.2.1 rfl) evInt (dr _ _ _ F21 N24 (.tail _ (.head _))) (by decide) (by decide) rfl isI)) hX) (evCast (evPow evInt (evMul evInt (evName F21 M7.2.2.1 isI) (mulOk (by omega))) (by omega) (by rw [e22]; omega)) hw10) (Int.ne_of_gt (pow_pos' (10 * n)))) (mulOk (by omega))) fun th h23 tk30 F22 N25 => ?_
  show Go w A _ _ { s with heap := h23, toks := tk30 }
  clear hX hXb
  generalize ((ph : Int) * 2 - 1) * X.fmod (2 ^ (10 * n)) = high at *
  have M8 := M7.upd (x := Str.ofString "high") (v := .int high th) (by decide +kernel)
  generalize upd m7 (Str.ofString "high") (.int high th) = m8 at *
  have N26 : News g L h23 [(Ds, listOf (sv sg_).toArray 0), (71, tabObj #[]), (64, tabObj #[])] := fun p hp => N25 p (sb_in1 hp)
  clear N25 N24 F21
  -- begun
  refine exAsgE (g := g) (goPick2 (is1 := [1, -1, 1]) (is2 := [1, -1, 0, 1]) F22 N26 hk12 (fun h F => ⟨evInt, rfl, evNeg evInt, rfl, evInt, rfl, trivial⟩) (fun h F => ⟨evInt, rfl, evNeg evInt, rfl, evInt, rfl, evInt, rfl, trivial⟩) (fun h F => evSub (evName F M8.2.2.2.2.1 isI) evInt) (by decide) (by decide) fun Db wb h24 tk31 F23 N27 hIb => ⟨_, _, F23, N27, fun h25 tk32 F24 N28 => ?_⟩)
  show Go w A _ _ { s with heap := h25, toks := tk32 }
  have M9 := M8.upd (x := Str.ofString "begun") (v := .ref Db) (by decide +kernel)
  generalize upd m8 (Str.ofString "begun") (.ref Db) = m9 at *
  -- over
  refine exAsg F24 N28 (evName F24 M9.1 (P := IsV (.ref Db)) rfl) fun v h26 tk33 hv F25 N29 => ?_
  subst hv
  show Go w A _ _ { s with heap := h26, toks := tk33 }
  have M10 := M9.upd (x := Str.ofString "over") (v := .ref Db) (by decide +kernel)
  generalize upd m9 (Str.ofString "over") (.ref Db) = m10 at *
  -- the three states of the front
  have htl := aft_tail front
  have hsl := slLast front
  generalize hst : aft 0 front = st at htl
  generalize front.drop (front.length - 1) = tl at htl hsl
  have cls1 : (tl == [13]) = true → st = 1 := fun hc => by
    have e2 : tl = [13] := eq_of_beq hc
    rcases htl with ⟨_, _, h⟩ | ⟨c, h1, h2⟩
    · rw [h] at e2; cases e2
    · rw [h2] at e2
      have : c = 13 := by injection e2
      rw [h1, this]; rfl
  have cls0 : (tl == [13]) = false → st ≠ 1 := fun hc e => by
    rcases htl with ⟨_, h, _⟩ | ⟨c, h1, h2⟩
    · omega
    · have : c = 13 := by
        unfold nst at h1
        split at h1
        · assumption
        · split at h1 <;> omega
      rw [h2, this] at hc
      cases hc
  have cls2 : (!([Str.ofString "", Str.ofString "\n"].any (· == (⟨tl.toArray⟩ : Str)))) = true → st ≠ 1 → st = 2 := fun hc h1 => by
    rcases htl with ⟨_, _, h⟩ | ⟨c, h2, h3⟩
    · rw [h] at hc
      have : (!([Str.ofString "", Str.ofString "\n"].any (· == (⟨[].toArray⟩ : Str)))) = false := by decide
      rw [this] at hc; cases hc
    · rw [h2] at h1 ⊢
      unfold nst at h1 ⊢
      split at h1
      · omega
      · split at h1
        · rename_i h4
          rw [h3, h4] at hc
          have : (!([Str.ofString "", Str.ofString "\n"].any (· == (⟨[10].toArray⟩ : Str)))) = false := by decide
          rw [this] at hc; cases hc
        · rename_i h4 h5
          rw [if_neg h4, if_neg h5]
  have cls3 : (!([Str.ofString "", Str.ofString "\n"].any (· == (⟨tl.toArray⟩ : Str)))) = false → st ≠ 2 := fun hc e => by
    rcases htl with ⟨_, h, _⟩ | ⟨c, h1, h2⟩
    · omega
    · rw [h2] at hc
      have hc1 : ([Str.ofString "", Str.ofString "\n"].any (· == (⟨[c].toArray⟩ : Str))) = true := by
        cases hq : ([Str.ofString "", Str.ofString "\n"].any (· == (⟨[c].toArray⟩ : Str))) with
        | true => rfl
        | false => rw [hq] at hc; cases hc
      rw [List.any_cons, List.any_cons, List.any_nil, Bool.or_false, Bool.or_eq_true] at hc1
      rcases hc1 with hc1 | hc1
      · have e1 := congrArg (fun x : Str => x.cps.toList) (eq_of_beq hc1)
        have e2 : [] = [c] := e1
        cases e2
      · have e1 := congrArg (fun x : Str => x.cps.toList) (eq_of_beq hc1)
        have e2 : [10] = [c] := e1
        have e3 : c = 10 := by injection e2 with e2; exact e2.symm
        rw [h1, e3] at e
        revert e; decide
  have hstlt : st < 3 := by
    rcases htl with ⟨_, h, _⟩ | ⟨c, h1, _⟩
    · omega
    · rw [h1]; unfold nst; split
      · omega
      · split <;> omega
  clear htl
  refine exIfCmpJ (J := fun s' => ∃ h' tk' m' Db Do wb wo cb co, s' = { s with heap := h', toks := tk' } ∧ Fr g L h' m' ∧ News g L h' [(Do, listOf wo.toArray co), (Db, listOf wb.toArray cb), (Ds, listOf (sv sg_).toArray 0), (71, tabObj #[]), (64, tabObj #[])] ∧
    IntsAre wo (overOf k st) ∧ IntsAre wb (begunOf k st) ∧ Has m' [Str.ofString "over", Str.ofString "begun", Str.ofString "high", Str.ofString "signs", Str.ofString "sign", Str.ofString "width", Str.ofString "times", Str.ofString "bound", Str.ofString "some", Str.ofString "front", Str.ofString "draws", Str.ofString "script"]
      [.ref Do, .ref Db, .int high th, .ref Ds, .int sg tsg, .int (n : Int) tn, .int (k : Int) tk_, .int ((bdOf p : Nat) : Int) tb, .int (p : Int) ts, .str ⟨front.toArray⟩ tf, .ref D4, .ref a]) (goSliceFrom (j := -1) (Ev.go (evName F25 M10.2.2.2.2.2.2.2.2.2.1 isS) fun v tk34 hv => ?_)) ?_
  · obtain ⟨tfr, rfl⟩ := hv
    refine ⟨_, tfr, rfl, (by show front.toArray.size ≤ _; rw [List.size_toArray]; omega), evNeg evInt, fun tsl h27 tk35 g27 => ?_⟩
    rw [hsl]
    refine Ev.go evStr fun v tk36 hv => ?_
    obtain ⟨tcr, rfl⟩ := hv
    have F26 := F25.grownK g27
    have N30 := N29.grown g27
    refine ⟨P.eq_str ⟨_, rfl, fun hc => ?_, fun hc => ?_⟩⟩
    · -- behind a return
      have hs1 := cls1 hc
      show Go w A _ _ { s with heap := h27, toks := tk36 }
      refine exAsgE (g := g) (goPick2 (is1 := [2, -2, 1, 1, -1]) (is2 := [2, -2, -1, 3, 0, -1]) F26 N30 hk12 (fun h F => ⟨evInt, rfl, evNeg evInt, rfl, evInt, rfl, evInt, rfl, evNeg evInt, rfl, trivial⟩) (fun h F => ⟨evInt, rfl, evNeg evInt, rfl, evNeg evInt, rfl, evInt, rfl, evInt, rfl, evNeg evInt, rfl, trivial⟩) (fun h F => evSub (evName F M10.2.2.2.2.2.2.1 isI) evInt) (by decide) (by decide) fun Do wo h28 tk37 F27 N31 hIo => ⟨_, _, F27, N31, fun h29 tk38 F28 N32 => ?_⟩)
      have M11 := M10.2.upd (x := Str.ofString "over") (v := .ref Do) (by decide +kernel)
      refine exNil ⟨rfl, h29, tk38, _, Db, Do, wb, wo, 0, 0, rfl, F28, N32, ?_, ?_, M11⟩
      · rw [hs1]; exact hIo
      · rw [hs1]; exact hIb
    · have hs1 := cls0 hc
      show Go w A _ _ { s with heap := h27, toks := tk36 }
      refine exIfCmp (goSliceFrom (j := -1) (Ev.go (evName F26 M10.2.2.2.2.2.2.2.2.2.1 isS) fun v tk37 hv => ?_))
      obtain ⟨tfr2, rfl⟩ := hv
      refine ⟨_, tfr2, rfl, (by show front.toArray.size ≤ _; rw [List.size_toArray]; omega), evNeg evInt, fun tsl2 h28 tk38 g28 => ?_⟩
      rw [hsl]
      have F27 := F26.grownK g28
      have N31 := N30.grown g28
      refine goTupE (s := { s with heap := h28, toks := tk38 }) (Ps := [IsS (Str.ofString ""), IsS (Str.ofString "\n")]) ⟨evStr, rfl, evStr, rfl, trivial⟩ fun vs tk39 hvs => ?_
      obtain ⟨w0, w1, rfl, ⟨u0, rfl⟩, ⟨u1, rfl⟩⟩ := allV2 hvs
      refine ⟨newTuple_N (s := { s with heap := h28, toks := tk39 }) F27 N31 (fun h29 F28 N32 => ⟨notin_tuple_strs (News.isTup N32 (.head _)) (.cons _ _ (.cons _ _ .nil)) ⟨_, rfl, fun hc2 => ?_, fun hc2 => ?_⟩⟩) (by show 2 ≤ sizeLine; decide)⟩
      · have hs2 := cls2 hc2 hs1
        show Go w A _ _ { s with heap := h29, toks := tk39 }
        refine exAsgE (g := g) (goListI (is := [1]) F28 N32 ⟨evInt, rfl, trivial⟩ (by decide) fun Dc wc h30 tk40 F29 N33 lt33 hIc => ⟨_, _, F29, N33, fun h31 tk41 F30 N34 => ?_⟩)
        have M11 := M10.2.2.upd (x := Str.ofString "begun") (v := .ref Dc) (by decide +kernel)
        generalize upd m10 (Str.ofString "begun") (.ref Dc) = m11 at *
        refine exAsg F30 N34 (evName F30 M11.1 (P := IsV (.ref Dc)) rfl) fun v h32 tk42 hv F31 N35 => ?_
        subst hv
        have M12 := M11.upd (x := Str.ofString "over") (v := .ref Dc) (by decide +kernel)
        refine exNil (exNil ⟨rfl, h32, tk42, _, Dc, Dc, wc, wc, 0, 0, rfl, F31, fun p hp => N35 p (sb_in2 (sb_dup hp)), ?_, ?_, M12⟩)
        · rw [hs2]; exact hIc
        · rw [hs2]; exact hIc
      · have hs2 := cls3 hc2
        refine exNil (exNil ⟨rfl, h29, tk39, _, Db, Db, wb, wb, 0, 0, rfl, F28, fun p hp => N32 p (.tail _ (sb_dup hp)), ?_, ?_, M10⟩)
        · have e : overOf k st = if k = 1 then [1, -1, 1] else [1, -1, 0, 1] := by
            unfold overOf begunOf
            rw [if_neg hs1, if_neg hs2]
          rw [e]; exact hIb
        · have e : begunOf k st = if k = 1 then [1, -1, 1] else [1, -1, 0, 1] := by
            unfold begunOf
            rw [if_neg hs2]
          rw [e]; exact hIb
  · rintro s' ⟨h', tk', m', Db, Do, wb, wo, cb, co, rfl, F', N', hIo, hIb, M'⟩
    clear M10 N29 F25 F24 F23 F22 N28 N27 N26 cls0 cls1 cls2 cls3 hsl
    -- every
    refine exAsgE (g := g) (goPick2 (is1 := [1, -1 - (p : Int), -3, 3, -2, -1, 1]) (is2 := [1, -1 - (p : Int), -3, 3, 1, -4, 0, 1]) F' N' hk12 (fun h F => ⟨evInt, rfl, evSub (evNeg evInt) (evName F M'.2.2.2.2.2.2.2.2.1 isI), rfl, evNeg evInt, rfl, evInt, rfl, evNeg evInt, rfl, evNeg evInt, rfl, evInt, rfl, trivial⟩)
      (fun h F => ⟨evInt, rfl, evSub (evNeg evInt) (evName F M'.2.2.2.2.2.2.2.2.1 isI), rfl, evNeg evInt, rfl, evInt, rfl, evInt, rfl, evNeg evInt, rfl, evInt, rfl, evInt, rfl, trivial⟩) (fun h F => evSub (evName F M'.2.2.2.2.2.2.1 isI) evInt) (by simp) (by simp) fun De we h30 tk43 F32 N36 hIe => ⟨_, _, F32, N36, fun h31 tk44 F33 N37 => ?_⟩)
    show Go w A _ _ { s with heap := h31, toks := tk44 }
    have M13 := M'.upd (x := Str.ofString "every") (v := .ref De) (by decide +kernel)
    generalize upd m' (Str.ofString "every") (.ref De) = m13 at *
    -- each
    refine exAsgE (g := g) (goPick2 (is1 := [1, -1 - (p : Int), -1, 1, -1]) (is2 := [1, -1 - (p : Int), -1, 1, 0, -1]) F33 N37 hk12 (fun h F => ⟨evInt, rfl, evSub (evNeg evInt) (evName F M13.2.2.2.2.2.2.2.2.2.1 isI), rfl, evNeg evInt, rfl, evInt, rfl, evNeg evInt, rfl, trivial⟩)
      (fun h F => ⟨evInt, rfl, evSub (evNeg evInt) (evName F M13.2.2.2.2.2.2.2.2.2.1 isI), rfl, evNeg evInt, rfl, evInt, rfl, evInt, rfl, evNeg evInt, rfl, trivial⟩) (fun h F => evSub (evName F M13.2.2.2.2.2.2.2.1 isI) evInt) (by simp) (by simp) fun Dh wh h32 tk45 F34 N38 hIh => ⟨_, _, F34, N38, fun h33 tk46 F35 N39 => ?_⟩)
    show Go w A _ _ { s with heap := h33, toks := tk46 }
    have M14 := M13.upd (x := Str.ofString "each") (v := .ref Dh) (by decide +kernel)
    generalize upd m13 (Str.ofString "each") (.ref Dh) = m14 at *
    clear F32 F33 F34 N36 N37 N38 M13 M' F' N'
    -- mails
    refine exAsgE (g := g) (callName H F35 rfl rfl (Ps := [IsS ⟨front.toArray⟩, IsV (.ref Ds), IsI (k : Int), IsI ((bdOf p : Nat) : Int)]) ⟨evName F35 M14.2.2.2.2.2.2.2.2.2.2.2.1 isS, rfl, evName F35 M14.2.2.2.2.2.1 rfl, rfl, evName F35 M14.2.2.2.2.2.2.2.2.1 isI, rfl, evName F35 M14.2.2.2.2.2.2.2.2.2.1 isI, rfl, trivial⟩ fun vs7 tk47 hv7 => ?_)
    obtain ⟨v1, v2, v3, v4, rfl, ⟨tt1, rfl⟩, rfl, ⟨tt3, rfl⟩, ⟨tt4, rfl⟩⟩ := allV4 hv7
    have hbd : bdOf p ≤ 4 := by unfold bdOf; omega
    refine mails_spec (s := { s with heap := h33, toks := tk47 }) (z := 0) hk12 hbd hfront (by rw [hsg_]; exact signs_ones) hsgn.1 hsgn.2 H F35 N39 (R.le (by decide)) (.tail _ (.tail _ (.tail _ (.tail _ (.head _))))) fun Dm cm bl h34 tk48 hbl F36 N40 => ⟨_, _, F36, N40, fun h35 tk49 F37 N41 => ?_⟩
    show Go w A _ _ { s with heap := h35, toks := tk49 }
    have M15 := M14.upd (x := Str.ofString "mails") (v := .ref Dm) (by decide +kernel)
    generalize upd m14 (Str.ofString "mails") (.ref Dm) = m15 at *
    clear F36 F35 N40 N39 M14
    rw [hsg_] at hbl
    obtain ⟨dv1, dv2, h2000⟩ := law_facts hk12 hp3 hpp4 hstlt hn1 (front := front) (n := n) (pp := pp) (p := p) (k := k) (st := st) hst
    have hBB : (mailsL k (ext k 0 front).length (bdOf p) (signsOf pp p) 0 front).length = bdOf p + 1 :=
      (rounds_ok (k := k) (home := (ext k 0 front).length) (bd := bdOf p) (signs := signsOf pp p) (front := front) (st := 0) signs_ones (by rw [← hsg_, List.length_map]; exact hsgn.1) (bdOf p + 2) (by omega)).len
    generalize mailsL k (ext k 0 front).length (bdOf p) (signsOf pp p) 0 front = BB at *
    have hbln : bl.length ≤ 5 := by rw [hbl.len, hBB]; omega
    obtain ⟨ob1, ob2, ob3, ob4⟩ := over_bits (st := st) hk12 hstlt
    obtain ⟨eb1, eb2, eb3, eb4⟩ := every_bits hk12 hp3
    -- the ledger, set in order
    have N42 : News g L h35 ([(71, tabObj #[])] ++ ([(64, tabObj #[])] ++ (bl ++ [(Dm, listOf (refs bl).toArray cm), (Dh, listOf wh.toArray 0), (De, listOf we.toArray 0), (Do, listOf wo.toArray co), (Db, listOf wb.toArray cb)]))) := fun q hq => N41 q (sb_law hq)
    have hIe' : IntsAre we (everyOf k p) := hIe
    have hIh' : IntsAre wh (eachOf k p) := hIh
    clear N41 hIe hIh
    have TT0 : TT [(71, tabObj #[])] [(64, tabObj #[])] := ⟨.inl rfl, .inl rfl⟩
    have LS0 : Lists (bl ++ [(Dm, listOf (refs bl).toArray cm), (Dh, listOf wh.toArray 0), (De, listOf we.toArray 0), (Do, listOf wo.toArray co), (Db, listOf wb.toArray cb)]) := hbl.lists.app (.cons (.cons (.cons (.cons (.cons .nil)))))
    generalize hT1 : [((71 : Addr), tabObj #[])] = t1_ at *
    generalize hT2 : [((64 : Addr), tabObj #[])] = t2_ at *
    clear hT1 hT2
    -- [len(part) for part in mails] != _law_counts(..)
    have hmails : (Dm, listOf (refs bl).toArray cm) ∈ t1_ ++ (t2_ ++ (bl ++ [(Dm, listOf (refs bl).toArray cm), (Dh, listOf wh.toArray 0), (De, listOf we.toArray 0), (Do, listOf wo.toArray co), (Db, listOf wb.toArray cb)])) := List.mem_append_right _ (List.mem_append_right _ (List.mem_append_right _ (.head _)))
    refine exIfCmp (goComp (g := g) (L := L) (cl := []) (fun _ => true) (fun v y => ∃ a o l t, v = .ref a ∧ (a, o) ∈ t1_ ++ (t2_ ++ (bl ++ [(Dm, listOf (refs bl).toArray cm), (Dh, listOf wh.toArray 0), (De, listOf we.toArray 0), (Do, listOf wo.toArray co), (Db, listOf wb.toArray cb)])) ∧ LO (sv l) o ∧ y = .int (((l.map (·.1)).length : Nat) : Int) t) rfl (by decide) rfl (by decide) rfl ?_)
    refine Ev.go (evName F37 M15.1 (P := IsV (.ref Dm)) rfl) fun v tk50 hv => ?_
    subst hv
    refine readyList (s := { s with heap := h35, toks := tk50 }) (z := cm) H.hh F37 N42 hmails fun it h36 rd => ?_
    refine ⟨h36, tk50, _, _, _, _, _, rfl, rd, (fun q hq => by rw [List.mem_singleton.mp hq]; exact hmails), (by rw [List.length_map]; omega), ?_, ?_, ?_⟩
    · intro C i v s3 m3 hC hP hns hm F3 N3
      exact ⟨wpAny_pure ⟨rfl, s3.heap, s3.toks, rfl, fun _ _ e => e⟩⟩
    · intro C i v s3 m3 hC hP _ hns hm F3 N3
      obtain ⟨pa, po, pl, rfl, hpm, hpo, hpB⟩ := hbl.at hP
      have hpm' : (pa, po) ∈ t1_ ++ (t2_ ++ (bl ++ [(Dm, listOf (refs bl).toArray cm), (Dh, listOf wh.toArray 0), (De, listOf we.toArray 0), (Do, listOf wo.toArray co), (Db, listOf wb.toArray cb)])) := List.mem_append_right _ (List.mem_append_right _ (List.mem_append_left _ hpm))
      refine callBootC H F3 rfl boot_len (Ps := [IsV (.ref pa)]) ⟨evNameC hns hm rfl, rfl, trivial⟩ fun vs8 tk51 hv8 => ?_
      obtain ⟨v1, rfl, rfl⟩ := allV1 hv8
      have hil := hpo.isList N3 hpm'
      have h20 := h2000 _ hpB
      have hkey : ∀ tk, Value.int (((sv pl).toArray.size : Nat) : Int) tk = Value.int (((pl.map (·.1)).length : Nat) : Int) tk := fun tk => by rw [List.size_toArray, List.length_map, List.length_map]
      refine ⟨len_list (s := { s3 with toks := tk51 }) hil (by rw [List.size_toArray, List.length_map]; rw [List.length_map] at h20; omega) ⟨⟨pa, po, pl, _, rfl, hpm', hpo, hkey _⟩, Keeps.of fun _ _ e => e⟩⟩
    · intro D8 h37 tk51 ys c8 vs8 hlen8 hP8 hF8 F38 N43 hne43
      have ev8 := vals_eq hlen8 hP8
      subst ev8
      rw [filter_all] at hF8
      have hI8 : IntsAre ys (BB.map fun l => (l.length : Int)) := paired_ints (T := fun l => (l.length : Int)) (led_uniq N42) (fun q hq => List.mem_append_right _ (List.mem_append_right _ (List.mem_append_left _ hq))) hbl hF8
      show Go w A _ _ { s with heap := h37, toks := tk51 }
      have N44 : News g L h37 (t1_ ++ (t2_ ++ ((D8, listOf ys.toArray c8) :: (bl ++ [(Dm, listOf (refs bl).toArray cm), (Dh, listOf wh.toArray 0), (De, listOf we.toArray 0), (Do, listOf wo.toArray co), (Db, listOf wb.toArray cb)])))) := fun q hq => N43 q (sb_t1 hq)
      refine callName H F38 rfl rfl (Ps := [IsV (.ref Do), IsV (.ref De), IsI ((bdOf p : Nat) : Int), IsI (n : Int), IsI sg, IsI high]) ⟨evName F38 M15.2.2.2.1 rfl, rfl, evName F38 M15.2.2.1 rfl, rfl, evName F38 M15.2.2.2.2.2.2.2.2.2.2.1 isI, rfl, evName F38 M15.2.2.2.2.2.2.2.2.1 isI, rfl, evName F38 M15.2.2.2.2.2.2.2.1 isI, rfl, evName F38 M15.2.2.2.2.2.1 isI, rfl, trivial⟩ fun vs9 tk52 hv9 => ?_
      obtain ⟨v1, v2, v3, v4, v5, v6, rfl, rfl, rfl, ⟨tc3, rfl⟩, ⟨tc4, rfl⟩, ⟨tc5, rfl⟩, ⟨tc6, rfl⟩⟩ := allV6 hv9
      obtain ⟨dva, dvb, dvc, dvd⟩ := dv1
      refine cnt_spec (s := { s with heap := h37, toks := tk52 }) (n := n) (bd := bdOf p) (os := overOf k st) (us := everyOf k p) H F38 N44 TT0 ((LS0.cons).off TT0 N44) (R.le (by decide)) (.tail _ (List.mem_append_right _ (.tail _ (.tail _ (.tail _ (.head _)))))) (.tail _ (List.mem_append_right _ (.tail _ (.tail _ (.head _))))) hIo hIe' ob2 eb2 ob1 eb1 hn1 hn2 hbd hsg hhi dva dvb dvc fun D9 ws9 t1' t2' h38 tk53 F39 N45 T1 lt9 hI9 => ?_
      rw [dvd] at hI9
      refine ⟨ne_intsK (s := { s with heap := h38, toks := tk53 }) (News.isList N45 (.tail _ (List.mem_append_right _ (List.mem_append_right _ (.head _))))) hI8 (News.isList N45 (.head _)) hI9 (by have := R.2; omega) ⟨_, rfl, fun hc => ?_, fun _ => exNil ?_⟩⟩
      · rw [decide_eq_true rfl] at hc
        cases hc
      show Go w A _ _ { s with heap := h38, toks := tk53 }
      have N46 : News g L h38 (t1' ++ (t2' ++ (bl ++ [(Dm, listOf (refs bl).toArray cm), (Dh, listOf wh.toArray 0), (De, listOf we.toArray 0), (Do, listOf wo.toArray co), (Db, listOf wb.toArray cb)]))) := fun q hq => N45 q (sb_t2 hq)
      clear N45 N44 N43 N42 F38 F37 dva dvb dvc dvd hI8 hI9 rd
      -- the other side
      have hmails2 : (Dm, listOf (refs bl).toArray cm) ∈ t1' ++ (t2' ++ (bl ++ [(Dm, listOf (refs bl).toArray cm), (Dh, listOf wh.toArray 0), (De, listOf we.toArray 0), (Do, listOf wo.toArray co), (Db, listOf wb.toArray cb)])) := List.mem_append_right _ (List.mem_append_right _ (List.mem_append_right _ (.head _)))
      refine exRetE (goCmp (goComp (g := g) (L := L) (cl := []) (fun _ => true) (fun v y => ∃ a o l t, v = .ref a ∧ (a, o) ∈ t1' ++ (t2' ++ (bl ++ [(Dm, listOf (refs bl).toArray cm), (Dh, listOf wh.toArray 0), (De, listOf we.toArray 0), (Do, listOf wo.toArray co), (Db, listOf wb.toArray cb)])) ∧ LO (sv l) o ∧ y = .int ((unl (l.map (·.1)) : Nat) : Int) t) rfl (by decide) rfl (by decide) rfl ?_))
      refine Ev.go (evName F39 M15.1 (P := IsV (.ref Dm)) rfl) fun v tk54 hv => ?_
      subst hv
      refine readyList (s := { s with heap := h38, toks := tk54 }) (z := cm) H.hh F39 N46 hmails2 fun it h39 rd => ?_
      refine ⟨h39, tk54, _, _, _, _, _, rfl, rd, (fun q hq => by rw [List.mem_singleton.mp hq]; exact hmails2), (by rw [List.length_map]; omega), ?_, ?_, ?_⟩
      · intro C i v s3 m3 hC hP hns hm F3 N3
        exact ⟨wpAny_pure ⟨rfl, s3.heap, s3.toks, rfl, fun _ _ e => e⟩⟩
      · intro C i v s3 m3 hC hP _ hns hm F3 N3
        obtain ⟨pa, po, pl, rfl, hpm, hpo, hpB⟩ := hbl.at hP
        have hpm' : (pa, po) ∈ t1' ++ (t2' ++ (bl ++ [(Dm, listOf (refs bl).toArray cm), (Dh, listOf wh.toArray 0), (De, listOf we.toArray 0), (Do, listOf wo.toArray co), (Db, listOf wb.toArray cb)])) := List.mem_append_right _ (List.mem_append_right _ (List.mem_append_left _ hpm))
        refine callNameC H F3 rfl rfl (Ps := [IsV (.ref pa)]) ⟨evNameC hns hm rfl, rfl, trivial⟩ fun vs10 tk55 hv10 => ?_
        obtain ⟨v1, rfl, rfl⟩ := allV1 hv10
        have hil := hpo.isList N3 hpm'
        have h20 := h2000 _ hpB
        rw [List.length_map] at h20
        exact un_spec (s := { s3 with toks := tk55 }) hil h20 H F3 (R.le (by decide)) fun t h' tk g' => ⟨⟨pa, po, pl, t, rfl, hpm', hpo, rfl⟩, Keeps.of g'⟩
      · intro D10 h40 tk55 ys2 c10 vs10 hlen10 hP10 hF10 F40 N47 hne47
        have ev10 := vals_eq hlen10 hP10
        subst ev10
        rw [filter_all] at hF10
        have hI10 : IntsAre ys2 (BB.map fun l => (unl l : Int)) := paired_ints (T := fun l => (unl l : Int)) (led_uniq N46) (fun q hq => List.mem_append_right _ (List.mem_append_right _ (List.mem_append_left _ hq))) hbl hF10
        show Go w A _ _ { s with heap := h40, toks := tk55 }
        have N48 : News g L h40 (t1' ++ (t2' ++ ((D10, listOf ys2.toArray c10) :: (bl ++ [(Dm, listOf (refs bl).toArray cm), (Dh, listOf wh.toArray 0), (De, listOf we.toArray 0), (Do, listOf wo.toArray co), (Db, listOf wb.toArray cb)])))) := fun q hq => N47 q (sb_t1 hq)
        refine callName H F40 rfl rfl (Ps := [IsV (.ref Db), IsV (.ref Dh), IsI ((bdOf p : Nat) : Int), IsI (n : Int), IsI sg, IsI (-high)]) ⟨evName F40 M15.2.2.2.2.1 rfl, rfl, evName F40 M15.2.1 rfl, rfl, evName F40 M15.2.2.2.2.2.2.2.2.2.2.1 isI, rfl, evName F40 M15.2.2.2.2.2.2.2.2.1 isI, rfl, evName F40 M15.2.2.2.2.2.2.2.1 isI, rfl, evNeg (evName F40 M15.2.2.2.2.2.1 isI), rfl, trivial⟩ fun vs11 tk56 hv11 => ?_
        obtain ⟨v1, v2, v3, v4, v5, v6, rfl, rfl, rfl, ⟨tc3, rfl⟩, ⟨tc4, rfl⟩, ⟨tc5, rfl⟩, ⟨tc6, rfl⟩⟩ := allV6 hv11
        obtain ⟨dva, dvb, dvc, dvd⟩ := dv2
        have hhi2 : Builtin.Int.intBits (-high) ≤ 10 * n := by
          have := bits_sg (x := high) (sg := -1) (.inr rfl)
          rw [Int.neg_one_mul] at this
          rw [this]; exact hhi
        refine cnt_spec (s := { s with heap := h40, toks := tk56 }) (n := n) (bd := bdOf p) (os := begunOf k st) (us := eachOf k p) H F40 N48 T1 ((LS0.cons).off T1 N48) (R.le (by decide)) (.tail _ (List.mem_append_right _ (.tail _ (.tail _ (.tail _ (.tail _ (.head _))))))) (.tail _ (List.mem_append_right _ (.tail _ (.head _)))) hIb hIh' ob4 eb4 ob3 eb3 hn1 hn2 hbd hsg hhi2 dva dvb dvc fun D11 ws11 t1'' t2'' h41 tk57 F41 N49 T2 lt11 hI11 => ?_
        rw [dvd] at hI11
        refine ⟨eq_intsK (s := { s with heap := h41, toks := tk57 }) (News.isList N49 (.tail _ (List.mem_append_right _ (List.mem_append_right _ (.head _))))) hI10 (News.isList N49 (.head _)) hI11 (by have := R.2; omega) ?_⟩
        rw [decide_eq_true rfl]
        obtain ⟨ps1, hps1, _⟩ := T2.d.mem'
        obtain ⟨ps2, hps2, _⟩ := T2.i.mem'
        exact ⟨rfl, rfl, rfl, ⟨_, F41⟩, GrownAt.of N49 (.tail _ (List.mem_append_left _ hps1)), GrownAt.of N49 (.tail _ (List.mem_append_right _ (List.mem_append_left _ hps2)))⟩
end Mine
end

-- Fi
section
open PySem PySem.W PyProof.Rows PySem.Calls
set_option Elab.async false
set_option maxRecDepth 100000
set_option linter.all false
theorem Mine.roomCaller (env : Env) : Mine.Room (callerA.deeper env) 126 := ⟨by show 1 + claimMargin + 1 + 126 < 1000; decide, by show 4 + 3 + 8 * 126 < 9900; decide⟩
set_option maxHeartbeats 4000000 in
theorem PySem.Challenge.cw_ph0086_01_holds : PySem.Challenge.rw_ph0086_01.Holds := by
  refine Mine.hd ?_
  w_strict (k_go0; (all_goals try k_fold); refine wpAny_mono (Mine.law_go (ho := rfl) ⟨by assumption, ⟨_, _, _, _, _, by assumption⟩, ⟨_, _, _, by assumption, Around.frames_deeper rfl⟩, rfl, rfl, rfl⟩ (by assumption) rfl (by assumption) (Mine.roomCaller _) (by assumption) (by assumption) (by omega)).run (fun fl s' x => ?_) (fun _ _ x => x.elim); obtain ⟨rfl, hgn, hosn, ⟨m', F2⟩, g1, g2⟩ := x; exact ⟨goodW_bool F2 (hgn.trans (by assumption)) (fun _ => rfl) (by first | rfl | wrow_post | (refine' postW_of ?s ?v ?e; (case s => o_shape); (case v => wtm_val); (case e => w_fin))) hosn, g1, g2, True.intro⟩)
end
