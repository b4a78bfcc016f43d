import PyProof.Rows.All
import Wide.All
import OpenK.AllK
import Wide.FinOn
import Lean
import PySem.Challenge.RW_sw0009_01

set_option Elab.async false
set_option linter.all false

-- part Top
section
open PySem PySem.W PyProof.Rows
set_option Elab.async false
set_option maxRecDepth 100000
set_option maxHeartbeats 8000000
namespace Mine
open_top hd for PySem.Challenge.rw_sw0009_01
end Mine
end

-- part Rx
section
open PySem PySem.Calls PyProof.Rows PySem.Builtin.Re
set_option Elab.async false
set_option maxRecDepth 100000
namespace Mine
open Sre
theorem runFor_stop (m : M) (h : m.outcome.isSome = true) : ∀ n, M.runFor n m = m
  | 0 => rfl
  | n + 1 => by unfold M.runFor; rw [if_pos h]
theorem runFor_add (a b : Nat) : ∀ m : M, M.runFor (a + b) m = M.runFor b (M.runFor a m) := by
  induction a with
  | zero => intro m; rw [Nat.zero_add]; rfl
  | succ a ih =>
    intro m
    rw [Nat.succ_add]
    by_cases h : m.outcome.isSome = true
    · rw [runFor_stop m h, runFor_stop m h, runFor_stop m h]
    · show (if m.outcome.isSome = true then m else M.runFor (a + b) m.step) = M.runFor b (if m.outcome.isSome = true then m else M.runFor a m.step)
      rw [if_neg h, if_neg h, ih]

section
variable {M₀ : Model} {A : Around} {E : Value → Shared → Prop} {s : Shared}
theorem reDrive_wp {Q : Sre.M → Shared → Prop} : ∀ (T n : Nat) (m : Sre.M), n ≤ 4 * T → (M.runFor n m).outcome.isSome = true → 0 < T → Q (M.runFor n m) s → wpAny M₀ A (reDrive T m) Q E s
  | 0, _, _, _, _, h0, _ => absurd h0 (Nat.lt_irrefl _)
  | T + 1, n, m, hn, ho, _, hq => by
    show wpAny M₀ A (if (M.runFor reTurnSteps m).outcome.isSome = true then pure (M.runFor reTurnSteps m) else do rule "sre.turn"; reDrive T (M.runFor reTurnSteps m)) Q E s
    refine wpAny_ite ?_
    by_cases h4 : n ≤ 4
    · have e : M.runFor reTurnSteps m = M.runFor n m := by
        have : reTurnSteps = n + (4 - n) := by show 4 = _; omega
        rw [this, runFor_add, runFor_stop _ ho]
      rw [e, if_pos ho]
      exact wpAny_pure hq
    · have e : M.runFor n m = M.runFor (n - 4) (M.runFor reTurnSteps m) := by
        rw [← runFor_add]; congr 1; show n = 4 + (n - 4); omega
      split
      · rename_i h
        rw [e, runFor_stop _ h] at hq
        exact wpAny_pure hq
      · rw [e] at ho hq
        exact wpAny_bind (wpAny_rule (reDrive_wp T (n - 4) _ (by omega) ho (by omega) hq))

theorem noteRules_wp {Q : PUnit → Shared → Prop} (l : List Nat) (p : Nat → Bool) (tag : Nat → String) (h : Q ⟨⟩ s) :
    wpAny M₀ A (forIn l PUnit.unit (fun i (_ : PUnit) => if p i = true then (do rule (tag i); pure (ForInStep.yield PUnit.unit)) else pure (ForInStep.yield PUnit.unit))) Q E s := by
  refine wpAny_forIn_list _ (fun _ _ s' => s' = s) Q ?_ (fun _ s' e => by subst e; exact h) l _ rfl
  intro x rest b s' e
  subst e
  refine wpAny_ite ?_
  split
  · exact wpAny_bind (wpAny_rule (wpAny_pure rfl))
  · exact wpAny_pure rfl

theorem reRun_wp {Q : Option Sre.M → Shared → Prop} (n : Nat) (m : Sre.M) (hn : n ≤ 4 * 2 ^ 64) (ho : (M.runFor n m).outcome.isSome = true) (hstuck : ∀ why, (M.runFor n m).outcome ≠ some (.stuck why))
    (hq : Q (match (M.runFor n m).outcome with | some .matched => some (M.runFor n m) | _ => none) s) : wpAny M₀ A (reRunToEnd m) Q E s := by
  unfold reRunToEnd
  refine wpAny_bind (reDrive_wp _ n m hn ho (by decide) ?_)
  refine wpAny_bind ?_
  refine noteRules_wp (List.range Sre.names.size) (fun i => (M.runFor n m).seen.has i) (fun i => Sre.names.getD i "") ?_
  generalize M.runFor n m = m' at *
  cases h : m'.outcome with
  | none => rw [h] at ho; cases ho
  | some o =>
    rw [h] at hq
    cases o with
    | matched => exact wpAny_pure hq
    | failed => exact wpAny_pure hq
    | stuck why => exact absurd h (hstuck why)
end
end Mine
end

-- part Rx2
section
open PySem PySem.Calls PyProof.Rows PySem.Builtin.Re
set_option Elab.async false
set_option maxRecDepth 100000
namespace Mine
open Sre
def gap (text : Array Nat) (p b : Nat) : List Str := if p < b then [⟨text.extract p b⟩] else []
inductive Subs (code text : Array Nat) (repl : Str) : Nat → Bool → List Str → Prop
  | hit {p : Nat} {must : Bool} {b e n : Nat} {ps : List Str} : n ≤ 4 * 2 ^ 64 → (M.runFor n (forSearch code text 0 p text.size must)).outcome = some .matched →
      (M.runFor n (forSearch code text 0 p text.size must)).start = b → (M.runFor n (forSearch code text 0 p text.size must)).handed = e → Subs code text repl e (e == b) ps →
      Subs code text repl p must (gap text p b ++ repl :: ps)
  | miss {p : Nat} {must : Bool} {n : Nat} : n ≤ 4 * 2 ^ 64 → (M.runFor n (forSearch code text 0 p text.size must)).outcome = some .failed → Subs code text repl p must (gap text p text.size)

abbrev lstO (vals : List Value) (n : Nat) : Obj := { cls := .type "list", data := .seq vals.toArray n }
structure PatAt (h : Heap) (P : Addr) (code : Array Nat) : Prop where
  is : ∃ (fs : Array Value) (T : Addr) (ws : Array Value) (n : Nat) (d d' : Option Addr) (sl sl' : Array (Option Value)), h.get? P = some ⟨.type "re.Pattern", d, .fields fs, sl⟩ ∧ fs.getD 5 .none = .ref T ∧ reRawNat (fs.getD 2 .none) = 0 ∧ reRawNat (fs.getD 6 .none) = 0 ∧
    h.get? T = some ⟨.type "tuple", d', .seq ws n, sl'⟩ ∧ ((ws.map reRawOf).map (·.toNat)) = code
theorem PatAt.keeps {h h' : Heap} {P : Addr} {code : Array Nat} (x : PatAt h P code) (k : ∀ b o, h.get? b = some o → h'.get? b = some o) : PatAt h' P code := by
  obtain ⟨fs, T, ws, n, d, d', sl, sl', h1, h2, h3, h4, h5, h6⟩ := x.is
  exact ⟨fs, T, ws, n, d, d', sl, sl', k _ _ h1, h2, h3, h4, k _ _ h5, h6⟩

section
variable {M₀ : Model} {A : Around} {E : Value → Shared → Prop} {s : Shared}
theorem whole_wp {P : Addr} {code : Array Nat} {text : Str} {t : Tok} {Q : ReTarget → Shared → Prop} (hP : PatAt s.heap P code)
    (hq : Q { pattern := .ref P, string := .str text t, code := code, text := text.cps, kind := 0, groups := 0, pos := 0, lim := text.cps.size } s) : wpAny M₀ A (reWholeTarget (.ref P) (.str text t)) Q E s := by
  obtain ⟨fs, T, ws, n, d, d', sl, sl', h1, h2, h3, h4, h5, h6⟩ := hP.is
  unfold reWholeTarget
  refine wpAny_bind (wpAny_fieldsOf h1 rfl ?_)
  refine wpAny_bind (m := reTextOf (.str text t)) (wpAny_pure ?_)
  dsimp only
  rw [h4, h3, h2]
  show wpAny M₀ A (do
    reNoCollectionInside (.str text t) 0
    pure { pattern := .ref P, string := .str text t, code := (← reRawItems (.ref T)).map (·.toNat), text := text.cps, kind := 0, groups := 0, pos := 0, lim := text.cps.size }) Q E s
  refine wpAny_bind (m := reNoCollectionInside (.str text t) 0) (wpAny_pure ?_)
  refine wpAny_bind ?_
  unfold reRawItems
  refine wpAny_bind ?_
  unfold seqItems?
  refine wpAny_bind (wpAny_load h5 (wpAny_pure (wpAny_pure ?_)))
  show wpAny M₀ A (pure _) Q E s
  rw [show ((Option.getD (some ws) #[]).map reRawOf).map (·.toNat) = code from h6]
  exact wpAny_pure hq
theorem next_hit {t : ReTarget} {p n : Nat} {must : Bool} {Q : Option Sre.M → Shared → Prop} (hn : n ≤ 4 * 2 ^ 64) (ho : (M.runFor n (forSearch t.code t.text t.groups p t.lim must)).outcome = some .matched)
    (hq : Q (some (M.runFor n (forSearch t.code t.text t.groups p t.lim must))) s) : wpAny M₀ A (reNextFound t p must) Q E s := by
  refine reRun_wp n _ hn (by rw [ho]; rfl) (fun why e => by rw [ho] at e; cases e) ?_
  rw [ho]; exact hq
theorem next_miss {t : ReTarget} {p n : Nat} {must : Bool} {Q : Option Sre.M → Shared → Prop} (hn : n ≤ 4 * 2 ^ 64) (ho : (M.runFor n (forSearch t.code t.text t.groups p t.lim must)).outcome = some .failed)
    (hq : Q none s) : wpAny M₀ A (reNextFound t p must) Q E s := by
  refine reRun_wp n _ hn (by rw [ho]; rfl) (fun why e => by rw [ho] at e; cases e) ?_
  rw [ho]; exact hq
end

theorem slot_sub : Slot "re.Pattern" "sub" "re.Pattern.sub" :=
  .of (owner := "re.Pattern") (n := "sub") (by rw [typeLookup_type, builtinLookup_eq_fast]; kernel_rfl) (by decide +kernel) (by decide +kernel) (by decide +kernel)
    (by first | exact .inl (by decide +kernel) | exact .inr (by decide +kernel)) (by rw [isSubtype_type]; kernel_rfl)
theorem type_sub : typeOf (.builtin "re.Pattern.sub") = pure (.type "method_descriptor") := by show builtinType _ = _; rw [builtinType_eq_fast]; kernel_rfl
theorem entry_sub : entryFor table "re.Pattern.sub" = some Builtin.«re.Pattern.sub» := entryFor_of_tree (by kernel_rfl)
theorem entry_loop : entryFor table "re.Pattern.sub.loop" = some Builtin.«re.Pattern.sub.loop» := entryFor_of_tree (by kernel_rfl)
theorem plain_loop : plainId "re.Pattern.sub.loop" = true := by decide +kernel
theorem attrs_pattern : PlainAttrs "re.Pattern" := ⟨⟨"object.__getattribute__", by rw [typeLookup_type, builtinLookup_eq_fast]; kernel_rfl, by decide +kernel⟩, by rw [typeLookup_type, builtinLookup_eq_fast]; kernel_rfl⟩
theorem owner_pattern : Manifest.owners.lookup (String.ofList ['n', 'r', 'e', 't', 't', 'a', 'P', '.', 'e', 'r'].reverse) = some Manifest.sig_re_Pattern := by kernel_rfl
theorem args_sub (a b c : Value) : argsOk "re.Pattern.sub" ⟨[a, b, c], []⟩ := by
  unfold argsOk; rw [signature?_of (id := "re.Pattern.sub") (n := ['b', 'u', 's']) (o := ['n', 'r', 'e', 't', 't', 'a', 'P', '.', 'e', 'r']) (by kernel_rfl) owner_pattern]; kernel_rfl
theorem str_not_callable : typeLookup (.type "str") "__call__" = pure none := by rw [typeLookup_type, builtinLookup_eq_fast]; kernel_rfl
end Mine
end

-- part Rx3
section
open PySem PySem.Calls PyProof.Rows PySem.Builtin.Re
set_option Elab.async false
set_option maxRecDepth 100000
namespace Mine
open Sre
section
variable {prog : Program} {w : World} {A : Around} {E : Value → Shared → Prop} {s : Shared} {h₀ : Heap} {L : Addr} {m : Str → Option Value} {news : List (Addr × Obj)}
/-- one more piece onto the list at l -/
theorem piece_wp {l : Addr} {vals : List Value} {n : Nat} {v : Value} {Q : Unit → Shared → Prop} (F : Fr h₀ L s.heap m) (N : News h₀ L s.heap ((l, lstO vals n) :: news)) (hne : ∀ p ∈ news, p.1 ≠ l) (hz : vals.length < 10000)
    (hq : ∀ h', Fr h₀ L h' m → News h₀ L h' ((l, lstO (vals ++ [v]) (n + 1)) :: news) → Q () { s with heap := h' }) : wpAny (model prog w) A (updateSeq l (·.push v)) Q E s := by
  have z := N _ (.head _)
  have hs : Heap.SameBut l s.heap (s.heap.update l (Obj.mapSeq (·.push v))) := Heap.SameBut.update ..
  have e : Obj.mapSeq (·.push v) (lstO vals n) = lstO (vals ++ [v]) (n + 1) := by
    simp [Obj.mapSeq, lstO]
  have ge : (s.heap.update l (Obj.mapSeq (·.push v))).get? l = some (lstO (vals ++ [v]) (n + 1)) := by
    rw [Heap.get?_update_self _ z.1 (by rw [e]; rfl), e]
  refine wpAny_updateSeq z.1 rfl (hq _ (F.change hs z.2.1 z.2.2) ?_) (by rw [List.size_toArray]; have : sizeLine = 16777216 := by decide
                                                                         omega) (by simp; have : sizeLine = 16777216 := by decide
                                                                                    omega)
  exact W.news_set (pre := []) N (fun _ h => nomatch h) hne hs ge

theorem slice_wp {text : Array Nat} {b e : Nat} {Q : Value → Shared → Prop} (hz : text.size ≤ 10000) (hq : Q (.str ⟨text.extract b e⟩ s.toks) { s with toks := s.toks + 1 }) : wpAny (model prog w) A (reSlice text 0 b e) Q E s := by
  refine wpAny_mkStr hq ?_
  show (text.extract b e).size ≤ sizeLine
  have h1 : (text.extract b e).size ≤ text.size := by simp; omega
  have : sizeLine = 16777216 := by decide
  omega

/-- the pieces' list grown by a gap, and on -/
theorem gap_wp {α : Type} {l : Addr} {vs : List (Str × Tok)} {n p b : Nat} {text : Array Nat} {kk : Sem α} {Q : α → Shared → Prop} (F : Fr h₀ L s.heap m) (N : News h₀ L s.heap ((l, lstO (strValues vs) n) :: news)) (hne : ∀ p ∈ news, p.1 ≠ l) (hz : vs.length < 10000) (hz2 : text.size ≤ 10000)
    (hq : ∀ h' tk vs' n', Fr h₀ L h' m → News h₀ L h' ((l, lstO (strValues vs') n') :: news) → vs'.map (·.1) = vs.map (·.1) ++ gap text p b → wpAny (model prog w) A kk Q E { s with heap := h', toks := tk }) :
    wpAny (model prog w) A (if p < b then (do let v ← reSlice text 0 p b; updateSeq l (fun x => x.push v); kk) else kk) Q E s := by
  refine wpAny_ite ?_
  split
  · rename_i h
    refine wpAny_bind (slice_wp hz2 (wpAny_bind ?_))
    refine piece_wp F N hne (by simpa [strValues] using hz) fun h' F' N' => hq h' _ (vs ++ [(⟨text.extract p b⟩, s.toks)]) (n + 1) F' ?_ ?_
    · simpa [strValues] using N'
    · simp [gap, h]
  · rename_i h
    exact hq s.heap s.toks vs n F N (by simp [gap, h])

theorem foldl_len (sep : Str) (hs : sep.length = 0) : ∀ (l : List Str) (a : Nat), l.foldl (· + ·.length + sep.length) a = a + (l.map (·.length)).sum
  | [], a => by simp
  | x :: r, a => by simp only [List.foldl_cons, List.map_cons, List.sum_cons]; rw [foldl_len sep hs r]; omega
theorem joinOk_of (l : List Str) (h : (l.map (·.length)).sum < 9000000) : JoinOk ⟨#[]⟩ l = true := by
  unfold JoinOk
  rw [List.foldl_toArray, foldl_len _ rfl]
  have : Builtin.Str.tooLong (0 + (l.map (·.length)).sum) = false := by
    unfold Builtin.Str.tooLong
    simp
    have : sizeLine = 16777216 := by decide
    omega
  rw [this]; rfl

/-- the loop's end: the pieces are joined -/
theorem ends_wp {l : Addr} {vs : List (Str × Tok)} {n' : Nat} {text : Array Nat} {k : Int} {R : Result → Shared → Prop} {A A' : Around} (F : Fr h₀ L s.heap m) (N : News h₀ L s.heap ((l, lstO (strValues vs) n') :: news)) (hz2 : text.size ≤ 10000) (hnil : vs ≠ [])
    (hsum : ((vs.map (·.1)).map (·.length)).sum < 9000000)
    (hq : ∀ h' tk t, Fr h₀ L h' m → News h₀ L h' news → R (.ok (.ret (.str (Txt.join ⟨#[]⟩ (vs.map (·.1))) t))) { s with heap := h', toks := tk }) :
    wpAny (model prog w) A (do
      let joiner ← reSlice text 0 0 0
      let got ← seqItems? (Value.ref l)
      if (got.getD #[]).isEmpty = true then do
          let text ← pure joiner
          if false = true then do
              let __do_lift ←
                holding [text] do
                    let __do_lift ← mkInt k
                    newTuple [text, __do_lift]
              ret __do_lift
            else ret text
        else do
          let text ← call (Value.builtin (if (0 == 0) = true then "str.join" else "bytes.join")) [joiner, Value.ref l]
          if false = true then do
              let __do_lift ←
                holding [text] do
                    let __do_lift ← mkInt k
                    newTuple [text, __do_lift]
              ret __do_lift
            else ret text) (fun fin s' =>
      match fin with
      | Fin.done f => R (Except.ok f) s'
      | Fin.again c' => c'.quiet = true ∧ codeAny (model prog w) A' c' R s') E s := by
  refine wpAny_bind (slice_wp hz2 ?_)
  have e0 : (⟨text.extract 0 0⟩ : Str) = ⟨#[]⟩ := by simp
  rw [e0]
  refine wpAny_bind ?_
  unfold seqItems?
  have z := N _ (.head _)
  refine wpAny_bind (wpAny_load (o := lstO (strValues vs) n') z.1 (wpAny_pure ?_))
  refine wpAny_ite ?_
  have hne : ¬ ((some (strValues vs).toArray).getD #[]).isEmpty = true := by
    simp [strValues, hnil]
  rw [if_neg hne]
  refine wpAny_bind ?_
  have hl : Heap.IsList s.heap l (strValues vs).toArray := ⟨_, z.1, rfl, n', rfl⟩
  refine SC.join hl rfl (joinOk_of _ hsum) (fun t' k' => ?_)
  refine wpAny_ite ?_
  rw [if_neg Bool.false_ne_true]
  refine wpAny_pure ?_
  exact hq s.heap k' t' F fun p hp => N p (.tail _ hp)

theorem subs_wp {code : Array Nat} {text repl : Str} {t1 t2 : Tok} {P l : Addr} {R : Result → Shared → Prop} (hP : PatAt h₀ P code) (hz2 : text.cps.size ≤ 10000) (hne : ∀ p ∈ news, p.1 ≠ l)
    {p : Nat} {must : Bool} {ps : List Str} (S : Subs code text.cps repl p must ps) :
    ∀ (s : Shared) (vs : List (Str × Tok)) (n : Nat) (k : Int), Fr h₀ L s.heap m → News h₀ L s.heap ((l, lstO (strValues vs) n) :: news) → vs.length + ps.length < 9000 → ((vs.map (·.1) ++ ps).map (·.length)).sum < 9000000 → vs.map (·.1) ++ ps ≠ [] →
      (∀ h' tk t, Fr h₀ L h' m → News h₀ L h' news → R (.ok (.ret (.str (Txt.join ⟨#[]⟩ (vs.map (·.1) ++ ps)) t))) { s with heap := h', toks := tk }) →
      codeAny (model prog w) A (.builtin "re.Pattern.sub.loop" ⟨[.ref P, .str text t1, .str repl t2, rawInt 0, rawInt 0, rawInt k, rawInt p, rawInt p, .bool must, .ref l, .bool false], []⟩) R s := by
  induction S with
  | @hit p must b e n ps hn ho hb he S ih =>
    intro s vs n' k F N hl hsum hnil hq
    refine codeAny_builtin entry_loop ?_
    unfold Builtin.«re.Pattern.sub.loop»
    dsimp only [rawInt]
    refine wpAny_bind (whole_wp (hP.keeps F.keep) ?_)
    dsimp only
    refine wpAny_bind (m := if ((0 : Int) == 0) = true then reLiteralCannotBeTurned (.str repl t2) else pure ()) (wpAny_pure ?_)
    refine wpAny_bind ?_
    show wpAny _ _ (reNextFound _ p must) _ _ s
    refine next_hit (n := n) hn ho ?_
    dsimp only
    rw [hb, he]
    simp only [List.length_append, List.length_cons] at hl
    refine gap_wp (p := p) (b := b) F N hne (by omega) hz2 fun h' tk vs' n'' F' N' hv => ?_
    have hlen : vs'.length = vs.length + (gap text.cps p b).length := by
      have := congrArg List.length hv; simpa using this
    refine wpAny_ite ?_
    rw [if_pos (show ((0 : Int) == 0) = true from rfl)]
    refine wpAny_bind (wpAny_pure ?_)
    refine wpAny_ite ?_
    have hv0 : (Value.str repl t2 != Value.none) = true := by
      rw [bne_iff_ne]; exact fun e => nomatch e
    rw [if_pos hv0]
    refine wpAny_bind (piece_wp F' N' hne (by simp [strValues]; omega) fun h2 F2 N2 => ?_)
    refine wpAny_pure ⟨plainId_quiet plain_loop _, ?_⟩
    have hv2 : (vs' ++ [(repl, t2)]).map (·.1) ++ ps = vs.map (·.1) ++ (gap text.cps p b ++ repl :: ps) := by
      rw [List.map_append, hv]; simp
    refine ih { s with heap := h2, toks := tk } (vs' ++ [(repl, t2)]) _ (k + 1) F2 (by simpa [strValues] using N2) (by simp; omega) (by rw [hv2]; exact hsum) (by rw [hv2]; exact hnil) ?_
    rw [hv2]
    exact hq
  | @miss p must n hn ho =>
    intro s vs n' k F N hl hsum hnil hq
    refine codeAny_builtin entry_loop ?_
    unfold Builtin.«re.Pattern.sub.loop»
    dsimp only [rawInt]
    refine wpAny_bind (whole_wp (hP.keeps F.keep) ?_)
    dsimp only
    refine wpAny_bind (m := if ((0 : Int) == 0) = true then reLiteralCannotBeTurned (.str repl t2) else pure ()) (wpAny_pure ?_)
    refine wpAny_bind ?_
    show wpAny _ _ (reNextFound _ p must) _ _ s
    refine next_miss (n := n) hn ho ?_
    dsimp only
    refine gap_wp (p := p) (b := text.cps.size) F N hne (by omega) hz2 fun h' tk vs' n'' F' N' hv => ?_
    rw [← hv] at hsum hnil hq
    exact ends_wp (s := { s with heap := h', toks := tk }) F' N' hz2 (by rintro rfl; exact hnil rfl) hsum hq

theorem named_sub (a b : Value) : reNamed "re.Pattern.sub" "sub" ["repl", "string", "count"] 2 [a, b] [] = pure [some a, some b, none] := rfl

/-- P.sub(repl, text), a written repl without a backslash -/
theorem sub_wp {code : Array Nat} {text repl : Str} {t1 t2 : Tok} {P : Addr} {Q : Value → Shared → Prop} {ps : List Str} (F : Fr h₀ L s.heap m) (N : News h₀ L s.heap news) (hP : PatAt h₀ P code) (hz2 : text.cps.size ≤ 10000) (hr : repl.cps.contains 92 = false)
    (S : Subs code text.cps repl 0 false ps) (hl : ps.length < 9000) (hsum : (ps.map (·.length)).sum < 9000000) (hnil : ps ≠ [])
    (hq : ∀ h' tk t, Fr h₀ L h' m → News h₀ L h' news → Q (.str (Txt.join ⟨#[]⟩ ps) t) { s with heap := h', toks := tk }) :
    wpAny (model prog w) A (call (.builtin "re.Pattern.sub") [.ref P, .str repl t2, .str text t1]) Q E s := by
  obtain ⟨fs, T, ws, n, d, d', sl, sl', h1, _⟩ := (hP.keeps F.keep).is
  have hT : s.TypeIs (.ref P) "re.Pattern" := ⟨_, h1, rfl⟩
  refine wpAny_call (codeAny_call_builtin slot_sub.plain entry_sub (slot_sub.check _ _ _ _ _ _ _ _ hT (args_sub _ _ _) ?_))
  unfold Builtin.«re.Pattern.sub» reSubstitute
  dsimp only
  rw [named_sub]
  refine wpAny_bind (wpAny_pure ?_)
  dsimp only
  refine wpAny_bind (wpAny_pure ?_)
  refine wpAny_bind (wpAny_specialOf (T := "str") (by show typeOf (.str _ _) = _; rfl) str_not_callable ?_)
  refine wpAny_ite ?_
  rw [if_neg (show ¬ (none : Option Value).isSome = true from fun e => nomatch e)]
  refine wpAny_bind (m := asStr? (.str repl t2)) (wpAny_pure ?_)
  dsimp only
  refine wpAny_bind (wpAny_pure ?_)
  refine wpAny_ite ?_
  rw [if_neg (show ¬ (none : Option Value).isSome = true from fun e => nomatch e)]
  refine wpAny_ite ?_
  rw [hr, if_pos (show (!false) = true from rfl)]
  refine wpAny_bind (wpAny_pure ?_)
  dsimp only
  refine wpAny_bind (wpAny_holding (whole_wp (hP.keeps F.keep) ?_))
  refine wpAny_ite ?_
  rw [if_neg (show ¬ ((0 : Int) == 1) = true from fun e => nomatch e)]
  refine wpAny_bind ?_
  refine newList_N F N fun h' F' N' => ?_
  refine wpAny_pure ⟨plainId_quiet plain_loop _, ?_⟩
  refine subs_wp (news := news) (h₀ := h₀) (L := L) (m := m) hP hz2 (fun p hp => ?_) S { s with heap := h' } [] 0 0 F' N' (by simpa using hl) (by simpa using hsum) (by simpa using hnil) (fun h'' tk t F'' N'' => ?_)
  · exact Nat.ne_of_lt (Heap.lt_size (N p hp).1)
  · exact hq h'' tk t F'' N''
end
end Mine
end

-- part Rx4
section
open PySem PySem.Calls PyProof.Rows PySem.Builtin.Re
set_option Elab.async false
set_option maxRecDepth 100000
namespace Mine
open Sre
def code1 : Array Nat := #[14, 4, 0, 1, 1, 6, 1, 16, 46, 1]
def code2 : Array Nat := #[14, 9, 4, 1, 2, 16, 10, 16, 13, 0, 7, 7, 16, 13, 16, 10, 15, 18, 5, 16, 10, 15, 13, 11, 16, 13, 5, 5, 0, 16, 10, 1, 15, 2, 0, 1]
/-- an attempt at s -/
def at1 (text : Array Nat) (s : Nat) (must first : Bool) (σ : Sre.Seen) : Sre.M :=
  { code := code1, text, lim := text.size, start := s, lastStart := text.size, wholeText := false, mustAdvance := must, pc := 5, pos := s, handed := s, outermost := first, marks := #[], lastmark := -1, lastindex := -1, loops := #[], inner := none,
    frames := [{ wait := .nextStart, pc := 5, pos := s, outermost := first }], weight := 1, answer := none, seen := σ, outcome := none }
def first1 (text : Array Nat) (s : Nat) : Bool := s == 0 || text.getD (s - 1) 0 == 10
theorem runFor_succ (n : Nat) (m : Sre.M) (h : m.outcome = none) : M.runFor (n + 1) m = M.runFor n m.step := by
  show (if m.outcome.isSome = true then m else M.runFor n m.step) = _
  rw [h]; rfl
theorem runFor_one (m : Sre.M) (h : m.outcome = none) : M.runFor 1 m = m.step := runFor_succ 0 m h
theorem at1_step (text : Array Nat) (s : Nat) (must first : Bool) (σ : Sre.Seen) : M.step (at1 text s must first σ) =
    if first1 text s = true then { at1 text s must first ((σ.add 6).add 44) with pc := 7 } else { at1 text s must first ((σ.add 6).add 44) with answer := some false } := rfl
theorem at1_lit (text : Array Nat) (s : Nat) (must first : Bool) (σ : Sre.Seen) (hs : s < text.size) : M.step { at1 text s must first σ with pc := 7 } =
    if (text.getD s 0 == 46) = true then { at1 text s must first (σ.add 16) with pc := 9, pos := s + 1 } else { at1 text s must first (σ.add 16) with pc := 7, answer := some false } := by
  have hs' : ¬ (text.size ≤ s) := by omega
  cases hb : (text.getD s 0 == 46) <;> rw [Array.getD_eq_getD_getElem?] at hb <;> simp [M.step, M.exec, at1, M.word, code1, ops, accepts, itemWidth, M.say, hs', hb, -beq_eq_false_iff_ne, -beq_iff_eq]
theorem at1_litEnd (text : Array Nat) (s : Nat) (must first : Bool) (σ : Sre.Seen) (hs : ¬ s < text.size) : M.step { at1 text s must first σ with pc := 7 } = { at1 text s must first (σ.add 16) with pc := 7, answer := some false } := by
  have hs' : (text.size ≤ s) := by omega
  simp [M.step, M.exec, at1, M.word, code1, ops, M.say, hs']
theorem at1_back (text : Array Nat) (s pc : Nat) (must first : Bool) (σ : Sre.Seen) (hs : s < text.size) : M.step { at1 text s must first σ with pc := pc, answer := some false } = at1 text (s + 1) false false σ := by
  have e : M.step { at1 text s must first σ with pc := pc, answer := some false } = if s < text.size then at1 text (s + 1) false false σ else
    M.say { at1 text s must first σ with frames := [], weight := 0 } false := rfl
  rw [e, if_pos hs]
theorem at1_out (text : Array Nat) (s pc : Nat) (must first : Bool) (σ : Sre.Seen) (hs : ¬ s < text.size) : M.step { at1 text s must first σ with pc := pc, answer := some false } = { at1 text s must first σ with frames := [], weight := 0, answer := some false } := by
  have e : M.step { at1 text s must first σ with pc := pc, answer := some false } = if s < text.size then at1 text (s + 1) false false σ else
    { at1 text s must first σ with frames := [], weight := 0, answer := some false } := rfl
  rw [e, if_neg hs]
def find1 (text : Array Nat) : Nat → Nat → Option Nat
  | 0, _ => none
  | n + 1, s => if first1 text s && text.getD s 0 == 46 then some s else find1 text n (s + 1)
/-- what a search from s comes to -/
def Ends1 (m : Sre.M) (bound : Nat) : Option Nat → Prop
  | some b => ∃ k, k ≤ bound ∧ (M.runFor k m).outcome = some .matched ∧ (M.runFor k m).start = b ∧ (M.runFor k m).handed = b + 1
  | none => ∃ k, k ≤ bound ∧ (M.runFor k m).outcome = some .failed
theorem Ends1.more {m m' : Sre.M} {r : Option Nat} {b : Nat} (j : Nat) (e : M.runFor j m = m') (h : Ends1 m' b r) : Ends1 m (j + b) r := by
  subst e
  cases r with
  | none => obtain ⟨k, hk, ho⟩ := h; exact ⟨j + k, by omega, by rw [runFor_add]; exact ho⟩
  | some x => obtain ⟨k, hk, ho, h2, h3⟩ := h; exact ⟨j + k, by omega, by rw [runFor_add]; exact ho, by rw [runFor_add]; exact h2, by rw [runFor_add]; exact h3⟩
theorem Ends1.le {m : Sre.M} {r : Option Nat} {b b' : Nat} (h : Ends1 m b r) (hb : b ≤ b') : Ends1 m b' r := by
  cases r with
  | none => obtain ⟨k, hk, ho⟩ := h; exact ⟨k, by omega, ho⟩
  | some x => obtain ⟨k, hk, ho⟩ := h; exact ⟨k, by omega, ho⟩
theorem at1_ends (text : Array Nat) : ∀ (n s : Nat) (must first : Bool) (σ : Sre.Seen), s + n = text.size → Ends1 (at1 text s must first σ) (3 * n + 10) (find1 text n s)
  | 0, s, must, first, σ, hn => by
    have hs : ¬ s < text.size := by omega
    refine ⟨4, by omega, ?_⟩
    rw [runFor_succ _ _ rfl, at1_step]
    split
    · rw [runFor_succ _ _ rfl, at1_litEnd _ _ _ _ _ hs, runFor_succ _ _ rfl, at1_out _ _ _ _ _ _ hs, runFor_one _ rfl]; rfl
    · rw [runFor_succ _ _ rfl]
      rw [show ({ at1 text s must first ((σ.add 6).add 44) with answer := some false } : Sre.M) = { at1 text s must first ((σ.add 6).add 44) with pc := 5, answer := some false } from rfl, at1_out _ _ _ _ _ _ hs, runFor_succ _ _ rfl]; rfl
  | n + 1, s, must, first, σ, hn => by
    have hs : s < text.size := by omega
    unfold find1
    cases hf : first1 text s with
    | false =>
      have e := at1_step text s must first σ
      rw [hf] at e
      have e2 : M.runFor 2 (at1 text s must first σ) = at1 text (s + 1) false false ((σ.add 6).add 44) := by
        rw [runFor_succ _ _ rfl, e, runFor_one _ rfl]
        exact at1_back text s 5 must first _ hs
      exact (Ends1.more 2 e2 (at1_ends text n (s + 1) false false _ (by omega))).le (by omega)
    | true =>
      have e := at1_step text s must first σ
      rw [hf] at e
      cases hd : (text.getD s 0 == 46) with
      | false =>
        have e2 : M.runFor 3 (at1 text s must first σ) = at1 text (s + 1) false false (((σ.add 6).add 44).add 16) := by
          rw [runFor_succ _ _ rfl, e, if_pos rfl, runFor_succ _ _ rfl, at1_lit _ _ _ _ _ hs, hd, runFor_one _ rfl]
          exact at1_back text s 7 must first _ hs
        exact (Ends1.more 3 e2 (at1_ends text n (s + 1) false false _ (by omega))).le (by omega)
      | true =>
        have e2 : M.runFor 5 (at1 text s must first σ) = { at1 text s must first ((((σ.add 6).add 44).add 16).add 1) with handed := s + 1, frames := [], weight := 0, answer := some true, outcome := some .matched } := by
          have e3 : M.step { at1 text s must first (((σ.add 6).add 44).add 16) with pc := 9, pos := s + 1 } = { at1 text s must first ((((σ.add 6).add 44).add 16).add 1) with handed := s + 1, pc := 9, pos := s + 1, answer := some true } := by
            simp [M.step, M.exec, at1, M.word, code1, ops, M.say]
          rw [runFor_succ _ _ rfl, e, if_pos rfl, runFor_succ _ _ rfl, at1_lit _ _ _ _ _ hs, hd, if_pos rfl, runFor_succ _ _ rfl, e3, runFor_succ _ _ rfl, runFor_one _ rfl]
          rfl
        exact ⟨5, by omega, by rw [e2], by rw [e2]; rfl, by rw [e2]⟩
theorem search1 (text : Array Nat) (p : Nat) (must : Bool) (hp : p ≤ text.size) : Ends1 (forSearch code1 text 0 p text.size must) (3 * text.size + 20) (find1 text (text.size - p) p) := by
  by_cases h : p < text.size
  · have e : forSearch code1 text 0 p text.size must = at1 text p must true (({} : Sre.Seen).add 14) := by
      have e : forSearch code1 text 0 p text.size must = if (decide (p > text.size) || decide (text.size - p < 1)) = true then _ else at1 text p must true (({} : Sre.Seen).add 14) := rfl
      rw [e, if_neg (by simp; omega)]
    rw [e]
    exact (at1_ends text (text.size - p) p must true _ (by omega)).le (by omega)
  · have e : forSearch code1 text 0 p text.size must = { at1 text p must true (({} : Sre.Seen).add 14) with lastStart := 0, outermost := true, frames := [], weight := 0, answer := some false } := by
      have e : forSearch code1 text 0 p text.size must = if (decide (p > text.size) || decide (text.size - p < 1)) = true then { at1 text p must true (({} : Sre.Seen).add 14) with lastStart := 0, outermost := true, frames := [], weight := 0, answer := some false } else at1 text p must true (({} : Sre.Seen).add 14) := rfl
      rw [e, if_pos (by simp; omega)]
    rw [e, show text.size - p = 0 by omega]
    exact ⟨1, by omega, by rw [runFor_one _ rfl]; rfl⟩
end Mine
end

-- part Rx5
section
open PySem PySem.Calls PyProof.Rows PySem.Builtin.Re
set_option Elab.async false
set_option maxRecDepth 100000
set_option linter.unusedSimpArgs false
set_option linter.unusedVariables false
namespace Mine
open Sre
/-- code2's machine, an attempt at s under way -/
def st2 (text : Array Nat) (s pc pos handed : Nat) (outer : Bool) (frames : List Sre.Frame) (weight : Nat) (answer : Option Bool) (σ : Sre.Seen) : Sre.M :=
  { code := code2, text, lim := text.size, start := s, lastStart := text.size, wholeText := false, mustAdvance := false, pc, pos, handed, outermost := outer, marks := #[], lastmark := -1, lastindex := -1, loops := #[], inner := none,
    frames, weight, answer, seen := σ, outcome := none }
section
variable (text : Array Nat) (s pos handed : Nat) (outer : Bool) (frames : List Sre.Frame) (weight : Nat) (σ : Sre.Seen)
theorem lit2_12_yes (hp : pos < text.size) (hc : text[pos]?.getD 0 = 13) : M.step (st2 text s 12 pos handed outer frames weight none σ) = st2 text s 14 (pos + 1) handed outer frames weight none (σ.add 16) := by
  have hp' : ¬ (text.size ≤ pos) := by omega
  simp [M.step, M.exec, st2, M.word, code2, ops, accepts, itemWidth, M.say, hp', hc]
theorem lit2_12_no (hc : pos < text.size → text[pos]?.getD 0 ≠ 13) : M.step (st2 text s 12 pos handed outer frames weight none σ) = st2 text s 12 pos handed outer frames weight (some false) (σ.add 16) := by
  by_cases hp : pos < text.size
  · have hp' : ¬ (text.size ≤ pos) := by omega
    have hc' : (text[pos]?.getD 0 == 13) = false := by simpa using hc hp
    simp [M.step, M.exec, st2, M.word, code2, ops, accepts, itemWidth, M.say, hp', hc', -beq_eq_false_iff_ne, -beq_iff_eq]
  · have hp' : (text.size ≤ pos) := by omega
    simp [M.step, M.exec, st2, M.word, code2, ops, accepts, itemWidth, M.say, hp']
theorem lit2_14_yes (hp : pos < text.size) (hc : text[pos]?.getD 0 = 10) : M.step (st2 text s 14 pos handed outer frames weight none σ) = st2 text s 16 (pos + 1) handed outer frames weight none (σ.add 16) := by
  have hp' : ¬ (text.size ≤ pos) := by omega
  simp [M.step, M.exec, st2, M.word, code2, ops, accepts, itemWidth, M.say, hp', hc]
theorem lit2_14_no (hc : pos < text.size → text[pos]?.getD 0 ≠ 10) : M.step (st2 text s 14 pos handed outer frames weight none σ) = st2 text s 14 pos handed outer frames weight (some false) (σ.add 16) := by
  by_cases hp : pos < text.size
  · have hp' : ¬ (text.size ≤ pos) := by omega
    have hc' : (text[pos]?.getD 0 == 10) = false := by simpa using hc hp
    simp [M.step, M.exec, st2, M.word, code2, ops, accepts, itemWidth, M.say, hp', hc', -beq_eq_false_iff_ne, -beq_iff_eq]
  · have hp' : (text.size ≤ pos) := by omega
    simp [M.step, M.exec, st2, M.word, code2, ops, accepts, itemWidth, M.say, hp']
theorem lit2_19_yes (hp : pos < text.size) (hc : text[pos]?.getD 0 = 10) : M.step (st2 text s 19 pos handed outer frames weight none σ) = st2 text s 21 (pos + 1) handed outer frames weight none (σ.add 16) := by
  have hp' : ¬ (text.size ≤ pos) := by omega
  simp [M.step, M.exec, st2, M.word, code2, ops, accepts, itemWidth, M.say, hp', hc]
theorem lit2_19_no (hc : pos < text.size → text[pos]?.getD 0 ≠ 10) : M.step (st2 text s 19 pos handed outer frames weight none σ) = st2 text s 19 pos handed outer frames weight (some false) (σ.add 16) := by
  by_cases hp : pos < text.size
  · have hp' : ¬ (text.size ≤ pos) := by omega
    have hc' : (text[pos]?.getD 0 == 10) = false := by simpa using hc hp
    simp [M.step, M.exec, st2, M.word, code2, ops, accepts, itemWidth, M.say, hp', hc', -beq_eq_false_iff_ne, -beq_iff_eq]
  · have hp' : (text.size ≤ pos) := by omega
    simp [M.step, M.exec, st2, M.word, code2, ops, accepts, itemWidth, M.say, hp']
theorem lit2_24_yes (hp : pos < text.size) (hc : text[pos]?.getD 0 = 13) : M.step (st2 text s 24 pos handed outer frames weight none σ) = st2 text s 26 (pos + 1) handed outer frames weight none (σ.add 16) := by
  have hp' : ¬ (text.size ≤ pos) := by omega
  simp [M.step, M.exec, st2, M.word, code2, ops, accepts, itemWidth, M.say, hp', hc]
theorem lit2_24_no (hc : pos < text.size → text[pos]?.getD 0 ≠ 13) : M.step (st2 text s 24 pos handed outer frames weight none σ) = st2 text s 24 pos handed outer frames weight (some false) (σ.add 16) := by
  by_cases hp : pos < text.size
  · have hp' : ¬ (text.size ≤ pos) := by omega
    have hc' : (text[pos]?.getD 0 == 13) = false := by simpa using hc hp
    simp [M.step, M.exec, st2, M.word, code2, ops, accepts, itemWidth, M.say, hp', hc', -beq_eq_false_iff_ne, -beq_iff_eq]
  · have hp' : (text.size ≤ pos) := by omega
    simp [M.step, M.exec, st2, M.word, code2, ops, accepts, itemWidth, M.say, hp']
theorem lit2_29_yes (hp : pos < text.size) (hc : text[pos]?.getD 0 = 10) : M.step (st2 text s 29 pos handed outer frames weight none σ) = st2 text s 31 (pos + 1) handed outer frames weight none (σ.add 16) := by
  have hp' : ¬ (text.size ≤ pos) := by omega
  simp [M.step, M.exec, st2, M.word, code2, ops, accepts, itemWidth, M.say, hp', hc]
theorem lit2_29_no (hc : pos < text.size → text[pos]?.getD 0 ≠ 10) : M.step (st2 text s 29 pos handed outer frames weight none σ) = st2 text s 29 pos handed outer frames weight (some false) (σ.add 16) := by
  by_cases hp : pos < text.size
  · have hp' : ¬ (text.size ≤ pos) := by omega
    have hc' : (text[pos]?.getD 0 == 10) = false := by simpa using hc hp
    simp [M.step, M.exec, st2, M.word, code2, ops, accepts, itemWidth, M.say, hp', hc', -beq_eq_false_iff_ne, -beq_iff_eq]
  · have hp' : (text.size ≤ pos) := by omega
    simp [M.step, M.exec, st2, M.word, code2, ops, accepts, itemWidth, M.say, hp']
theorem jump2_16 : M.step (st2 text s 16 pos handed outer frames weight none σ) = st2 text s 35 pos handed outer frames weight none (σ.add 15) := by
  simp [M.step, M.exec, st2, M.word, code2, ops]
theorem jump2_21 : M.step (st2 text s 21 pos handed outer frames weight none σ) = st2 text s 35 pos handed outer frames weight none (σ.add 15) := by
  simp [M.step, M.exec, st2, M.word, code2, ops]
theorem jump2_32 : M.step (st2 text s 32 pos handed outer frames weight none σ) = st2 text s 35 pos handed outer frames weight none (σ.add 15) := by
  simp [M.step, M.exec, st2, M.word, code2, ops]
theorem succ2 : M.step (st2 text s 35 pos handed outer frames weight none σ) = st2 text s 35 pos pos outer frames weight (some true) (σ.add 1) := by
  simp [M.step, M.exec, st2, M.word, code2, ops, M.say]
def nb (pc pos : Nat) (outer : Bool) : Sre.Frame := { wait := .nextBranch, pc, pos, outermost := outer, kept := { lastmark := -1, lastindex := -1, whole := false, marks := #[] } }
def ns (s : Nat) (first : Bool) : Sre.Frame := { wait := .nextStart, pc := 10, pos := s, outermost := first }
def ln (pos : Nat) (outer : Bool) : Sre.Frame := { wait := .lookNot, pc := 26, pos, outermost := outer, kept := { lastmark := -1, lastindex := -1, whole := false, marks := #[] } }
theorem branch2 (hw : weight < 1000) : M.step (st2 text s 10 pos handed outer frames weight none σ) = st2 text s 12 pos pos outer (nb 11 pos outer :: frames) (weight + 1) none (σ.add 7) := by
  have hw' : ¬ (16777216 < weight + 1) := by omega
  simp [M.step, M.exec, st2, M.word, code2, ops, M.alternative, M.attempt, M.frame, M.keep, nb, hw']
theorem assert2 (hw : weight < 1000) : M.step (st2 text s 26 pos handed outer frames weight none σ) = st2 text s 29 pos pos false (ln pos outer :: frames) (weight + 1) none (σ.add 5) := by
  have hw' : ¬ (16777216 < weight + 1) := by omega
  simp [M.step, M.exec, st2, M.word, code2, ops, M.attempt, M.frame, M.keep, ln, hw']
theorem backLook (pc pos' : Nat) (o' : Bool) : M.step (st2 text s pc pos' handed o' (ln pos outer :: frames) (weight + 1) (some false) σ) = st2 text s 32 pos handed outer frames weight none σ := by
  simp [M.step, M.resume, st2, M.word, code2, M.putBack, ln]
theorem backBranch11 (hw : weight < 1000) (pc pos' : Nat) (o' : Bool) : M.step (st2 text s pc pos' handed o' (nb 11 pos outer :: frames) (weight + 1) (some false) σ) = st2 text s 19 pos pos outer (nb 18 pos outer :: frames) (weight + 1) none σ := by
  have hw' : ¬ (16777216 < weight + 1) := by omega
  simp [M.step, M.resume, st2, M.word, code2, M.putBack, nb, M.alternative, M.attempt, M.frame, hw']
theorem backBranch18 (hw : weight < 1000) (pc pos' : Nat) (o' : Bool) : M.step (st2 text s pc pos' handed o' (nb 18 pos outer :: frames) (weight + 1) (some false) σ) = st2 text s 24 pos pos outer (nb 23 pos outer :: frames) (weight + 1) none σ := by
  have hw' : ¬ (16777216 < weight + 1) := by omega
  simp [M.step, M.resume, st2, M.word, code2, M.putBack, nb, M.alternative, M.attempt, M.frame, hw']
theorem overBranch (k pc pos' : Nat) (o' : Bool) : M.step (st2 text s pc pos' handed o' (nb k pos outer :: frames) (weight + 1) (some true) σ) = st2 text s k pos handed outer frames weight (some true) σ := by
  simp [M.step, M.resume, st2, nb, M.say]
theorem overStart (pc pos' : Nat) (o' first : Bool) : M.step (st2 text s pc pos' handed o' [ns s first] 1 (some true) σ) = st2 text s 10 s handed first [] 0 (some true) σ := by
  simp [M.step, M.resume, st2, ns, M.say]
theorem done2 (pc : Nat) : M.step (st2 text s pc pos handed outer [] weight (some true) σ) = { st2 text s pc pos handed outer [] weight (some true) σ with outcome := some .matched } := by
  simp [M.step, st2]
end
end Mine
end

-- part Rx6
section
open PySem PySem.Calls PyProof.Rows PySem.Builtin.Re
set_option Elab.async false
set_option maxRecDepth 100000
namespace Mine
open Sre
theorem st2_out {text : Array Nat} {s pc pos handed weight : Nat} {outer : Bool} {frames : List Sre.Frame} {answer : Option Bool} {σ : Sre.Seen} : (st2 text s pc pos handed outer frames weight answer σ).outcome = none := rfl
/-- an end at e of an attempt at s -/
def Hit2 (m : Sre.M) (bound s e : Nat) : Prop := ∃ k, k ≤ bound ∧ (M.runFor k m).outcome = some .matched ∧ (M.runFor k m).start = s ∧ (M.runFor k m).handed = e
theorem hit2_lf (text : Array Nat) (s : Nat) (first : Bool) (σ : Sre.Seen) (hs : s < text.size) (hc : text[s]?.getD 0 = 10) : Hit2 (st2 text s 10 s s first [ns s first] 1 none σ) 20 s (s + 1) := by
  refine ⟨9, by omega, ?_⟩
  rw [runFor_succ _ _ st2_out, branch2 (hw := by omega), runFor_succ _ _ st2_out, lit2_12_no (hc := fun _ => by omega), runFor_succ _ _ st2_out, backBranch11 (hw := by omega), runFor_succ _ _ st2_out, lit2_19_yes (hp := hs) (hc := hc),
    runFor_succ _ _ st2_out, jump2_21, runFor_succ _ _ st2_out, succ2, runFor_succ _ _ st2_out, overBranch, runFor_succ _ _ st2_out, overStart, runFor_succ _ _ st2_out, done2]
  exact ⟨rfl, rfl, rfl⟩
theorem hit2_crlf (text : Array Nat) (s : Nat) (first : Bool) (σ : Sre.Seen) (hs : s + 1 < text.size) (hc : text[s]?.getD 0 = 13) (hd : text[s + 1]?.getD 0 = 10) : Hit2 (st2 text s 10 s s first [ns s first] 1 none σ) 20 s (s + 2) := by
  refine ⟨8, by omega, ?_⟩
  rw [runFor_succ _ _ st2_out, branch2 (hw := by omega), runFor_succ _ _ st2_out, lit2_12_yes (hp := by omega) (hc := hc), runFor_succ _ _ st2_out, lit2_14_yes (hp := hs) (hc := hd),
    runFor_succ _ _ st2_out, jump2_16, runFor_succ _ _ st2_out, succ2, runFor_succ _ _ st2_out, overBranch, runFor_succ _ _ st2_out, overStart, runFor_succ _ _ st2_out, done2]
  exact ⟨rfl, rfl, rfl⟩
theorem hit2_cr (text : Array Nat) (s : Nat) (first : Bool) (σ : Sre.Seen) (hs : s < text.size) (hc : text[s]?.getD 0 = 13) (hd : s + 1 < text.size → text[s + 1]?.getD 0 ≠ 10) : Hit2 (st2 text s 10 s s first [ns s first] 1 none σ) 20 s (s + 1) := by
  refine ⟨15, by omega, ?_⟩
  rw [runFor_succ _ _ st2_out, branch2 (hw := by omega), runFor_succ _ _ st2_out, lit2_12_yes (hp := by omega) (hc := hc), runFor_succ _ _ st2_out, lit2_14_no (hc := hd),
    runFor_succ _ _ st2_out, backBranch11 (hw := by omega), runFor_succ _ _ st2_out, lit2_19_no (hc := fun _ => by omega), runFor_succ _ _ st2_out, backBranch18 (hw := by omega), runFor_succ _ _ st2_out, lit2_24_yes (hp := hs) (hc := hc),
    runFor_succ _ _ st2_out, assert2 (hw := by omega), runFor_succ _ _ st2_out, lit2_29_no (hc := hd), runFor_succ _ _ st2_out, backLook,
    runFor_succ _ _ st2_out, jump2_32, runFor_succ _ _ st2_out, succ2, runFor_succ _ _ st2_out, overBranch, runFor_succ _ _ st2_out, overStart, runFor_succ _ _ st2_out, done2]
  exact ⟨rfl, rfl, rfl⟩
def nl2 (text : Array Nat) (s : Nat) : Bool := text[s]?.getD 0 == 10 || text[s]?.getD 0 == 13
def len2 (text : Array Nat) (s : Nat) : Nat := if text[s]?.getD 0 = 13 ∧ s + 1 < text.size ∧ text[s + 1]?.getD 0 = 10 then 2 else 1
def find2 (text : Array Nat) : Nat → Nat → Option Nat
  | 0, _ => none
  | n + 1, s => if nl2 text s then some s else find2 text n (s + 1)
theorem hit2 (text : Array Nat) (s : Nat) (first : Bool) (σ : Sre.Seen) (hs : s < text.size) (h : nl2 text s = true) : Hit2 (st2 text s 10 s s first [ns s first] 1 none σ) 20 s (s + len2 text s) := by
  unfold nl2 at h
  unfold len2
  rw [Bool.or_eq_true, beq_iff_eq, beq_iff_eq] at h
  rcases h with h | h
  · rw [if_neg (by omega)]
    exact hit2_lf text s first σ hs h
  · split
    · rename_i hd
      exact hit2_crlf text s first σ hd.2.1 h hd.2.2
    · rename_i hd
      exact hit2_cr text s first σ hs h (fun h1 h2 => hd ⟨h, h1, h2⟩)
theorem inSet2 (c : Nat) (σ : Sre.Seen) : ∃ σ', inSet code2 c code2.size 5 true σ = .ok (c == 10 || c == 13, σ') := by
  cases h1 : (c == 10) with
  | true =>
    refine ⟨σ.add 16, ?_⟩
    simp only [beq_iff_eq] at h1
    subst h1
    rfl
  | false =>
    cases h2 : (c == 13) with
    | true =>
      refine ⟨(σ.add 16).add 16, ?_⟩
      simp only [beq_iff_eq] at h2
      subst h2
      rfl
    | false =>
      refine ⟨((σ.add 16).add 16).add 0, ?_⟩
      simp [inSet, code2, ops, h1, h2, -beq_eq_false_iff_ne, -beq_iff_eq]
theorem admitted2 (m : Sre.M) (hcode : m.code = code2) (text : Array Nat) (ht : m.text = text) (hl : m.lim = text.size) : ∀ (n s : Nat) (σ : Sre.Seen), s + n = text.size → ∃ σ', M.admitted m (n + 1) s σ = .ok (find2 text n s, σ')
  | 0, s, σ, hn => by
    refine ⟨σ, ?_⟩
    unfold M.admitted
    rw [hl, if_pos (by omega)]; rfl
  | n + 1, s, σ, hn => by
    unfold M.admitted
    rw [hl, if_neg (by omega), hcode, ht]
    obtain ⟨σ', e⟩ := inSet2 (text.getD s 0) σ
    rw [e, Array.getD_eq_getD_getElem?]
    unfold find2 nl2
    cases hb : (text[s]?.getD 0 == 10 || text[s]?.getD 0 == 13) with
    | true => exact ⟨σ', rfl⟩
    | false =>
      obtain ⟨σ'', e2⟩ := admitted2 m hcode text ht hl n (s + 1) σ' (by omega)
      exact ⟨σ'', e2⟩
def Ends2 (text : Array Nat) (m : Sre.M) (bound : Nat) : Option Nat → Prop
  | some b => Hit2 m bound b (b + len2 text b)
  | none => ∃ k, k ≤ bound ∧ (M.runFor k m).outcome = some .failed
theorem find2_some {text : Array Nat} : ∀ {n s b : Nat}, s + n = text.size → find2 text n s = some b → b < text.size ∧ nl2 text b = true
  | 0, _, _, _, h => nomatch h
  | n + 1, s, b, hn, h => by
    unfold find2 at h
    split at h
    · rename_i h1
      cases h
      exact ⟨by omega, h1⟩
    · exact find2_some (n := n) (s := s + 1) (by omega) h
def base2 (text : Array Nat) (p : Nat) (must : Bool) (σ : Sre.Seen) : Sre.M :=
  { code := code2, text, lim := text.size, start := p, lastStart := text.size, wholeText := false, mustAdvance := must, pc := 10, pos := p, handed := p, outermost := true, marks := #[], lastmark := -1, lastindex := -1, loops := #[], inner := none,
    frames := [], weight := 0, answer := none, seen := σ, outcome := none }
theorem search2 (text : Array Nat) (p : Nat) (must : Bool) (hp : p ≤ text.size) : Ends2 text (forSearch code2 text 0 p text.size must) 30 (find2 text (text.size - p) p) := by
  by_cases h : p < text.size
  · let m₀ : Sre.M := base2 text p must (({} : Sre.Seen).add 14)
    have e : forSearch code2 text 0 p text.size must = M.attemptFrom m₀ p true := by
      have e : forSearch code2 text 0 p text.size must = if (decide (p > text.size) || decide (text.size - p < 1)) = true then _ else M.attemptFrom m₀ p true := rfl
      rw [e, if_neg (by simp; omega)]
    rw [e]
    have e2 : M.attemptFrom m₀ p true = match M.admitted m₀ (text.size + 1 - p) p (({} : Sre.Seen).add 14) with
      | .ok (some s, seen) => { m₀ with mustAdvance := false, seen }.attemptAt s true
      | .ok (none, seen) => { m₀ with seen }.say false
      | .error why => m₀.stick why := rfl
    obtain ⟨σ', e3⟩ := admitted2 m₀ rfl text rfl rfl (text.size - p) p (({} : Sre.Seen).add 14) (by omega)
    rw [e2, show text.size + 1 - p = text.size - p + 1 by omega, e3]
    cases hf : find2 text (text.size - p) p with
    | none => exact ⟨1, by omega, by rw [runFor_one _ rfl]; rfl⟩
    | some b =>
      obtain ⟨h1, h2⟩ := find2_some (by omega) hf
      have := hit2 text b true σ' h1 h2
      show Hit2 (st2 text b 10 b b true [ns b true] 1 none σ') 30 b (b + len2 text b)
      obtain ⟨k, hk, r⟩ := this
      exact ⟨k, by omega, r⟩
  · have e : (forSearch code2 text 0 p text.size must).answer = some false ∧ (forSearch code2 text 0 p text.size must).frames = [] ∧ (forSearch code2 text 0 p text.size must).outcome = none := by
      unfold forSearch
      dsimp only
      split
      · exact ⟨rfl, rfl, rfl⟩
      · rename_i hn
        exact absurd (show (decide (p > text.size) || decide (text.size - p < 1)) = true by simp; omega) hn
    rw [show text.size - p = 0 by omega]
    refine ⟨1, by omega, ?_⟩
    rw [runFor_one _ e.2.2]
    unfold M.step
    rw [e.1, e.2.1, e.2.2]
    rfl
end Mine
end

-- part Rx7
section
open PySem PySem.Calls PyProof.Rows PySem.Builtin.Re
set_option Elab.async false
set_option maxRecDepth 100000
namespace Mine
open Sre
def joinN (ps : List Str) : List Nat := (ps.map (·.cps.toList)).flatten
/-- every line's end as CR LF -/
def norm2 : List Nat → List Nat
  | [] => []
  | 13 :: 10 :: r => 13 :: 10 :: norm2 r
  | c :: r => if c == 10 || c == 13 then 13 :: 10 :: norm2 r else c :: norm2 r
/-- one more dot ahead of a line's first dot -/
def stuff1 : Bool → List Nat → List Nat
  | _, [] => []
  | b, c :: r => if b && c == 46 then 46 :: 46 :: stuff1 false r else c :: stuff1 (c == 10) r

theorem gap_join (text : Array Nat) (p b : Nat) (ps : List Str) (h : p ≤ b) : joinN (gap text p b ++ ps) = (text.toList.drop p).take (b - p) ++ joinN ps := by
  unfold gap joinN
  split
  · simp [List.extract_eq_take_drop]
  · have : p = b := by omega
    subst this
    simp
theorem drop_cons (text : Array Nat) (p : Nat) (h : p < text.size) : text.toList.drop p = text[p]?.getD 0 :: text.toList.drop (p + 1) := by
  rw [List.drop_eq_getElem_cons (by simpa using h)]
  simp [h]
theorem first1_succ (text : Array Nat) (p : Nat) : first1 text (p + 1) = (text[p]?.getD 0 == 10) := by
  unfold first1
  rw [Array.getD_eq_getD_getElem?]
  simp
theorem take_succ' (text : Array Nat) (p b : Nat) (h : p < text.size) (hb : p < b) : (text.toList.drop p).take (b - p) = text[p]?.getD 0 :: (text.toList.drop (p + 1)).take (b - (p + 1)) := by
  rw [drop_cons text p h, show b - p = (b - (p + 1)) + 1 by omega, List.take_succ_cons]

theorem stuff1_cons (b : Bool) (c : Nat) (r : List Nat) : stuff1 b (c :: r) = if (b && c == 46) = true then 46 :: 46 :: stuff1 false r else c :: stuff1 (c == 10) r := by
  conv => lhs; unfold stuff1
theorem scan1 (text : Array Nat) : ∀ (n p : Nat), p + n = text.size → match find1 text n p with
    | some b => p ≤ b ∧ b < text.size ∧ stuff1 (first1 text p) (text.toList.drop p) = (text.toList.drop p).take (b - p) ++ 46 :: 46 :: stuff1 false (text.toList.drop (b + 1)) ∧ first1 text (b + 1) = false
    | none => stuff1 (first1 text p) (text.toList.drop p) = text.toList.drop p
  | 0, p, hn => by
    show stuff1 _ _ = _
    rw [List.drop_eq_nil_of_le (by simp; omega)]
    rfl
  | n + 1, p, hn => by
    have hp : p < text.size := by omega
    unfold find1
    rw [Array.getD_eq_getD_getElem?]
    cases hb : (first1 text p && text[p]?.getD 0 == 46) with
    | true =>
      refine ⟨Nat.le_refl _, hp, ?_, ?_⟩
      · rw [drop_cons text p hp, stuff1_cons, hb]
        simp
      · rw [Bool.and_eq_true, beq_iff_eq] at hb
        rw [first1_succ, hb.2]; rfl
    | false =>
      have ih := scan1 text n (p + 1) (by omega)
      have e : stuff1 (first1 text p) (text.toList.drop p) = text[p]?.getD 0 :: stuff1 (first1 text (p + 1)) (text.toList.drop (p + 1)) := by
        rw [drop_cons text p hp, first1_succ, stuff1_cons, hb]
        rfl
      rw [if_neg Bool.false_ne_true]
      cases hf : find1 text n (p + 1) with
      | none =>
        rw [hf] at ih
        show stuff1 _ _ = _
        rw [e, ih, ← drop_cons text p hp]
      | some b =>
        rw [hf] at ih
        obtain ⟨h1, h2, h3, h4⟩ := ih
        refine ⟨by omega, h2, ?_, h4⟩
        rw [e, h3, take_succ' text p b hp (by omega)]
        rfl

theorem subs1 (text : Array Nat) : ∀ (k p : Nat) (must : Bool), text.size < p + k → p ≤ text.size → text.size ≤ 10000 → ∃ ps, Subs code1 text ⟨#[46, 46]⟩ p must ps ∧ joinN ps = stuff1 (first1 text p) (text.toList.drop p) ∧ ps.length ≤ 2 * (text.size - p) + 1
  | 0, p, _, hk, hp, _ => by omega
  | k + 1, p, must, hk, hp, hz => by
    have hS := search1 text p must hp
    have hs := scan1 text (text.size - p) p (by omega)
    cases hf : find1 text (text.size - p) p with
    | none =>
      rw [hf] at hS hs
      obtain ⟨n, hn, ho⟩ := hS
      refine ⟨_, .miss (n := n) (by omega) ho, ?_, ?_⟩
      · have := gap_join text p text.size [] hp
        rw [List.append_nil] at this
        rw [this, hs, List.take_of_length_le (by simp)]
        simp [joinN]
      · unfold gap; split <;> simp
    | some b =>
      rw [hf] at hS hs
      obtain ⟨n, hn, ho, h2, h3⟩ := hS
      obtain ⟨g1, g2, g3, g4⟩ := hs
      obtain ⟨ps, S, hj, hl⟩ := subs1 text k (b + 1) (b + 1 == b) (by omega) (by omega) hz
      refine ⟨_, .hit (n := n) (by omega) ho h2 h3 S, ?_, ?_⟩
      · rw [gap_join text p b _ g1, g3, show joinN (⟨#[46, 46]⟩ :: ps) = 46 :: 46 :: joinN ps from rfl, hj, g4]
      · have : (gap text p b).length ≤ 1 := by unfold gap; split <;> simp
        have : p < b → (gap text p b).length ≤ 1 := fun _ => this
        have : ¬ p < b → (gap text p b).length = 0 := fun h => by unfold gap; rw [if_neg h]; rfl
        simp only [List.length_append, List.length_cons]
        by_cases hpb : p < b
        · have := ‹p < b → _› hpb; omega
        · have := ‹¬ p < b → _› hpb; omega

theorem norm2_plain (c : Nat) (r : List Nat) (h : (c == 10 || c == 13) = false) : norm2 (c :: r) = c :: norm2 r := by
  rw [Bool.or_eq_false_iff] at h
  have h1 : c ≠ 10 := by simpa using h.1
  have h2 : c ≠ 13 := by simpa using h.2
  rw [norm2.eq_def]
  split
  · rename_i e; cases e
  · rename_i e; cases e; exact absurd rfl h2
  · rename_i c' r' _ e
    cases e
    simp [h1, h2]
theorem norm2_lf (r : List Nat) : norm2 (10 :: r) = 13 :: 10 :: norm2 r := by
  rw [norm2.eq_def]
  rfl
theorem norm2_crlf (r : List Nat) : norm2 (13 :: 10 :: r) = 13 :: 10 :: norm2 r := by
  rw [norm2.eq_def]
  rfl
theorem norm2_cr (r : List Nat) (h : ∀ r', r ≠ 10 :: r') : norm2 (13 :: r) = 13 :: 10 :: norm2 r := by
  rw [norm2.eq_def]
  split
  · rename_i e; cases e
  · rename_i e; cases e; exact absurd rfl (h _)
  · rename_i c' r' _ e
    cases e
    rfl
theorem norm2_here (text : Array Nat) (p : Nat) (hp : p < text.size) (h : nl2 text p = true) : norm2 (text.toList.drop p) = 13 :: 10 :: norm2 (text.toList.drop (p + len2 text p)) := by
  unfold nl2 at h
  rw [Bool.or_eq_true, beq_iff_eq, beq_iff_eq] at h
  unfold len2
  rw [drop_cons text p hp]
  rcases h with h | h
  · rw [if_neg (by omega), h, norm2_lf]
  · rw [h]
    split
    · rename_i hd
      rw [drop_cons text (p + 1) hd.2.1, hd.2.2, norm2_crlf]
    · rename_i hd
      rw [norm2_cr]
      intro r' e
      by_cases h1 : p + 1 < text.size
      · rw [drop_cons text (p + 1) h1] at e
        injection e with e1 _
        exact hd ⟨rfl, h1, e1⟩
      · rw [List.drop_eq_nil_of_le (by simp; omega)] at e
        cases e
theorem scan2 (text : Array Nat) : ∀ (n p : Nat), p + n = text.size → match find2 text n p with
    | some b => p ≤ b ∧ b < text.size ∧ norm2 (text.toList.drop p) = (text.toList.drop p).take (b - p) ++ 13 :: 10 :: norm2 (text.toList.drop (b + len2 text b)) ∧ b + len2 text b ≤ text.size
    | none => norm2 (text.toList.drop p) = text.toList.drop p
  | 0, p, hn => by
    show norm2 _ = _
    rw [List.drop_eq_nil_of_le (by simp; omega)]
    rfl
  | n + 1, p, hn => by
    have hp : p < text.size := by omega
    unfold find2
    cases hb : nl2 text p with
    | true =>
      refine ⟨Nat.le_refl _, hp, ?_, ?_⟩
      · rw [norm2_here text p hp hb]; simp
      · unfold len2; split <;> omega
    | false =>
      have ih := scan2 text n (p + 1) (by omega)
      have e : norm2 (text.toList.drop p) = text[p]?.getD 0 :: norm2 (text.toList.drop (p + 1)) := by
        rw [drop_cons text p hp, norm2_plain _ _ hb]
      rw [if_neg Bool.false_ne_true]
      cases hf : find2 text n (p + 1) with
      | none =>
        rw [hf] at ih
        show norm2 _ = _
        rw [e, ih, ← drop_cons text p hp]
      | some b =>
        rw [hf] at ih
        obtain ⟨h1, h2, h3, h4⟩ := ih
        refine ⟨by omega, h2, ?_, h4⟩
        rw [e, h3, take_succ' text p b hp (by omega)]
        rfl
theorem subs2 (text : Array Nat) : ∀ (k p : Nat) (must : Bool), text.size < p + k → p ≤ text.size → text.size ≤ 10000 → ∃ ps, Subs code2 text ⟨#[13, 10]⟩ p must ps ∧ joinN ps = norm2 (text.toList.drop p) ∧ ps.length ≤ 2 * (text.size - p) + 1
  | 0, p, _, hk, hp, _ => by omega
  | k + 1, p, must, hk, hp, hz => by
    have hS := search2 text p must hp
    have hs := scan2 text (text.size - p) p (by omega)
    cases hf : find2 text (text.size - p) p with
    | none =>
      rw [hf] at hS hs
      obtain ⟨n, hn, ho⟩ := hS
      refine ⟨_, .miss (n := n) (by omega) ho, ?_, ?_⟩
      · have := gap_join text p text.size [] hp
        rw [List.append_nil] at this
        rw [this, hs, List.take_of_length_le (by simp)]
        simp [joinN]
      · unfold gap; split <;> simp
    | some b =>
      rw [hf] at hS hs
      obtain ⟨n, hn, ho, h2, h3⟩ := hS
      obtain ⟨g1, g2, g3, g4⟩ := hs
      have gl : 1 ≤ len2 text b := by unfold len2; split <;> omega
      obtain ⟨ps, S, hj, hl⟩ := subs2 text k (b + len2 text b) (b + len2 text b == b) (by omega) g4 hz
      refine ⟨_, .hit (n := n) (by omega) ho h2 h3 S, ?_, ?_⟩
      · rw [gap_join text p b _ g1, g3, show joinN (⟨#[13, 10]⟩ :: ps) = 13 :: 10 :: joinN ps from rfl, hj]
      · have h1 : (gap text p b).length ≤ 1 := by unfold gap; split <;> simp
        have h0 : ¬ p < b → (gap text p b).length = 0 := fun h => by unfold gap; rw [if_neg h]; rfl
        simp only [List.length_append, List.length_cons]
        by_cases hpb : p < b
        · omega
        · have := h0 hpb; omega
end Mine
end

-- part Rx8
section
open PySem PySem.Calls PyProof.Rows PySem.Builtin.Re
set_option Elab.async false
set_option maxRecDepth 100000
namespace Mine
open Sre
theorem str_ext {a b : Str} (h : a.cps.toList = b.cps.toList) : a = b := by
  cases a; cases b; simp at h; simpa using h
theorem app_cps (a b : Str) : (a ++ b).cps = a.cps ++ b.cps := rfl
theorem join_nil : ∀ ps : List Str, Str.join ⟨#[]⟩ ps = ⟨(joinN ps).toArray⟩
  | [] => rfl
  | [x] => by
    apply str_ext
    simp [Str.join, joinN]
  | x :: y :: r => by
    have ih := join_nil (y :: r)
    apply str_ext
    show (x ++ ⟨#[]⟩ ++ Str.join ⟨#[]⟩ (y :: r)).cps.toList = _
    rw [ih]
    rw [app_cps, app_cps]
    simp [joinN]
def stuffS (x : Str) : Str := ⟨(stuff1 true x.cps.toList).toArray⟩
def normS (x : Str) : Str := ⟨(norm2 x.cps.toList).toArray⟩
def quoteS (x : Str) : Str := stuffS (normS x)
theorem stuff1_len : ∀ (b : Bool) (l : List Nat), (stuff1 b l).length ≤ 2 * l.length ∧ l.length ≤ (stuff1 b l).length
  | _, [] => ⟨Nat.le_refl _, Nat.le_refl _⟩
  | b, c :: r => by
    rw [stuff1_cons]
    have h1 := stuff1_len false r
    have h2 := stuff1_len (c == 10) r
    split <;> simp only [List.length_cons] <;> omega
theorem norm2_len : ∀ (n : Nat) (l : List Nat), l.length ≤ n → (norm2 l).length ≤ 2 * l.length ∧ (l ≠ [] → norm2 l ≠ [])
  | _, [], _ => ⟨Nat.le_refl _, fun h => absurd rfl h⟩
  | 0, _ :: _, h => by simp at h
  | n + 1, c :: r, h => by
    simp only [List.length_cons] at h
    have ih := norm2_len n r (by omega)
    cases hb : (c == 10 || c == 13) with
    | false => rw [norm2_plain c r hb]; exact ⟨by simp only [List.length_cons]; omega, fun _ e => nomatch e⟩
    | true =>
      rw [Bool.or_eq_true, beq_iff_eq, beq_iff_eq] at hb
      rcases hb with rfl | rfl
      · rw [norm2_lf]; exact ⟨by simp only [List.length_cons]; omega, fun _ e => nomatch e⟩
      · by_cases hr : ∃ r', r = 10 :: r'
        · obtain ⟨r', rfl⟩ := hr
          rw [norm2_crlf]
          have ih2 := norm2_len n r' (by simp only [List.length_cons] at h; omega)
          exact ⟨by simp only [List.length_cons]; omega, fun _ e => nomatch e⟩
        · rw [norm2_cr r (fun r' e => hr ⟨r', e⟩)]
          exact ⟨by simp only [List.length_cons]; omega, fun _ e => nomatch e⟩
theorem joinN_len (ps : List Str) : (joinN ps).length = (ps.map (·.length)).sum := by
  induction ps with
  | nil => rfl
  | cons x r ih =>
    have : joinN (x :: r) = x.cps.toList ++ joinN r := rfl
    rw [this, List.length_append, ih, List.map_cons, List.sum_cons]
    rfl
theorem normS_le (x : Str) : (normS x).cps.size ≤ 2 * x.cps.size := by
  have := (norm2_len _ x.cps.toList (Nat.le_refl _)).1
  simpa [normS] using this
theorem normS_pos {x : Str} (h : 0 < x.cps.size) : 0 < (normS x).cps.size := by
  have := (norm2_len _ x.cps.toList (Nat.le_refl _)).2 (by rintro e; have := congrArg List.length e; simp at this; rw [this] at h; simp at h)
  show 0 < (norm2 x.cps.toList).toArray.size
  rw [List.size_toArray]
  exact List.length_pos_iff.mpr this
theorem stuffS_le (x : Str) : (stuffS x).cps.size ≤ 2 * x.cps.size := by
  have := (stuff1_len true x.cps.toList).1
  simpa [stuffS] using this
theorem stuffS_ge (x : Str) : x.cps.size ≤ (stuffS x).cps.size := by
  have := (stuff1_len true x.cps.toList).2
  simpa [stuffS] using this
theorem quoteS_pos {x : Str} (h : 0 < x.cps.size) : 0 < (quoteS x).cps.size := Nat.lt_of_lt_of_le (normS_pos h) (stuffS_ge _)
section
variable {prog : Program} {w : World} {A : Around} {E : Value → Shared → Prop} {s : Shared} {h₀ : Heap} {L : Addr} {m : Str → Option Value} {news : List (Addr × Obj)}
theorem sub1_wp {text repl : Str} {t1 t2 : Tok} {P : Addr} {Q : Value → Shared → Prop} (F : Fr h₀ L s.heap m) (N : News h₀ L s.heap news) (hP : PatAt h₀ P code1) (hz0 : 0 < text.cps.size) (hz : text.cps.size ≤ 4000) (hr : repl = ⟨#[46, 46]⟩)
    (hq : ∀ h' tk t, Fr h₀ L h' m → News h₀ L h' news → Q (.str (stuffS text) t) { s with heap := h', toks := tk }) :
    wpAny (model prog w) A (call (.builtin "re.Pattern.sub") [.ref P, .str repl t2, .str text t1]) Q E s := by
  subst hr
  obtain ⟨ps, S, hj, hl⟩ := subs1 text.cps (text.cps.size + 1) 0 false (by omega) (by omega) (by omega)
  have hj' : joinN ps = stuff1 true text.cps.toList := by rw [hj]; rfl
  have hlen := stuff1_len true text.cps.toList
  have h1 : text.cps.toList.length = text.cps.size := by simp
  refine sub_wp F N hP (by omega) (by decide +kernel) S (by omega) (by rw [← joinN_len, hj']; omega) ?_ (fun h' tk t F' N' => ?_)
  · rintro rfl
    rw [← hj'] at hlen
    simp only [joinN, List.map_nil, List.flatten_nil, List.length_nil] at hlen
    omega
  · have e : Txt.join ⟨#[]⟩ ps = stuffS text := (StrLaws.glued_eq_join _ _).trans ((join_nil ps).trans (by rw [hj']; rfl))
    rw [e]
    exact hq h' tk t F' N'
theorem sub2_wp {text repl : Str} {t1 t2 : Tok} {P : Addr} {Q : Value → Shared → Prop} (F : Fr h₀ L s.heap m) (N : News h₀ L s.heap news) (hP : PatAt h₀ P code2) (hz0 : 0 < text.cps.size) (hz : text.cps.size ≤ 4000) (hr : repl = ⟨#[13, 10]⟩)
    (hq : ∀ h' tk t, Fr h₀ L h' m → News h₀ L h' news → Q (.str (normS text) t) { s with heap := h', toks := tk }) :
    wpAny (model prog w) A (call (.builtin "re.Pattern.sub") [.ref P, .str repl t2, .str text t1]) Q E s := by
  subst hr
  obtain ⟨ps, S, hj, hl⟩ := subs2 text.cps (text.cps.size + 1) 0 false (by omega) (by omega) (by omega)
  have hj' : joinN ps = norm2 text.cps.toList := by rw [hj]; rfl
  have hlen := norm2_len _ text.cps.toList (Nat.le_refl _)
  have h1 : text.cps.toList.length = text.cps.size := by simp
  refine sub_wp F N hP (by omega) (by decide +kernel) S (by omega) (by rw [← joinN_len, hj']; omega) ?_ (fun h' tk t F' N' => ?_)
  · rintro rfl
    refine hlen.2 (fun e => ?_) hj'.symm
    rw [e] at h1
    simp at h1
    omega
  · have e : Txt.join ⟨#[]⟩ ps = normS text := (StrLaws.glued_eq_join _ _).trans ((join_nil ps).trans (by rw [hj']; rfl))
    rw [e]
    exact hq h' tk t F' N'
theorem patMeth {P : Addr} {o : Obj} {pl : Sem Bool} {Q : Value × List Value → Shared → Prop} (F : Fr h₀ L s.heap m) (hP : h₀.get? P = some o) (hc : o.cls = .type "re.Pattern") (hd : o.dict = none) (h : Q (.builtin "re.Pattern.sub", [.ref P]) s) :
    wpAny (model prog w) A (getMethod (.ref P) "sub" pl) Q E s :=
  getMethod_builtin ⟨_, F.keep _ _ hP, hc⟩ attrs_pattern slot_sub type_sub (fun a e => by cases e; exact ⟨_, F.keep _ _ hP, hd⟩) h
end
end Mine
end

-- part Ha
section
open PySem PySem.Calls PyProof.Rows
set_option Elab.async false
set_option maxRecDepth 100000
set_option maxHeartbeats 1000000

namespace Mine
theorem lk_getitem : typeLookup (.type "str") "__getitem__" = pure (some (.builtin "str.__getitem__")) := by rw [typeLookup_type, builtinLookup_eq_fast]; kernel_rfl
theorem ty_getitem : typeOf (.builtin "str.__getitem__") = pure (.type "wrapper_descriptor") := by show builtinType _ = _; rw [builtinType_eq_fast]; kernel_rfl
theorem slot_wd_get : Slot "wrapper_descriptor" "__get__" "wrapper_descriptor.__get__" :=
  .of (owner := "wrapper_descriptor") (n := "__get__") (by rw [typeLookup_type, builtinLookup_eq_fast]; kernel_rfl) (by decide +kernel) (by decide +kernel) (by decide +kernel)
    (by first | exact .inl (by decide +kernel) | exact .inr (by decide +kernel)) (by rw [isSubtype_type]; kernel_rfl)
theorem entry_wd_get : entryFor table "wrapper_descriptor.__get__" = some Builtin.«wrapper_descriptor.__get__» := entryFor_of_tree (by kernel_rfl)
theorem args_wd_get (a b c : Value) : argsOk "wrapper_descriptor.__get__" ⟨[a, b, c], []⟩ := by unfold argsOk; kernel_rfl
theorem wd_noset : typeLookup (.type "wrapper_descriptor") "__set__" = pure none := by rw [typeLookup_type, builtinLookup_eq_fast]; kernel_rfl
theorem wd_nodel : typeLookup (.type "wrapper_descriptor") "__delete__" = pure none := by rw [typeLookup_type, builtinLookup_eq_fast]; kernel_rfl
theorem str_str : isSubtype (.type "str") (.type "str") = pure true := by rw [isSubtype_type]; kernel_rfl
theorem entry_hasattr : entryFor table "hasattr" = some Builtin.«hasattr» := entryFor_of_tree (by kernel_rfl)
theorem kind_hasattr : builtinKind "hasattr" = none := by decide +kernel
theorem plain_hasattr : plainId "hasattr" = true := by decide +kernel
theorem args_hasattr (a b : Value) : argsOk "hasattr" ⟨[a, b], []⟩ := by unfold argsOk; kernel_rfl
theorem owner_getitem : (".".intercalate ("str.__getitem__".cutAt '.').dropLast) = "str" := by
  have e0 : "str.__getitem__".cutAt '.' = ["str", "__getitem__"] := by first | rfl | decide +kernel
  rw [e0]; decide +kernel
section
variable {prog : Program} {w : World} {A : Around} {E : Value → Shared → Prop} {h : Heap} {g : Array GenState} {d : Drawn} {t : Nat} {os : OsState} {x : Str} {u : Tok}
def mwObj (x : Str) (u : Tok) : Obj := { cls := .type "method-wrapper", data := .fields #[.builtin "str.__getitem__", .str x u] }
theorem getitem_get {R : Result → Shared → Prop} (hq : R (.ok (.ret (.ref h.objs.size))) ⟨h.push (mwObj x u), g, d, t, os⟩) :
    codeAny (model prog w) A (.call (.builtin "wrapper_descriptor.__get__") ⟨[.builtin "str.__getitem__", .str x u, .type "str"], []⟩) R ⟨h, g, d, t, os⟩ := by
  have hT : (⟨h, g, d, t, os⟩ : Shared).TypeIs (.str x u) "str" := rfl
  have hT5 : (⟨h, g, d, t, os⟩ : Shared).TypeIs (.builtin "str.__getitem__") "wrapper_descriptor" := ty_getitem
  refine codeAny_call_builtin slot_wd_get.plain entry_wd_get (slot_wd_get.check _ _ _ _ _ _ _ _ hT5 (args_wd_get _ _ _) ?_)
  repeat (any_goals (first | assumption | wp_step))
  rw [owner_getitem, str_str]
  refine wpAny_pure ?_
  refine wpAny_ite ?_
  rw [if_neg (show ¬ (!true) = true from fun e => nomatch e)]
  refine wpAny_pure ?_
  refine wpAny_bind ?_
  refine wpAny_newObj_type ?_ (by show (2 : Nat) ≤ sizeLine + 2; decide)
  exact wpAny_pure hq
theorem getitem_entry {tk : Tok} {Q : Fin → Shared → Prop} (hq : Q (.done (.ret (.ref h.objs.size))) ⟨h.push (mwObj x u), g, d, t, os⟩) :
    wpAny (model prog w) A (Builtin.«object.__getattribute__» ⟨[.str x u, .str "__getitem__" tk], []⟩) Q E ⟨h, g, d, t, os⟩ := by
  have hT : (⟨h, g, d, t, os⟩ : Shared).TypeIs (.str x u) "str" := rfl
  have hT5 : (⟨h, g, d, t, os⟩ : Shared).TypeIs (.builtin "str.__getitem__") "wrapper_descriptor" := ty_getitem
  have f4 := lk_getitem
  have f5 := ty_getitem
  have f6 := slot_wd_get.lookup
  have f7 := wd_noset
  have f8 := wd_nodel
  repeat (any_goals (first | assumption | wp_step))
  refine getitem_get ?_
  repeat (any_goals (first | assumption | wp_step))
theorem getitem_call {tk : Tok} {R : Result → Shared → Prop} (hq : R (.ok (.ret (.ref h.objs.size))) ⟨h.push (mwObj x u), g, d, t, os⟩) :
    codeAny (model prog w) A (.call (.builtin "object.__getattribute__") ⟨[.str x u, .str "__getitem__" tk], []⟩) R ⟨h, g, d, t, os⟩ :=
  codeAny_call_builtin F.slot_str_getattribute.plain F.entry_object_getattribute (F.slot_str_getattribute.check _ _ _ _ _ _ _ _ (show (⟨h, g, d, t, os⟩ : Shared).TypeIs (.str x u) "str" from rfl) (F.args_object_getattribute_2 _ _) (getitem_entry hq))
theorem getitem_by {tk : Tok} {Q : Value → Shared → Prop} (hq : Q (.ref h.objs.size) ⟨h.push (mwObj x u), g, d, t, os⟩) : wpAny (model prog w) A (getAttrBy (.str x u) (.str "__getitem__" tk) false) Q E ⟨h, g, d, t, os⟩ := by
  have hT : (⟨h, g, d, t, os⟩ : Shared).TypeIs (.str x u) "str" := rfl
  have f2 := F.slot_str_getattribute.lookup
  have f3 := F.slot_str_getattribute.bind (.str x u)
  repeat (any_goals (first | assumption | wp_step))
  refine getitem_call ?_
  repeat (any_goals (first | assumption | wp_step))
theorem hasattr_wp {tk : Tok} {Q : Value → Shared → Prop} (hq : Q (.bool true) ⟨h.push (mwObj x u), g, d, t, os⟩) : wpAny (model prog w) A (call (.builtin "hasattr") [.str x u, .str "__getitem__" tk]) Q E ⟨h, g, d, t, os⟩ := by
  have hT : (⟨h, g, d, t, os⟩ : Shared).TypeIs (.str x u) "str" := rfl
  have f4 := lk_getitem
  have f9 := F.slot_str_getattribute.lookup
  refine call_function_entry kind_hasattr plain_hasattr entry_hasattr (args_hasattr _ _) ?_
  unfold Builtin.«hasattr»
  refine wpAny_bind (wpAny_of_eq (a := [.str x u, .str "__getitem__" tk]) rfl ?_)
  refine wpAny_bind (wpAny_of_eq (a := ()) rfl ?_)
  refine wpAny_ite ?_
  rw [if_neg (show ¬ ((Value.str x u) == .builtin "__main__.__loader__#opaque") = true from fun e => by simp at e)]
  refine wpAny_bind (wpAny_typeOf hT ?_)
  refine wpAny_bind (wpAny_of_eq (a := some (PySem.Str.ofString "__getitem__")) rfl ?_)
  refine wpAny_bind (wpAny_of_eq f4 ?_)
  refine wpAny_bind (wpAny_of_eq f9 ?_)
  have hw : withoutEnding? "str.__getitem__" "#data" = none := by decide +kernel
  rw [hw]
  refine wpAny_ite ?_
  rw [if_neg (fun e => by simp at e)]
  refine wpAny_bind (wpAny_of_eq (a := 0) rfl ?_)
  refine wpAny_ite ?_
  rw [if_neg (fun e => by simp at e)]
  unfold getAttrBy?
  refine wpAny_bind (wpAny_bind (wpAny_attempt (getitem_by (wpAny_pure ?_))))
  dsimp only
  refine wpAny_ite ?_
  rw [if_neg (fun e => by simp at e)]
  exact wpAny_pure ⟨_, rfl, hq⟩
end
end Mine
end

-- part Pure
section
open PySem PySem.Calls PyProof.Rows PySem.W
set_option Elab.async false
namespace Mine
/-- row k of the mail -/
def rowF (x : Int) (sign : Str) (n : Int) (k : Nat) : Str :=
  if ((1 + x.fmod 15).fdiv (2 ^ k)).fmod 2 = 1 then sign else Txt.mul (Str.ofString ".") (3 + 3 * (x.fdiv 15 + (k : Int)).fmod 2 - n)
def sepF (x : Int) (k : Nat) : Str :=
  if k < 3 then (if (x.fdiv 30 + (k : Int)).fmod 3 = 0 then Str.ofString "\n" else if (x.fdiv 30 + (k : Int)).fmod 3 = 1 then Str.ofString "\r\n" else Str.ofString "\r") else Str.ofString ""
def mailF (x : Int) (sign : Str) (n : Int) : Nat → Str
  | 0 => Str.ofString ""
  | k + 1 => mailF x sign n k ++ (rowF x sign n k ++ sepF x k)
def sendF (s : Str) : Nat → Str
  | 0 => s
  | n + 1 => quoteS (sendF s n)
theorem pat_start (x : Int) (sign : Str) (n : Int) : Str.ofString "" = mailF x sign n 0 ∧ (Str.ofString "").length ≤ 9 * 0 := ⟨rfl, by decide⟩
theorem pat_step {x : Int} {sign : Str} {n : Int} {pre : List Int} {kN : Int} {mail row sep : Str} (hm : mail = mailF x sign n pre.length) (hz : mail.length ≤ 9 * pre.length) (hr : row = rowF x sign n pre.length) (hs : sep = sepF x pre.length)
    (hrl : row.length ≤ 6) (hsl : sep.length ≤ 2) : mail ++ (row ++ sep) = mailF x sign n (pre ++ [kN]).length ∧ (mail ++ (row ++ sep)).length ≤ 9 * (pre ++ [kN]).length := by
  rw [List.length_append]
  refine ⟨?_, ?_⟩
  · rw [hm, hr, hs]; rfl
  · simp only [Str.length_append, List.length_cons, List.length_nil]; omega
theorem row_sign {x : Int} {sign : Str} {n : Int} {j : Nat} {kN : Int} (e : kN = 0 + (j : Int)) (h : (((1 + x.fmod 15).fdiv (2 ^ kN.toNat)).fmod 2 == 1) = true) : sign = rowF x sign n j := by
  subst e
  simp at h
  simp [rowF, h]
theorem row_dots {x : Int} {sign : Str} {n : Int} {j : Nat} {kN : Int} (e : kN = 0 + (j : Int)) (h : (((1 + x.fmod 15).fdiv (2 ^ kN.toNat)).fmod 2 == 1) = false) : Txt.mul (Str.ofString ".") (3 + 3 * (x.fdiv 15 + kN).fmod 2 - n) = rowF x sign n j := by
  subst e
  simp at h
  simp [rowF, h]
theorem sep_0 {x kN : Int} {j : Nat} (e : kN = 0 + (j : Int)) (h : kN < 3) (h0 : (x.fdiv 30 + kN).fmod 3 = 0) : Str.ofString "\n" = sepF x j := by
  subst e
  have : j < 3 := by omega
  simp at h0
  simp [sepF, this, h0]
theorem sep_1 {x kN : Int} {j : Nat} (e : kN = 0 + (j : Int)) (h : kN < 3) (h0 : (x.fdiv 30 + kN).fmod 3 = 1) : Str.ofString "\r\n" = sepF x j := by
  subst e
  have : j < 3 := by omega
  simp at h0
  simp [sepF, this, h0]
theorem sep_2 {x kN : Int} {j : Nat} (e : kN = 0 + (j : Int)) (h : kN < 3) (h0 : (x.fdiv 30 + kN).fmod 3 = 2) : Str.ofString "\r" = sepF x j := by
  subst e
  have : j < 3 := by omega
  simp at h0
  simp [sepF, this, h0]
theorem sep_3 {x kN : Int} {j : Nat} (e : kN = 0 + (j : Int)) (h : ¬ kN < 3) : Str.ofString "" = sepF x j := by
  subst e
  have : ¬ j < 3 := by omega
  simp [sepF, this]
end Mine
namespace Mine
theorem fmod2 (y : Int) : y.fmod 2 = 0 ∨ y.fmod 2 = 1 := by
  have h1 := Int.fmod_nonneg_of_pos y (show (0 : Int) < 2 by decide)
  have h2 := Int.fmod_lt_of_pos y (show (0 : Int) < 2 by decide)
  omega
theorem dots_len (y n : Int) (h1 : 1 ≤ n) (h2 : n ≤ 2) : (Txt.mul (Str.ofString ".") (3 + 3 * y.fmod 2 - n)).length ≤ 6 := by
  have hn : n = 1 ∨ n = 2 := by omega
  rcases fmod2 y with h | h <;> rcases hn with rfl | rfl <;> rw [h] <;> decide +kernel
theorem dots_pos (y n : Int) (h1 : 1 ≤ n) (h2 : n ≤ 2) : 1 ≤ (Txt.mul (Str.ofString ".") (3 + 3 * y.fmod 2 - n)).length := by
  have hn : n = 1 ∨ n = 2 := by omega
  rcases fmod2 y with h | h <;> rcases hn with rfl | rfl <;> rw [h] <;> decide +kernel
theorem app_len {a b : Str} (ha : a.length ≤ 6) (hb : b.length ≤ 2) : (a ++ b).length ≤ 1000 := by rw [Str.length_append]; omega
theorem row_len {x : Int} {sign : Str} {n : Int} {k : Nat} (hs : sign.length = 1) (h1 : 1 ≤ n) (h2 : n ≤ 2) : (rowF x sign n k).length ≤ 6 ∧ 1 ≤ (rowF x sign n k).length := by
  unfold rowF
  split
  · omega
  · exact ⟨dots_len _ _ h1 h2, dots_pos _ _ h1 h2⟩
theorem sep_len {x : Int} {k : Nat} : (sepF x k).length ≤ 2 := by
  unfold sepF
  repeat' split
  all_goals decide
theorem mail_len {x : Int} {sign : Str} {n : Int} (hs : sign.length = 1) (h1 : 1 ≤ n) (h2 : n ≤ 2) : ∀ k, (mailF x sign n k).length ≤ 8 * k ∧ k ≤ (mailF x sign n k).length
  | 0 => ⟨Nat.zero_le _, Nat.zero_le _⟩
  | k + 1 => by
    have ih := mail_len (x := x) hs h1 h2 k
    have hr := row_len (x := x) (k := k) hs h1 h2
    have hp := sep_len (x := x) (k := k)
    unfold mailF
    simp only [Str.length_append]
    omega
theorem send_pos {s : Str} (h : 0 < s.cps.size) : ∀ j, 0 < (sendF s j).cps.size
  | 0 => h
  | j + 1 => quoteS_pos (send_pos h j)
theorem quoteS_le (x : Str) : (quoteS x).cps.size ≤ 4 * x.cps.size := by
  have h1 := stuffS_le (normS x)
  have h2 := normS_le x
  unfold quoteS
  omega
theorem send_lt {x : Int} {sign : Str} {n : Int} (hs : sign.length = 1) (h1 : 1 ≤ n) (h2 : n ≤ 2) {j : Nat} (hj : j ≤ 2) : (sendF (mailF x sign n 4) j).cps.size < 1000 := by
  have h := mail_len (x := x) hs h1 h2 4
  have h' : (mailF x sign n 4).cps.size ≤ 32 := h.1
  match j, hj with
  | 0, _ => show (mailF x sign n 4).cps.size < 1000; omega
  | 1, _ => have := quoteS_le (mailF x sign n 4); show (quoteS (mailF x sign n 4)).cps.size < 1000; omega
  | 2, _ =>
    have h3 := quoteS_le (mailF x sign n 4)
    have h4 := quoteS_le (quoteS (mailF x sign n 4))
    show (quoteS (quoteS (mailF x sign n 4))).cps.size < 1000
    omega
theorem mail_pos {x : Int} {sign : Str} {n : Int} (hs : sign.length = 1) (h1 : 1 ≤ n) (h2 : n ≤ 2) (j : Nat) : 0 < (sendF (mailF x sign n 4) j).cps.size := by
  refine send_pos ?_ j
  have h := mail_len (x := x) hs h1 h2 4
  have h' : 4 ≤ (mailF x sign n 4).cps.size := h.2
  omega
theorem send_step {x : Int} {sign : Str} {n : Int} {pre : List Int} {kN : Int} {mail : Str} (hm : mail = sendF (mailF x sign n 4) pre.length) : quoteS mail = sendF (mailF x sign n 4) (pre ++ [kN]).length := by
  rw [hm, List.length_append]; rfl
theorem send_start {x : Int} {sign : Str} {n : Int} {mail : Str} (h : mail = mailF x sign n (rangeKs 0 (4 - 0 : Int).toNat).length) : mail = sendF (mailF x sign n 4) 0 := h
theorem q_pos {x : Int} {sign : Str} {n : Int} {j : Nat} {mail : Str} (hm : mail = sendF (mailF x sign n 4) j) (hs : sign.length = 1) (h1 : 1 ≤ n) (h2 : n ≤ 2) : 0 < mail.cps.size := hm ▸ mail_pos hs h1 h2 j
theorem q_lt {x : Int} {sign : Str} {n : Int} {j : Nat} {mail : Str} (hm : mail = sendF (mailF x sign n 4) j) (hs : sign.length = 1) (h1 : 1 ≤ n) (h2 : n ≤ 2) (hj : j < (n - 0).toNat) : mail.cps.size < 1000 := hm ▸ send_lt hs h1 h2 (by omega)
end Mine
namespace Mine
def cellF (g : Int) (i : Nat) (sign : Str) : Str := if Builtin.bitAnd g (1 * 2 ^ i) ≠ 0 then sign else sign ++ sign
def lstF (g : Int) (sign : Str) : Str := Txt.join (Str.ofString "\r\n") [cellF g 0 sign, cellF g 1 sign, cellF g 2 sign, cellF g 3 sign]
theorem cell_yes {g : Int} {i : Nat} {sign : Str} {t : Tok} (h : Builtin.bitAnd g (1 * 2 ^ (0 + (i : Int)).toNat) ≠ 0) : ∃ t', Value.str sign t = Value.str (cellF g i sign) t' := by
  have e : (0 + (i : Int)).toNat = i := by omega
  rw [e] at h
  exact ⟨t, by rw [cellF, if_pos h]⟩
theorem cell_no {g : Int} {i : Nat} {sign : Str} {t : Tok} (h : ¬ Builtin.bitAnd g (1 * 2 ^ (0 + (i : Int)).toNat) ≠ 0) : ∃ t', Value.str (sign ++ sign) t = Value.str (cellF g i sign) t' := by
  have e : (0 + (i : Int)).toNat = i := by omega
  rw [e] at h
  exact ⟨t, by rw [cellF, if_neg h]⟩
theorem cell_len {g : Int} {i : Nat} {sign : Str} (hs : sign.length = 1) : (cellF g i sign).length ≤ 2 := by
  unfold cellF
  split
  · omega
  · rw [Str.length_append]; omega
end Mine
end

-- part Base
section
open PySem PySem.W PySem.Calls PyProof.Rows
set_option Elab.async false
set_option maxRecDepth 100000
namespace Mine
/-- what a call of the def at f with the values vs gives, d frames deep at most: it comes back with R -/
def Ctr (prog : Program) (w : World) (K : Frag) (p : Program) (loose : List Str) (mean : ExcName → Option Value) (mg mb : Str → Option Value) (d : Nat) (f : Addr) (vs : List Value)
    (R : Heap → Addr → (Str → Option Value) → List (Addr × Obj) → Shared → (Value → Shared → Prop) → Prop) : Prop :=
  ∀ (dp un : Nat) (gd : Option (List Code)) (cn : Str) (cs : Scope) (a : Addr) (ccd : Value) (cl : List (Str × Addr)) (outer : List Env) (A₀ : Around) (base h₀ : Heap) (L : Addr) (m : Str → Option Value) (news : List (Addr × Obj)) (s : Shared) (Q E : Value → Shared → Prop),
    Below A₀ base outer h₀ → Fr h₀ L s.heap m → K.In h₀ → News h₀ L s.heap news → Top p loose mean mg mb h₀ → cs.kind = .function →
      dp + d < recursionLimit → un + 6 * d + 10 < cLine → R h₀ L m news s Q →
      wpAny (model prog w) (ktrTop dp un gd cn cs L a ccd cl outer) (call (.ref f) vs) Q E s
/-- a plain value comes back, nothing is kept -/
def RV (V : Tok → Value) (h₀ : Heap) (L : Addr) (m : Str → Option Value) (news : List (Addr × Obj)) (s : Shared) (Q : Value → Shared → Prop) : Prop :=
  ∀ (t : Tok) (h' : Heap) (tk' : Nat), Fr h₀ L h' m → News h₀ L h' news → Q (V t) { s with heap := h', toks := tk' }
theorem ctr_use {prog : Program} {w : World} {K : Frag} {p : Program} {loose : List Str} {mean : ExcName → Option Value} {mg mb : Str → Option Value} {d : Nat} {f : Addr} {vs : List Value}
    {R : Heap → Addr → (Str → Option Value) → List (Addr × Obj) → Shared → (Value → Shared → Prop) → Prop} (C : Ctr prog w K p loose mean mg mb d f vs R)
    {dp un : Nat} {gd : Option (List Code)} {cn : Str} {cs : Scope} {a : Addr} {ccd : Value} {cl : List (Str × Addr)} {outer : List Env} {A₀ : Around} {base h₀ : Heap} {L : Addr} {m : Str → Option Value} {news : List (Addr × Obj)} {s : Shared} {Q E : Value → Shared → Prop}
    (B : Below A₀ base outer h₀) (F : Fr h₀ L s.heap m) (X : K.In h₀) (N : News h₀ L s.heap news) (T : Top p loose mean mg mb h₀) (hk : cs.kind = .function)
    (hd : dp + d < recursionLimit) (hu : un + 6 * d + 10 < cLine) (ret : R h₀ L m news s Q) : wpAny (model prog w) (ktrTop dp un gd cn cs L a ccd cl outer) (call (.ref f) vs) Q E s :=
  C dp un gd cn cs a ccd cl outer A₀ base h₀ L m news s Q E B F X N T hk hd hu ret
theorem in_at {K : Frag} {h : Heap} {a : Addr} {o : Obj} (X : K.In h) (e : K.lookup a = some o) : h.get? a = some o := X _ _ e
theorem truthy_split {M : Model} {A : Around} {E : Value → Shared → Prop} {s : Shared} {Q : Bool → Shared → Prop} {b : Bool} (h1 : b = true → Q true s) (h2 : b = false → Q false s) : wpAny M A (truthy (.bool b)) Q E s := by
  cases b with
  | true => exact wpAny_truthy_bool (h1 rfl)
  | false => exact wpAny_truthy_bool (h2 rfl)
theorem ite_T {A B : Prop} (h : A) : (if (true = true) then A else B) := by rw [if_pos rfl]; exact h
theorem ite_F {A B : Prop} (h : B) : (if (false = true) then A else B) := by rw [if_neg Bool.false_ne_true]; exact h
end Mine
end

-- part Base2
section
open PySem PySem.W PySem.Calls PyProof.Rows
set_option Elab.async false
set_option maxRecDepth 100000
namespace Mine
theorem patAt_K {K : Frag} {h : Heap} {P T : Addr} {code : Array Nat} {fs ws : Array Value} {n : Nat} {d d' : Option Addr} {sl sl' : Array (Option Value)} (X : K.In h) (h1 : K.lookup P = some ⟨.type "re.Pattern", d, .fields fs, sl⟩)
    (h2 : fs.getD 5 .none = .ref T) (h3 : PySem.Builtin.Re.reRawNat (fs.getD 2 .none) = 0) (h4 : PySem.Builtin.Re.reRawNat (fs.getD 6 .none) = 0) (h5 : K.lookup T = some ⟨.type "tuple", d', .seq ws n, sl'⟩) (h6 : ((ws.map PySem.Builtin.Re.reRawOf).map (·.toNat)) = code) : PatAt h P code :=
  ⟨fs, T, ws, n, d, d', sl, sl', X _ _ h1, h2, h3, h4, X _ _ h5, h6⟩
theorem twice_le {n : Nat} (h : n < 1000) : 2 * n ≤ 4000 := by omega
theorem hasattr_N {prog : Program} {w : World} {A : Around} {E : Value → Shared → Prop} {s : Shared} {h₀ : Heap} {L : Addr} {m : Str → Option Value} {news : List (Addr × Obj)} {x : Str} {u tk : Tok} {Q : Value → Shared → Prop} (F : Fr h₀ L s.heap m) (N : News h₀ L s.heap news)
    (hq : ∀ h', Fr h₀ L h' m → News h₀ L h' news → Q (.bool true) { s with heap := h' }) : wpAny (model prog w) A (call (.builtin "hasattr") [.str x u, .str "__getitem__" tk]) Q E s := by
  obtain ⟨h, g, d, t, os⟩ := s
  exact hasattr_wp (hq _ (F.push _) (fun p hp => (N.push F _) p (.tail _ hp)))
abbrev C (w : World) (loose : List Str) (mean : ExcName → Option Value) (mg mb : Str → Option Value) (d : Nat) (f : Addr) (vs : List Value) R := Ctr PySem.Challenge.rw_sw0009_01.prog w (hd.heap_39 w.params) hd.view_39 loose mean mg mb d f vs R
end Mine
end

-- part Comp
section
open PySem PySem.W PySem.Calls PyProof.Rows
set_option Elab.async false
set_option maxRecDepth 100000
namespace Mine
/-- a comprehension's item: nothing else is kept, and the item is R -/
def El (news : List (Addr × Obj)) (R : Value → Prop) (y : Value) (news' : List (Addr × Obj)) : Prop := news' = news ∧ R y
section
variable {prog : Program} {w : World} {A : Around} {h₀ : Heap} {L : Addr} {m : Str → Option Value} {env : Env} {elt : PySem.Expr} {x : Str} {scope : Scope} {cl : List (Str × Addr)} {s : Shared} {S : List (Addr × Obj) → Prop} {P : Nat → Value → Prop} {Fin : List Value → List (Addr × Obj) → Prop} {news : List (Addr × Obj)}
theorem comp_rest {n : Nat} (R : Nat → Value → Prop)
    (turn : ∀ i v I oI C oC D m₂ ys h tk (E' : Value → Shared → Prop), i < n → P i v → LCg.NsObj oC m₂ → m₂ x = some v → Fr h₀ L h m → News h₀ L h ((I, oI) :: (C, oC) :: (D, LCg.lst ys) :: news) → LCg.Off3 I C D news → ((@Ne Nat I C) ∧ (@Ne Nat I D) ∧ (@Ne Nat C D)) →
      wpAny (model prog w) A (eval elt (compEnvC scope cl C env)) (LCg.CompEnd h₀ L m { s with heap := h, toks := tk } I oI C oC D (LCg.lst ys) S (fun y news' => El news (R i) y news')) E' { s with heap := h, toks := tk })
    (fin : ∀ ys, ys.length = n → (∀ i y, ys[i]? = some y → R i y) → Fin ys news) : LCg.CompRest prog w A h₀ L m env elt x scope cl s S P Fin n 0 [] news := by
  have key : ∀ (j i : Nat) (ys : List Value), i + j = n → ys.length = i → (∀ i y, ys[i]? = some y → R i y) → LCg.CompRest prog w A h₀ L m env elt x scope cl s S P Fin j i ys news := by
    intro j
    induction j with
    | zero =>
      intro i ys hi hl hy
      exact LCg.CompRest.zero (fin ys (by omega) hy)
    | succ j ih =>
      intro i ys hi hl hy
      refine LCg.CompRest.succ ?_
      intro v I oI C oC D m₂ h tk E' hv hC hx F N off ne
      refine wpAny_mono (turn i v I oI C oC D m₂ ys h tk E' (by omega) hv hC hx F N off ne) (fun y s₂ hq => ?_) fun _ _ e => e
      obtain ⟨h', tk', nw, e, F', N', off', hS, hn, hy'⟩ := hq
      rw [hn] at N' off' hS
      refine ⟨h', tk', news, e, F', N', off', hS, ?_⟩
      refine ih (i + 1) _ (by omega) (by simp [hl]) ?_
      intro k z hz
      by_cases hk : k < ys.length
      · rw [List.getElem?_append_left hk] at hz
        exact hy k z hz
      · rw [List.getElem?_append_right (by omega)] at hz
        have hk' : k - ys.length = 0 := by
          have := List.getElem?_eq_some_iff.mp hz
          obtain ⟨h1, _⟩ := this
          simp at h1
          exact h1
        rw [hk'] at hz
        have : k = i := by omega
        subst this
        cases hz
        exact hy'
  exact key n 0 [] (by omega) rfl (fun i y h => by simp at h)
theorem comp_range {n : Nat} {a : Int} (R : Nat → Value → Prop)
    (turn : ∀ (i : Nat) t I oI C oC D m₂ ys h tk (E' : Value → Shared → Prop), i < n → LCg.NsObj oC m₂ → m₂ x = some (.int (a + (i : Int)) t) → Fr h₀ L h m → News h₀ L h ((I, oI) :: (C, oC) :: (D, LCg.lst ys) :: news) → LCg.Off3 I C D news → ((@Ne Nat I C) ∧ (@Ne Nat I D) ∧ (@Ne Nat C D)) →
      wpAny (model prog w) A (eval elt (compEnvC scope cl C env)) (LCg.CompEnd h₀ L m { s with heap := h, toks := tk } I oI C oC D (LCg.lst ys) S (fun y news' => El news (R i) y news')) E' { s with heap := h, toks := tk })
    (fin : ∀ ys, ys.length = n → (∀ i y, ys[i]? = some y → R i y) → Fin ys news) : LCg.CompRest prog w A h₀ L m env elt x scope cl s S (fun i v => ∃ t, v = .int (a + (i : Int)) t) Fin n 0 [] news :=
  comp_rest R (fun i v I oI C oC D m₂ ys h tk E' hi hv hC hx F N off ne => by
    obtain ⟨t, rfl⟩ := hv
    exact turn i t I oI C oC D m₂ ys h tk E' hi hC hx F N off ne) fin
theorem comp_ints {vs : List Value} {ns : List Int} (R : Nat → Value → Prop) (hi : IntsAre vs ns)
    (turn : ∀ (i : Nat) k t I oI C oC D m₂ ys h tk (E' : Value → Shared → Prop), ns[i]? = some k → LCg.NsObj oC m₂ → m₂ x = some (.int k t) → Fr h₀ L h m → News h₀ L h ((I, oI) :: (C, oC) :: (D, LCg.lst ys) :: news) → LCg.Off3 I C D news → ((@Ne Nat I C) ∧ (@Ne Nat I D) ∧ (@Ne Nat C D)) →
      wpAny (model prog w) A (eval elt (compEnvC scope cl C env)) (LCg.CompEnd h₀ L m { s with heap := h, toks := tk } I oI C oC D (LCg.lst ys) S (fun y news' => El news (R i) y news')) E' { s with heap := h, toks := tk })
    (fin : ∀ ys, ys.length = ns.length → (∀ i y, ys[i]? = some y → R i y) → Fin ys news) : LCg.CompRest prog w A h₀ L m env elt x scope cl s S (fun i v => vs.toArray[i]? = some v) Fin vs.toArray.size 0 [] news :=
  comp_rest R (fun i v I oI C oC D m₂ ys h tk E' _ hv hC hx F N off ne => by
    obtain ⟨k, t, e, hk⟩ := IntsAre.at hi i v (by simpa using hv)
    subst e
    exact turn i k t I oI C oC D m₂ ys h tk E' hk hC hx F N off ne) (fun ys hl hy => fin ys (by rw [hl, List.size_toArray, hi.length]) hy)
theorem compEnd_el {s₁ : Shared} {I C D : Addr} {oI oC oD : Obj} {R : Value → Prop} {y : Value} {h' : Heap} {tk : Nat} {all : List (Addr × Obj)}
    (F : Fr h₀ L h' m) (N : News h₀ L h' all) (sub : ∀ p ∈ (I, oI) :: (C, oC) :: (D, oD) :: news, p ∈ all) (off : LCg.Off3 I C D news) (hS : S news) (r : R y) :
    LCg.CompEnd h₀ L m s₁ I oI C oC D oD S (fun y news' => El news R y news') y { s₁ with heap := h', toks := tk } := LCg.CompEnd.intro F N news sub off hS ⟨rfl, r⟩
end
theorem four_of {R : Nat → Value → Prop} {ys : List Value} (h : ys.length = 4) (hR : ∀ i y, ys[i]? = some y → R i y) : ∃ y0 y1 y2 y3, ys = [y0, y1, y2, y3] ∧ R 0 y0 ∧ R 1 y1 ∧ R 2 y2 ∧ R 3 y3 := by
  match ys, h with
  | [y0, y1, y2, y3], _ => exact ⟨y0, y1, y2, y3, rfl, hR 0 _ rfl, hR 1 _ rfl, hR 2 _ rfl, hR 3 _ rfl⟩
theorem joinOk_small {sep : Str} {l : List Str} (h : (l.map (·.length)).sum + l.length * sep.length ≤ 10000) : JoinOk sep l = true := by
  have key : ∀ (l : List Str) (a : Nat), l.foldl (· + ·.length + sep.length) a = a + (l.map (·.length)).sum + l.length * sep.length := by
    intro l
    induction l with
    | nil => intro a; simp
    | cons x r ih => intro a; simp only [List.foldl_cons, List.map_cons, List.sum_cons, List.length_cons]; rw [ih, Nat.succ_mul]; omega
  unfold JoinOk
  rw [List.foldl_toArray, key]
  have : Builtin.Str.tooLong (0 + (l.map (·.length)).sum + l.length * sep.length) = false := by
    unfold Builtin.Str.tooLong
    have : sizeLine = 16777216 := by decide
    simp
    omega
  rw [this]; rfl
section
variable {prog : Program} {w : World} {A : Around} {h₀ : Heap} {L : Addr} {m : Str → Option Value} {env : Env} {elt : PySem.Expr} {x : Str} {scope : Scope} {cl : List (Str × Addr)} {s : Shared} {S : List (Addr × Obj) → Prop} {Fin : List Value → List (Addr × Obj) → Prop} {news : List (Addr × Obj)}
/-- four texts -/
theorem comp_texts4 {a : Int} (c : Nat → Str)
    (turn : ∀ (i : Nat) t I oI C oC D m₂ ys h tk (E' : Value → Shared → Prop), i < 4 → LCg.NsObj oC m₂ → m₂ x = some (.int (a + (i : Int)) t) → Fr h₀ L h m → News h₀ L h ((I, oI) :: (C, oC) :: (D, LCg.lst ys) :: news) → LCg.Off3 I C D news → ((@Ne Nat I C) ∧ (@Ne Nat I D) ∧ (@Ne Nat C D)) →
      wpAny (model prog w) A (eval elt (compEnvC scope cl C env)) (LCg.CompEnd h₀ L m { s with heap := h, toks := tk } I oI C oC D (LCg.lst ys) S (fun y news' => El news (fun y => ∃ t, y = .str (c i) t) y news')) E' { s with heap := h, toks := tk })
    (fin : ∀ u0 u1 u2 u3, Fin [.str (c 0) u0, .str (c 1) u1, .str (c 2) u2, .str (c 3) u3] news) : LCg.CompRest prog w A h₀ L m env elt x scope cl s S (fun i v => ∃ t, v = .int (a + (i : Int)) t) Fin 4 0 [] news :=
  comp_range (fun i y => ∃ t, y = .str (c i) t) turn (fun ys hl hR => by
    obtain ⟨y0, y1, y2, y3, rfl, ⟨u0, rfl⟩, ⟨u1, rfl⟩, ⟨u2, rfl⟩, ⟨u3, rfl⟩⟩ := four_of hl hR
    exact fin u0 u1 u2 u3)
/-- four bools -/
theorem comp_bools4 {a : Int} (c : Nat → Bool)
    (turn : ∀ (i : Nat) t I oI C oC D m₂ ys h tk (E' : Value → Shared → Prop), i < 4 → LCg.NsObj oC m₂ → m₂ x = some (.int (a + (i : Int)) t) → Fr h₀ L h m → News h₀ L h ((I, oI) :: (C, oC) :: (D, LCg.lst ys) :: news) → LCg.Off3 I C D news → ((@Ne Nat I C) ∧ (@Ne Nat I D) ∧ (@Ne Nat C D)) →
      wpAny (model prog w) A (eval elt (compEnvC scope cl C env)) (LCg.CompEnd h₀ L m { s with heap := h, toks := tk } I oI C oC D (LCg.lst ys) S (fun y news' => El news (fun y => y = .bool (c i)) y news')) E' { s with heap := h, toks := tk })
    (fin : Fin [.bool (c 0), .bool (c 1), .bool (c 2), .bool (c 3)] news) : LCg.CompRest prog w A h₀ L m env elt x scope cl s S (fun i v => ∃ t, v = .int (a + (i : Int)) t) Fin 4 0 [] news :=
  comp_range (fun i y => y = .bool (c i)) turn (fun ys hl hR => by
    obtain ⟨y0, y1, y2, y3, rfl, rfl, rfl, rfl, rfl⟩ := four_of hl hR
    exact fin)
end
theorem join4 {prog : Program} {w : World} {A : Around} {E : Value → Shared → Prop} {s : Shared} {h₀ : Heap} {L D : Addr} {news : List (Addr × Obj)} {sep s0 s1 s2 s3 : Str} {t t0 t1 t2 t3 : Tok} {Q : Value → Shared → Prop}
    (N : News h₀ L s.heap news) (hm : (D, LCg.lst [.str s0 t0, .str s1 t1, .str s2 t2, .str s3 t3]) ∈ news) (hl : s0.length ≤ 100 ∧ s1.length ≤ 100 ∧ s2.length ≤ 100 ∧ s3.length ≤ 100) (hs : sep.length ≤ 100)
    (hq : ∀ t' k, Q (.str (Txt.join sep [s0, s1, s2, s3]) t') { s with toks := k }) : wpAny (model prog w) A (call (.builtin "str.join") [.str sep t, .ref D]) Q E s := by
  have hL : s.heap.IsList D (strValues [(s0, t0), (s1, t1), (s2, t2), (s3, t3)]).toArray := ⟨_, (N _ hm).1, rfl, _, rfl⟩
  refine SC.join hL rfl (joinOk_small ?_) hq
  simp only [List.map_cons, List.map_nil, List.sum_cons, List.sum_nil, List.length_cons, List.length_nil]
  omega
end Mine
end

section
open PySem PySem.W PySem.Calls PyProof.Rows Mine
local macro_rules | `(tactic| walk_at "truthy bool") => `(tactic| ((with_reducible show wpAny _ _ (truthy (Value.bool (_ == _))) _ _ _); refine truthy_split ?_ ?_ <;> intro hTr' <;> (try dsimp only) <;> (first | with_reducible refine ite_T ?_ | with_reducible refine ite_F ?_ | skip)))
local macro_rules | `(tactic| walk_at "pyIter ref") => `(tactic| (k_here; k_dflt (k_extra "pyIter ref")))
local macro_rules | `(tactic| walk_at "getMethod ref") => `(tactic| (k_here; (with_reducible show wpAny _ _ (getMethod (Value.ref _) (PySem.Str.ofString "sub") _) _ _ _); k_dflt (refine' patMeth ?F ?P ?c ?d ?_; (case F => k_asm); (case P => exact in_at (by assumption) (by k_is)); (case c => rfl); (case d => rfl); k_whole)))
local macro_rules | `(tactic| walk_at "call builtin:re.Pattern.sub") => `(tactic| (k_here; k_dflt (first
  | (refine' sub2_wp ?F ?N ?P ?z0 ?z ?r ?_; (case F => k_asm); (case N => k_asm); (case P => exact patAt_K (by assumption) (by k_is) rfl rfl rfl (by k_is) (by decide +kernel)); (case r => decide +kernel); (case z0 => assumption); (case z => exact Nat.le_of_lt (Nat.lt_of_lt_of_le (by assumption) (by decide))); k_whole; intro h' tk' t' F' N')
  | (refine' sub1_wp ?F ?N ?P ?z0 ?z ?r ?_; (case F => k_asm); (case N => k_asm); (case P => exact patAt_K (by assumption) (by k_is) rfl rfl rfl (by k_is) (by decide +kernel)); (case r => decide +kernel); (case z0 => exact normS_pos (by assumption)); (case z => exact Nat.le_trans (normS_le _) (twice_le (by assumption))); k_whole; intro h' tk' t' F' N'))))
local macro_rules | `(tactic| walk_at "call builtin:hasattr") => `(tactic| (k_here; k_dflt (refine' hasattr_N ?F ?N ?_; (case F => k_asm); (case N => k_asm); k_whole; intro h' F' N')))
local macro_rules | `(tactic| walk_at "CompSrc") => `(tactic| (k_here; k_dflt (k_extra "CompSrc")))
local macro_rules | `(tactic| walk_at "CompEnd") => `(tactic| (k_dflt (refine' compEnd_el ?F ?N ?s ?o ?S ?_; (case F => assumption); (case N => assumption); (case s => kcf_all); (case o => first | assumption | (simp only [LCg.Off3, and_true]; done) | (simp only [LCg.Off3, and_true]; assumption)); (case S => first | lcg_src | assumption); (try dsimp only))))

-- part H1
section
open PySem PySem.W PySem.Calls PyProof.Rows
set_option Elab.async false
set_option maxRecDepth 100000
set_option maxHeartbeats 1000000
namespace Mine
section
variable (w : World) (loose : List Str) (mean : ExcName → Option Value) (mg mb : Str → Option Value)
theorem concat_ctr (a b : Str) (t1 t2 : Tok) (ha : a.length ≤ 1000) (hb : b.length ≤ 1000) : C w loose mean mg mb 1 80 [.str a t1, .str b t2] (RV (.str (a ++ b))) := by
  w_top off
  unfold C
  k_fill
  unfold Ctr RV
  intro dp un gd cn cs a' ccd cl outer A₀ base h₀ L m news s Q E hB hF hK hN hT hk hdp hu hret
  refine wpAny_call ?_
  k_dflt cell_enter
  k_steps
  all_goals exact hret _ _ _ (by assumption) (by assumption)
theorem quote_ctr (x : Str) (t : Tok) (hx0 : 0 < x.cps.size) (hx : x.cps.size < 1000) : C w loose mean mg mb 1 111 [.str x t] (RV (.str (quoteS x))) := by
  w_top off
  unfold C
  k_fill
  unfold Ctr RV
  intro dp un gd cn cs a' ccd cl outer A₀ base h₀ L m news s Q E hB hF hK hN hT hk hdp hu hret
  refine wpAny_call ?_
  k_dflt cell_enter
  k_steps
  all_goals exact hret _ _ _ (by assumption) (by assumption)
theorem truth_ctr (i : Int) (t1 : Tok) : C w loose mean mg mb 1 45 [.int i t1] (RV fun _ => .bool (decide (i ≠ 0))) := by
  w_top off
  unfold C
  k_fill
  unfold Ctr RV
  intro dp un gd cn cs a' ccd cl outer A₀ base h₀ L m news s Q E hB hF hK hN hT hk hdp hu hret
  refine wpAny_call ?_
  k_dflt cell_enter
  k_steps
  · rename_i hi _ _ _ _
    rw [show decide (i ≠ 0) = true from decide_eq_true hi] at hret
    exact hret 0 _ _ (by assumption) (by assumption)
  · rename_i hi _ _ _ _
    rw [show decide (i ≠ 0) = false from decide_eq_false (fun h => h hi)] at hret
    exact hret 0 _ _ (by assumption) (by assumption)
theorem and_ctr (i j : Int) (t1 t2 : Tok) : C w loose mean mg mb 1 59 [.int i t1, .int j t2] (RV (.int (Builtin.bitAnd i j))) := by
  w_top off
  unfold C
  k_fill
  unfold Ctr RV
  intro dp un gd cn cs a' ccd cl outer A₀ base h₀ L m news s Q E hB hF hK hN hT hk hdp hu hret
  refine wpAny_call ?_
  k_dflt cell_enter
  k_steps
  all_goals exact hret _ _ _ (by assumption) (by assumption)
theorem lshift_ctr (j : Int) (t1 t2 : Tok) (hj : 0 ≤ j) (hj' : j < 4) : C w loose mean mg mb 1 66 [.int 1 t1, .int j t2] (RV (.int (1 * 2 ^ j.toNat))) := by
  w_top off
  unfold C
  k_fill
  unfold Ctr RV
  intro dp un gd cn cs a' ccd cl outer A₀ base h₀ L m news s Q E hB hF hK hN hT hk hdp hu hret
  refine wpAny_call ?_
  k_dflt cell_enter
  k_steps
  all_goals exact hret _ _ _ (by assumption) (by assumption)
theorem xor_ctr (i j : Int) (t1 t2 : Tok) : C w loose mean mg mb 1 73 [.int i t1, .int j t2] (RV (.int (Builtin.bitXor i j))) := by
  w_top off
  unfold C
  k_fill
  unfold Ctr RV
  intro dp un gd cn cs a' ccd cl outer A₀ base h₀ L m news s Q E hB hF hK hN hT hk hdp hu hret
  refine wpAny_call ?_
  k_dflt cell_enter
  k_steps
  all_goals exact hret _ _ _ (by assumption) (by assumption)
theorem add_ctr (i j : Int) (t1 t2 : Tok) : C w loose mean mg mb 1 52 [.int i t1, .int j t2] (RV (.int (i + j))) := by
  w_top off
  unfold C
  k_fill
  unfold Ctr RV
  intro dp un gd cn cs a' ccd cl outer A₀ base h₀ L m news s Q E hB hF hK hN hT hk hdp hu hret
  refine wpAny_call ?_
  k_dflt cell_enter
  k_steps
  all_goals exact hret _ _ _ (by assumption) (by assumption)
end
end Mine
end

-- part P2
section
open PySem PySem.W PySem.Calls PyProof.Rows
set_option Elab.async false
set_option maxRecDepth 100000
set_option maxHeartbeats 2000000
namespace Mine
local macro_rules | `(tactic| walk_at "call ref") => `(tactic| (k_here; (with_reducible show wpAny _ _ (call (Value.ref 80) [Value.str _ _, Value.str _ _]) _ _ _); k_dflt (refine' ctr_use (concat_ctr _ _ _ _ _ _ _ _ _ ?p0 ?p1) ?B ?F ?K ?N ?T ?k ?d ?u ?_; (case B => k_asm); (case F => k_asm); (case K => k_asm); (case N => k_asm); (case T => k_asm); (case k => first | exact rfl | assumption); (case d => ktr_room); (case u => ktr_units); (case p0 => first | omega | (refine app_len ?_ ?_; (· first | omega | exact dots_len _ _ (by assumption) (by assumption)); (· decide)) | (refine Nat.le_trans (dots_len _ _ ?_ ?_) ?_; (· assumption); (· assumption); (· decide)) | decide); (case p1 => first | omega | (refine app_len ?_ ?_; (· first | omega | exact dots_len _ _ (by assumption) (by assumption)); (· decide)) | (refine Nat.le_trans (dots_len _ _ ?_ ?_) ?_; (· assumption); (· assumption); (· decide)) | decide); k_whole; unfold RV; intro t9 h9 tk9 F9 N9; (try dsimp only); (try k_fold))))
local macro_rules | `(tactic| walk_at "call ref") => `(tactic| (k_here; (with_reducible show wpAny _ _ (call (Value.ref 111) [Value.str _ _]) _ _ _); k_dflt (refine' ctr_use (quote_ctr _ _ _ _ _ _ _ ?p0 ?p1) ?B ?F ?K ?N ?T ?k ?d ?u ?_; (case B => k_asm); (case F => k_asm); (case K => k_asm); (case N => k_asm); (case T => k_asm); (case k => first | exact rfl | assumption); (case d => ktr_room); (case u => ktr_units); (case p0 => exact q_pos (by assumption) (by assumption) (by assumption) (by assumption)); (case p1 => exact q_lt (by assumption) (by assumption) (by assumption) (by assumption) (by assumption)); k_whole; unfold RV; intro t9 h9 tk9 F9 N9; (try dsimp only); (try k_fold))))
theorem menu3 {prog : Program} {w : World} {A : Around} {E : Value → Shared → Prop} {s : Shared} {h₀ : Heap} {L l : Addr} {news : List (Addr × Obj)} {nn : Nat} {v0 v1 v2 : Value} {i : Int} {u : Tok} {value slice : PySem.Expr} {Q : Value → Shared → Prop}
    (N : News h₀ L s.heap news) (hl : (l, ({ cls := .type "list", data := .seq #[v0, v1, v2] nn } : Obj)) ∈ news) (h0 : 0 ≤ i) (h3 : i < 3) (a0 : i = 0 → Q v0 s) (a1 : i = 1 → Q v1 s) (a2 : i = 2 → Q v2 s)
    (hs : subscripted slice false (.ref l) (.int i u) = operate [.ref l, .int i u] (getItem (.ref l) (.int i u)) := by with_unfolding_all rfl) : wpAny (model prog w) A (subscriptTail value slice (.ref l) (.int i u)) Q E s := by
  have hL : s.heap.IsList l #[v0, v1, v2] := ⟨_, (N _ hl).1, rfl, nn, rfl⟩
  have hc : i = 0 ∨ i = 1 ∨ i = 2 := by omega
  rcases hc with h | h | h
  · exact tail_any hL.typeIs slot_list_getitem.lookup (wpAny_getItem_list hL h0 (by omega) (by rw [h]; rfl) (a0 h)) hs
  · exact tail_any hL.typeIs slot_list_getitem.lookup (wpAny_getItem_list hL h0 (by omega) (by rw [h]; rfl) (a1 h)) hs
  · exact tail_any hL.typeIs slot_list_getitem.lookup (wpAny_getItem_list hL h0 (by omega) (by rw [h]; rfl) (a2 h)) hs
local macro_rules | `(tactic| walk_at "subscriptTail List") => `(tactic| (k_here; (with_reducible show wpAny _ _ (subscriptTail _ _ (Value.ref _) (Value.int _ _)) _ _ _); k_dflt (refine' menu3 ?N ?l ?h0 ?h3 ?_ ?_ ?_; (case N => k_asm); (case l => k_mem); (case h0 => exact Int.fmod_nonneg_of_pos _ (by decide)); (case h3 => exact Int.fmod_lt_of_pos _ (by decide)); all_goals intro hMn')))
theorem fin_pat {h₀ : Heap} {L : Addr} {m : Str → Option Value} {news : List (Addr × Obj)} {s : Shared} {Q : Value → Shared → Prop} {M v : Str} {k : Int} {h' : Heap} {t : Tok} {tk' : Nat}
    (hret : ∀ (t : Tok) (h' : Heap) (tk' : Nat), Fr h₀ L h' m → News h₀ L h' news → Q (.str (sendF M k.toNat) t) { s with heap := h', toks := tk' }) (e : v = sendF M (rangeKs 0 (k - 0).toNat).length) (F : Fr h₀ L h' m) (N : News h₀ L h' news) : Q (.str v t) { s with heap := h', toks := tk' } := by
  rw [rangeKs_length, Int.sub_zero] at e
  subst e
  exact hret t h' tk' F N
theorem pat_ctr (w : World) (loose : List Str) (mean : ExcName → Option Value) (mg mb : Str → Option Value) (x k : Int) (sign : Str) (t1 t2 t3 : Tok) (hx0 : 0 ≤ x) (hx : x < 1000000) (hs : sign.length = 1) (hk1 : 1 ≤ k) (hk2 : k ≤ 2) :
    C w loose mean mg mb 2 118 [.int x t1, .str sign t2, .int k t3] (RV (.str (sendF (mailF x sign k 4) k.toNat))) := by
  w_top off
  unfold C
  k_fill
  unfold Ctr RV
  intro dp un gd cn cs a' ccd cl outer A₀ base h₀ L m news s Q E hB hF hK hN hT hk hdp hu hret
  refine wpAny_call ?_
  k_dflt cell_enter
  k_with_none
  k_with "exec For Name Call cons nil" => kpr_for
  k_with "state" => first
    | exact send_step (by assumption)
    | exact pat_step (by assumption) (by assumption) (by first | exact row_sign (by assumption) (by assumption) | exact row_dots (by assumption) (by assumption)) (by first | exact sep_0 (by assumption) (by assumption) (by assumption) | exact sep_1 (by assumption) (by assumption) (by assumption) | exact sep_2 (by assumption) (by assumption) (by assumption) | exact sep_3 (by assumption) (by omega)) (by first | omega | exact dots_len _ _ (by assumption) (by assumption)) (by decide)
    | exact send_start (by assumption)
    | exact pat_start x sign k
  k_with "pyIter ref" => (k_of "turn" => k_state (fun (pre : List Int) (mail : Str) => mail = sendF (mailF x sign k 4) pre.length) "mail")
  k_with "pyIter ref" => (k_of "k" => k_state_short (fun (pre : List Int) (mail : Str) => mail = mailF x sign k pre.length ∧ mail.length ≤ 9 * pre.length) "mail")
  repeat' (first | (k_unfold; (try dsimp only)) | (k_end; wrow_close) | walk1 | (dsimp only; walk1) | (leave1; (try dsimp only)))
  rotate_left
  all_goals exact fin_pat hret (by assumption) (by assumption) (by assumption)
end Mine
end

-- part L1
section
open PySem PySem.W PySem.Calls PyProof.Rows
set_option Elab.async false
set_option maxRecDepth 100000
set_option maxHeartbeats 2000000
namespace Mine
local macro_rules | `(tactic| walk_at "listing one") => `(tactic| fail)
local macro_rules | `(tactic| walk_at "call ref") => `(tactic| (k_here; (with_reducible show wpAny _ _ (call (Value.ref 45) [Value.int _ _]) _ _ _); k_dflt (refine' ctr_use (truth_ctr _ _ _ _ _ _ _ ) ?B ?F ?K ?N ?T ?k ?d ?u ?_; (case B => k_asm); (case F => k_asm); (case K => k_asm); (case N => k_asm); (case T => k_asm); (case k => first | exact rfl | assumption); (case d => ktr_room); (case u => ktr_units);  k_whole; unfold RV; intro t9 h9 tk9 F9 N9; (try dsimp only); (try k_fold))))
local macro_rules | `(tactic| walk_at "call ref") => `(tactic| (k_here; (with_reducible show wpAny _ _ (call (Value.ref 59) [Value.int _ _, Value.int _ _]) _ _ _); k_dflt (refine' ctr_use (and_ctr _ _ _ _ _ _ _ _ _ ) ?B ?F ?K ?N ?T ?k ?d ?u ?_; (case B => k_asm); (case F => k_asm); (case K => k_asm); (case N => k_asm); (case T => k_asm); (case k => first | exact rfl | assumption); (case d => ktr_room); (case u => ktr_units);  k_whole; unfold RV; intro t9 h9 tk9 F9 N9; (try dsimp only); (try k_fold))))
local macro_rules | `(tactic| walk_at "call ref") => `(tactic| (k_here; (with_reducible show wpAny _ _ (call (Value.ref 66) [Value.int _ _, Value.int _ _]) _ _ _); k_dflt (refine' ctr_use (lshift_ctr _ _ _ _ _ _ _ _ ?p0 ?p1) ?B ?F ?K ?N ?T ?k ?d ?u ?_; (case B => k_asm); (case F => k_asm); (case K => k_asm); (case N => k_asm); (case T => k_asm); (case k => first | exact rfl | assumption); (case d => ktr_room); (case u => ktr_units); (case p0 => first | assumption | omega | decide); (case p1 => first | assumption | omega | decide); k_whole; unfold RV; intro t9 h9 tk9 F9 N9; (try dsimp only); (try k_fold))))
theorem list_ctr (w : World) (loose : List Str) (mean : ExcName → Option Value) (mg mb : Str → Option Value) (g : Int) (sign : Str) (t1 t2 : Tok) (hs : sign.length = 1) :
    C w loose mean mg mb 2 123 [.int g t1, .str sign t2] (RV (.str (lstF g sign))) := by
  w_top off
  unfold C
  k_fill
  unfold Ctr
  try unfold RV
  intro dp un gd cn cs a' ccd cl outer A₀ base h₀ L m news s Q E hB hF hK hN hT hk hdp hu hret
  refine wpAny_call ?_
  k_dflt (refine' code_defC ?k1 ?k2 ?k3 ?k4 ?k5 ?kA ?kF ?kK ?k6 ?k7 ?k8 ?k9 ?kB ?kD ?_ ?c2 ?c3 ?c4; (case kA => exact rfl); (case kF => exact rfl); (case kK => assumption); (case k1 => k_asm); (case k2 => k_asm); (case k3 => k_asm); (case k4 => k_asm); (case k5 => k_asm); (case k6 => k_is); (case k7 => k_is); (case k8 => ktr_room); (case k9 => exact BindsTo.of_eq rfl); (case kB => exact rfl); (case kD => decide +kernel); (case c2 => exact rfl); (case c3 => exact rfl); (case c4 => exact rfl); k_whole; intro g' L' h' tk' cells' FG' F' N' Y' B' X' T' l1; (try k_lt l1); k_cells Y'; (try simp only [List.cons_append, List.nil_append] at N'); (try dsimp only); (try k_lift B'); (try k_fold))
  k_with_none
  k_with "CompSrc" => (refine LCg.CompSrc.range (by rfl) (by k_asm) (by k_asm) (by assumption) (by decide) (by first | exact rangeSize_nat _ _ | rfl) (by exact Nat.le_of_ble_eq_true rfl) ?_; intro gS'; (refine' comp_texts4 (fun i => cellF g i sign) (fun i' t' I' oI' C' oC' D' m' ys' h' tk' E' hi' hC' hx' F' N' off' ne' => ?_) (fun u0 u1 u2 u3 => ?_)); all_goals (try (simp only [LCg.Off3, and_true] at off')); kcf_last)
  k_with "Exists" => first | exact cell_yes (by assumption) | exact cell_no (by assumption)
  k_with "call builtin:str.join" => (k_dflt (refine' join4 ?N ?m ?l ?e ?_; (case N => k_asm); (case m => k_mem); (case l => exact ⟨Nat.le_trans (cell_len hs) (by decide), Nat.le_trans (cell_len hs) (by decide), Nat.le_trans (cell_len hs) (by decide), Nat.le_trans (cell_len hs) (by decide)⟩); (case e => decide); k_whole; intro t9 k9))
  repeat' (first | (k_unfold; (try dsimp only)) | (k_end; wrow_close) | walk1 | (dsimp only; walk1) | (leave1; (try dsimp only)))
  all_goals exact hret _ _ _ (by assumption) (by first | assumption | (refine' cb_drop ?cbN ?cbS; (case cbN => assumption); (case cbS => kcj_all)))
end Mine
end

-- part Seq
section
open PySem PySem.W PySem.Calls PyProof.Rows PySem.Builtin PySem.Builtin.Str
set_option Elab.async false
set_option maxRecDepth 100000
namespace Mine
theorem le_line {n : Nat} (h : n ≤ 1000) : n ≤ sizeLine := by
  have : sizeLine = 16777216 := by decide
  omega
section
variable {prog : Program} {w : World} {A : Around} {E : Value → Shared → Prop} {s : Shared} {h₀ : Heap} {L D : Addr} {m : Str → Option Value} {news news' : List (Addr × Obj)}
theorem truthy_text {x : Str} {t : Tok} {Q : Bool → Shared → Prop} (hl : x.length ≤ 1000) (h1 : x.length ≠ 0 → ∀ k, Q true { s with toks := k }) (h0 : x.length = 0 → ∀ k, Q false { s with toks := k }) : wpAny (model prog w) A (truthy (.str x t)) Q E s := by
  refine P.truthy_str (by omega) ?_
  by_cases h : x.length = 0
  · have e : ((x.length : Int) != 0) = false := by simp [h]
    rw [e]; exact h0 h _
  · have e : ((x.length : Int) != 0) = true := by simp; omega
    rw [e]; exact h1 h _
theorem item_at {its : List Value} {n j : Nat} {i : Int} {u : Tok} {v : Value} {value slice : PySem.Expr} {Q : Value → Shared → Prop} (N : News h₀ L s.heap news) (hm : (D, lstO its n) ∈ news) (hb : -(2 ^ 63) ≤ i ∧ i < 2 ^ 63) (hj : seqIndex? i its.length = some j) (hv : its[j]? = some v) (h : Q v s)
    (hs : subscripted slice false (.ref D) (.int i u) = operate [.ref D, .int i u] (getItem (.ref D) (.int i u)) := by with_unfolding_all rfl) : wpAny (model prog w) A (subscriptTail value slice (.ref D) (.int i u)) Q E s := by
  have hL : s.heap.IsList D its.toArray := ⟨_, (N _ hm).1, rfl, n, rfl⟩
  unfold seqIndex? at hj
  by_cases hi : i < 0
  · simp only [hi, ↓reduceIte] at hj
    split at hj
    · rename_i hc
      simp only [Bool.and_eq_true, decide_eq_true_eq] at hc
      injection hj with hj
      refine tail_any hL.typeIs slot_list_getitem.lookup (wpAny_getItem_list_neg hL hi (by rw [List.size_toArray]; omega) hb.1 ?_ h) hs
      rw [List.size_toArray, hj]; simpa using hv
    · cases hj
  · simp only [hi, ↓reduceIte] at hj
    split at hj
    · injection hj with hj
      refine tail_any hL.typeIs slot_list_getitem.lookup (wpAny_getItem_list hL (by omega) hb.2 ?_ h) hs
      rw [hj]; simpa using hv
    · cases hj
theorem del_at {its its' : List Value} {n k : Nat} {i : Int} {u : Tok} {Q : Unit → Shared → Prop} (F : Fr h₀ L s.heap m) (N : News h₀ L s.heap news) (hfit : Builtin.List.listFitsIndex i = true) (hk : seqIndex? i its.length = some k) (he : its.eraseIdx k = its')
    (U : Upd D (lstO its n) (lstO its' (n + 1)) news news') (hz : its.length ≤ 1000) (h : ∀ h', Fr h₀ L h' m → News h₀ L h' news' → Q () { s with heap := h' }) : wpAny (model prog w) A (delItem (.ref D) (.int i u)) Q E s := by
  obtain ⟨pre, post, rfl, rfl, a, b⟩ := U.split
  have z := N (D, lstO its n) (List.mem_append.mpr (.inr (.head _)))
  refine delItem_at (its := its.toArray) (n := n) z.1 hfit (by rw [List.size_toArray]; exact hk) (fun h' hs ho' => h h' (F.change hs z.2.1 z.2.2) (W.news_set N a b hs ?_)) (by rw [List.size_toArray]; exact le_line hz)
  rw [ho']
  show some (lstO (its.eraseIdx k) (n + 1)) = _
  rw [he]
theorem len_at {its : List Value} {n : Nat} {Q : Value → Shared → Prop} (N : News h₀ L s.heap news) (hm : (D, lstO its n) ∈ news) (hz : its.length ≤ 1000) (h : ∀ t k, Q (.int its.length t) { s with toks := k }) : wpAny (model prog w) A (call (.builtin "len") [.ref D]) Q E s := by
  have hL : s.heap.IsList D its.toArray := ⟨_, (N _ hm).1, rfl, n, rfl⟩
  refine call_len_list hL (by rw [List.size_toArray]; omega) ?_
  rw [List.size_toArray]
  exact h _ _
theorem two_ends {α : Type} {β : Type} {f : α → β} {l : List α} {ys : List β} (e : l.map f = ys) (h : 2 ≤ ys.length) : ∃ a mid b, l = a :: (mid ++ [b]) ∧ ys = f a :: (mid.map f ++ [f b]) := by
  subst e
  cases l with
  | nil => simp at h
  | cons a r =>
    have hr : r ≠ [] := by rintro rfl; simp at h
    refine ⟨a, r.dropLast, r.getLast hr, ?_, ?_⟩
    · rw [List.dropLast_concat_getLast]
    · conv => lhs; rw [← List.dropLast_concat_getLast hr]
      simp
theorem split_ends {x y : Str} {t u : Tok} {Q : Value → Shared → Prop} (F : Fr h₀ L s.heap m) (N : News h₀ L s.heap news) (hy : (y.length == 0) = false) (hx : x.length ≤ 1000) (h2 : 2 ≤ (Txt.split x y).length)
    (h : ∀ W' a0 u0 mid bn vn h' k, Txt.split x y = a0 :: (mid.map (·.1) ++ [bn]) → a0.length ≤ x.length → bn.length ≤ x.length → (∀ z ∈ mid, z.1.length ≤ x.length) → mid.length ≤ x.length → (∀ p ∈ news, p.1 ≠ W') → Fr h₀ L h' m → News h₀ L h' ((W', lstO (.str a0 u0 :: (strValues mid ++ [.str bn vn])) 0) :: news) → (∀ p ∈ news, p.1 < W') → Q (.ref W') { s with heap := h', toks := k }) :
    wpAny (model prog w) A (call (.builtin "str.split") [.str x t, .str y u]) Q E s := by
  have hlt : ∀ p ∈ news, p.1 < s.heap.objs.size := fun p hp => Heap.lt_size (N p hp).1
  have hsz : sizeLine = 16777216 := by decide
  refine splitN1 F N hy (fun l h' k e F' N' => ?_) (by omega)
  obtain ⟨a, mid, b, rfl, e2⟩ := two_ends e h2
  have hle := split_le x y
  rw [e2] at hle
  simp only [List.length_cons, List.length_append, List.length_map, List.length_nil] at hle
  have hs : ∀ z ∈ Txt.split x y, z.length ≤ x.length := fun z hz => part_short hz
  refine h s.heap.objs.size a.1 a.2 mid b.1 b.2 h' k e2 (hs _ (by rw [e2]; simp)) (hs _ (by rw [e2]; simp)) (fun z hz => hs _ (by rw [e2]; simp; exact .inr (.inl ⟨z.2, hz⟩))) (by omega) (fun p hp => Nat.ne_of_lt (hlt p hp)) F' ?_ hlt
  have es : strValues (a :: (mid ++ [b])) = .str a.1 a.2 :: (strValues mid ++ [.str b.1 b.2]) := by simp [strValues]
  rw [es] at N'
  exact N'
theorem item_head {a : Value} {r : List Value} {n : Nat} {u : Tok} {value slice : PySem.Expr} {Q : Value → Shared → Prop} (N : News h₀ L s.heap news) (hm : (D, lstO (a :: r) n) ∈ news) (h : Q a s)
    (hs : subscripted slice false (.ref D) (.int 0 u) = operate [.ref D, .int 0 u] (getItem (.ref D) (.int 0 u)) := by with_unfolding_all rfl) : wpAny (model prog w) A (subscriptTail value slice (.ref D) (.int 0 u)) Q E s :=
  item_at (j := 0) N hm (by decide) (by simp [seqIndex?]) rfl h hs
theorem last_index (l : List Value) (v : Value) : seqIndex? (-1) (l ++ [v]).length = some l.length := by
  simp only [seqIndex?, List.length_append, List.length_cons, List.length_nil]
  simp
  omega
theorem item_last {r : List Value} {v : Value} {n : Nat} {u : Tok} {value slice : PySem.Expr} {Q : Value → Shared → Prop} (N : News h₀ L s.heap news) (hm : (D, lstO (r ++ [v]) n) ∈ news) (h : Q v s)
    (hs : subscripted slice false (.ref D) (.int (-1) u) = operate [.ref D, .int (-1) u] (getItem (.ref D) (.int (-1) u)) := by with_unfolding_all rfl) : wpAny (model prog w) A (subscriptTail value slice (.ref D) (.int (-1) u)) Q E s :=
  item_at (j := r.length) N hm (by decide) (last_index r v) (by simp) h hs
theorem item_last' {a : Value} {r : List Value} {v : Value} {n : Nat} {u : Tok} {value slice : PySem.Expr} {Q : Value → Shared → Prop} (N : News h₀ L s.heap news) (hm : (D, lstO (a :: (r ++ [v])) n) ∈ news) (h : Q v s)
    (hs : subscripted slice false (.ref D) (.int (-1) u) = operate [.ref D, .int (-1) u] (getItem (.ref D) (.int (-1) u)) := by with_unfolding_all rfl) : wpAny (model prog w) A (subscriptTail value slice (.ref D) (.int (-1) u)) Q E s :=
  item_last (r := a :: r) N hm h hs
theorem del_head {a : Value} {r : List Value} {n : Nat} {u : Tok} {Q : Unit → Shared → Prop} (F : Fr h₀ L s.heap m) (N : News h₀ L s.heap news)
    (U : Upd D (lstO (a :: r) n) (lstO r (n + 1)) news news') (hz : r.length ≤ 900) (h : ∀ h', Fr h₀ L h' m → News h₀ L h' news' → Q () { s with heap := h' }) : wpAny (model prog w) A (delItem (.ref D) (.int 0 u)) Q E s :=
  del_at (k := 0) F N (by decide) (by simp [seqIndex?]) rfl U (by simp; omega) h
theorem del_last {r : List Value} {v : Value} {n : Nat} {u : Tok} {Q : Unit → Shared → Prop} (F : Fr h₀ L s.heap m) (N : News h₀ L s.heap news)
    (U : Upd D (lstO (r ++ [v]) n) (lstO r (n + 1)) news news') (hz : r.length ≤ 900) (h : ∀ h', Fr h₀ L h' m → News h₀ L h' news' → Q () { s with heap := h' }) : wpAny (model prog w) A (delItem (.ref D) (.int (-1) u)) Q E s :=
  del_at (k := r.length) F N (by decide) (last_index r v) (by rw [List.eraseIdx_append_of_length_le (Nat.le_refl _)]; simp) U (by simp; omega) h
theorem del_last' {a : Value} {r : List Value} {v : Value} {n : Nat} {u : Tok} {Q : Unit → Shared → Prop} (F : Fr h₀ L s.heap m) (N : News h₀ L s.heap news)
    (U : Upd D (lstO (a :: (r ++ [v])) n) (lstO (a :: r) (n + 1)) news news') (hz : (a :: r).length ≤ 900) (h : ∀ h', Fr h₀ L h' m → News h₀ L h' news' → Q () { s with heap := h' }) : wpAny (model prog w) A (delItem (.ref D) (.int (-1) u)) Q E s :=
  del_last (r := a :: r) F N U hz h
/-- where y lies in x between i and j -/
def findIn (x y : Str) (i j : Int) : Int := match occurrences x y (fromIndex x.length i) (min (fromIndex x.length j) x.length) 1 with | k :: _ => (k : Int) | [] => -1
theorem gives_find4 (x y : Str) (i j : Int) (t u v z : Tok) : Gives («str.find» ⟨[.str x t, .str y u, .int i v, .int j z], []⟩) (.int (findIn x y i j)) := by
  unfold findIn
  show Gives (match occurrences x y (fromIndex x.length i) (min (fromIndex x.length j) x.length) 1 with | k :: _ => retInt k | [] => (do rule "str.find.not-found"; retInt (-1))) _
  cases occurrences x y (fromIndex x.length i) (min (fromIndex x.length j) x.length) 1 with
  | nil => exact .rule (.of_eq rfl)
  | cons k _ => exact .of_eq rfl
theorem find4 {x y : Str} {i j : Int} {t u v z : Tok} {Q : Value → Shared → Prop} (hq : Q (.int (findIn x y i j) s.toks) { s with toks := s.toks + 1 }) : wpAny (model prog w) A (call (.builtin "str.find") [.str x t, .str y u, .int i v, .int j z]) Q E s :=
  call_gives F.slot_str_find (typeIs_str _ _ _) F.entry_str_find (F.args_str_find_4 _ _ _ _) (gives_find4 x y i j t u v z) hq
end
/-- a turn's end: the frame's map is J again, the ledger stands -/
def TurnEnd (h₀ : Heap) (L : Addr) (keep : List (Addr × Obj)) (J : (Str → Option Value) → Prop) (s₁ : Shared) (Q : Flow → Shared → Prop) (f : Flow) (s₂ : Shared) : Prop := match f with
  | .ret v => Q (.ret v) s₂
  | .brk => Q .next s₂
  | _ => ∃ h' tk m', s₂ = { s₁ with heap := h', toks := tk } ∧ Fr h₀ L h' m' ∧ News h₀ L h' keep ∧ J m'
theorem TurnEnd.ret {h₀ : Heap} {L : Addr} {keep : List (Addr × Obj)} {J : (Str → Option Value) → Prop} {s₁ s₂ : Shared} {Q : Flow → Shared → Prop} {v : Value} (h : Q (.ret v) s₂) : TurnEnd h₀ L keep J s₁ Q (.ret v) s₂ := h
theorem TurnEnd.next {h₀ : Heap} {L : Addr} {keep : List (Addr × Obj)} {J : (Str → Option Value) → Prop} {s₁ : Shared} {Q : Flow → Shared → Prop} {h' : Heap} {tk : Nat} {m' : Str → Option Value} (F : Fr h₀ L h' m') (N : News h₀ L h' keep) (j : J m') : TurnEnd h₀ L keep J s₁ Q .next { s₁ with heap := h', toks := tk } := ⟨h', tk, m', rfl, F, N, j⟩
theorem TurnEnd.cont {h₀ : Heap} {L : Addr} {keep : List (Addr × Obj)} {J : (Str → Option Value) → Prop} {s₁ : Shared} {Q : Flow → Shared → Prop} {h' : Heap} {tk : Nat} {m' : Str → Option Value} (F : Fr h₀ L h' m') (N : News h₀ L h' keep) (j : J m') : TurnEnd h₀ L keep J s₁ Q .cont { s₁ with heap := h', toks := tk } := ⟨h', tk, m', rfl, F, N, j⟩
section
variable {prog : Program} {w : World} {A : Around} {E : Value → Shared → Prop} {s : Shared} {env : Env} {h₀ : Heap} {x : Str} {body : List Stmt} {Q : Flow → Shared → Prop}
theorem iter_vals {l : Addr} {vs : List Value} {nn : Nat} {m₀ : Str → Option Value} {news : List (Addr × Obj)} (J : Nat → (Str → Option Value) → Prop)
    (hh : A.handled = none) (F : Fr h₀ env.locals s.heap m₀) (N : News h₀ env.locals s.heap news) (hl : (l, lstO vs nn) ∈ news) (hj : J 0 m₀)
    (turn : ∀ i v m₁ h tk own, vs[i]? = some v → J i m₁ → Fr h₀ env.locals h (fun y => if y = x then some v else m₁ y) → News h₀ env.locals h (news ++ own) →
      wpAny (model prog w) A (execs body env) (TurnEnd h₀ env.locals (news ++ own) (J (i + 1)) { s with heap := h, toks := tk } Q) E { s with heap := h, toks := tk })
    (done : ∀ m₁ h tk, J vs.length m₁ → Fr h₀ env.locals h m₁ → News h₀ env.locals h news → Q .next { s with heap := h, toks := tk }) :
    wpAny (model prog w) A (pyIter (.ref l)) (fun it s₂ => LoopAtV prog w A h₀ env x body Q E it s₂) E s := by
  have hol : s.heap.get? l = some (lstO vs nn) := (N _ hl).1
  have hls : s.heap.IsList l vs.toArray := ⟨_, hol, rfl, nn, rfl⟩
  have hne : l ≠ s.heap.objs.size := Nat.ne_of_lt (Heap.lt_size hol)
  refine wpAny_pyIter_list hls ?_
  have W := Walks.list (prog := prog) (w := w) hh s.heap.objs.size l hne vs.toArray
  have hlen : vs.toArray.size = vs.length := by simp
  rw [hlen] at W
  refine ⟨_, _, _, vs.length, _, _, m₀, news, (fun i m nx => nx = news ∧ J i m), rfl, W, ?_, ?_, ?_, ⟨⟨_, Heap.get?_push_size _ rfl, rfl, rfl⟩, hls.at fun o e => Heap.get?_push_of_some _ e⟩, F.push _, (fun p hp => ⟨Heap.get?_push_of_some _ (N p hp).1, (N p hp).2⟩), ⟨rfl, hj⟩, ?_, ?_⟩
  · intro hm
    rcases List.mem_cons.mp hm with e | hm
    · exact absurd F.ns.lt (e ▸ Nat.lt_irrefl _)
    · exact (N _ hl).2.1 ((List.mem_singleton.mp hm).symm)
  · intro b hb
    rw [List.mem_singleton.mp hb]
    exact next_is_new F
  · intro p hp hI
    exact absurd (Heap.lt_size (N p hp).1) ((List.mem_singleton.mp hI) ▸ Nat.lt_irrefl _)
  · rintro i v m₁ news₁ s₁ own ⟨hh', tk', rfl⟩ hin hP ⟨rfl, hJ⟩ hoff hown hget hfp _ F₁ N₁
    have hP' : vs[i]? = some v := by simpa using hP
    have N₂ : News h₀ env.locals hh' (news₁ ++ own.filter fun p => decide (p.1 = s.heap.objs.size)) := fun p hp => N₁ p ((List.mem_append.mp hp).elim (fun h => List.mem_append.mpr (.inr h)) fun h => List.mem_append.mpr (.inl ((List.mem_filter.mp h).1)))
    have hlo : hh'.get? l = some (lstO vs nn) := (N₁ _ (List.mem_append.mpr (.inr hl))).1
    refine wpAny_mono (turn i v m₁ hh' tk' _ hP' hJ F₁ N₂) (fun f s₂ p => ?_) fun _ _ e => e
    have fin : (∃ h' tk m', s₂ = { s with heap := h', toks := tk } ∧ Fr h₀ env.locals h' m' ∧ News h₀ env.locals h' (news₁ ++ own.filter fun p => decide (p.1 = s.heap.objs.size)) ∧ J (i + 1) m') →
        LoopStepU h₀ env.locals [s.heap.objs.size] own (fun m nx => nx = news₁ ∧ J (i + 1) m) { s with heap := hh', toks := tk' } .next s₂ := by
      rintro ⟨h', tk, m', e, F', N', hm⟩
      refine ⟨rfl, h', tk, m', news₁, e, F', fun p hp => ?_, fun p hp => ?_, rfl, hm⟩
      · rcases List.mem_append.mp hp with h | h
        · by_cases hI : p.1 = s.heap.objs.size
          · exact N' p (List.mem_append.mpr (.inr (List.mem_filter.mpr ⟨h, by simpa using hI⟩)))
          · have h1 : p.1 = l := by
              rcases List.mem_cons.mp (hown p h) with h2 | h2
              · exact absurd h2 hI
              · exact List.mem_singleton.mp h2
            have h2 : hh'.get? p.1 = some p.2 := hget p h
            rw [h1, hlo] at h2
            have h3 : p = (l, lstO vs nn) := Prod.ext h1 (Option.some.inj h2).symm
            rw [h3]
            exact N' _ (List.mem_append.mpr (.inl hl))
        · exact N' p (List.mem_append.mpr (.inl h))
      · intro hI
        exact absurd (Heap.lt_size (N p hp).1) (by rw [List.mem_singleton.mp hI]; exact Nat.lt_irrefl _)
    cases f with
    | ret v => exact .ret p
    | brk => exact .brk p
    | next => exact .next (fin p)
    | cont => exact .cont (fin p)
  · rintro h' tk m' news' F' N' _ ⟨rfl, hJ⟩
    exact done m' h' tk hJ F' N'
/-- a loop that keeps one int beside its own name -/
theorem iter_pos {l : Addr} {vs : List Value} {nn : Nat} {m₀ : Str → Option Value} {news : List (Addr × Obj)} {y : Str} (P : Nat → Int → Prop) {p₀ : Int} {t₀ : Tok} (hxy : y ≠ x)
    (hh : A.handled = none) (F : Fr h₀ env.locals s.heap m₀) (N : News h₀ env.locals s.heap news) (hl : (l, lstO vs nn) ∈ news) (h0 : m₀ y = some (.int p₀ t₀)) (hP : P 0 p₀)
    (turn : ∀ i v p t h tk own, vs[i]? = some v → P i p → Fr h₀ env.locals h (fun z => if z = x then some v else if z = y then some (.int p t) else m₀ z) → News h₀ env.locals h (news ++ own) →
      wpAny (model prog w) A (execs body env) (TurnEnd h₀ env.locals (news ++ own) (fun m' => ∃ p' t', m' y = some (.int p' t') ∧ (∀ z, z ≠ x → z ≠ y → m' z = m₀ z) ∧ P (i + 1) p') { s with heap := h, toks := tk } Q) E { s with heap := h, toks := tk })
    (done : ∀ u p t h tk, P vs.length p → Fr h₀ env.locals h (fun z => if z = x then u else if z = y then some (.int p t) else m₀ z) → News h₀ env.locals h news → Q .next { s with heap := h, toks := tk }) :
    wpAny (model prog w) A (pyIter (.ref l)) (fun it s₂ => LoopAtV prog w A h₀ env x body Q E it s₂) E s := by
  have same : ∀ {m' : Str → Option Value} {p : Int} {t : Tok} (v : Option Value), m' y = some (.int p t) → (∀ z, z ≠ x → z ≠ y → m' z = m₀ z) → (fun z => if z = x then v else m' z) = fun z => if z = x then v else if z = y then some (.int p t) else m₀ z := by
    intro m' p t v h1 h2
    funext z
    by_cases hx : z = x
    · simp [hx]
    · by_cases hy : z = y
      · subst hy; simp [hx, h1]
      · simp [hx, hy, h2 z hx hy]
  refine iter_vals (fun i m => ∃ p t, m y = some (.int p t) ∧ (∀ z, z ≠ x → z ≠ y → m z = m₀ z) ∧ P i p) hh F N hl ⟨p₀, t₀, h0, fun _ _ _ => rfl, hP⟩ ?_ ?_
  · rintro i v m₁ h tk own hv ⟨p, t, h1, h2, h3⟩ F₁ N₁
    rw [same (some v) h1 h2] at F₁
    exact turn i v p t h tk own hv h3 F₁ N₁
  · rintro m₁ h tk ⟨p, t, h1, h2, h3⟩ F₁ N₁
    have e : m₁ = fun z => if z = x then m₁ x else if z = y then some (.int p t) else m₀ z := by
      rw [← same (m₁ x) h1 h2]
      funext z
      by_cases hx : z = x
      · simp [hx]
      · simp [hx]
    rw [e] at F₁
    exact done (m₁ x) p t h tk h3 F₁ N₁
end
end Mine
namespace Mine
/-- the loop of _ellipsis_match -/
def findAll (got : Str) (e : Int) : Int → List Str → Bool
  | _, [] => true
  | p, w :: ws => if findIn got w p e < 0 then false else findAll got e (findIn got w p e + w.length) ws
def emC (got : Str) (p e : Int) (ws : List Str) : Bool := if p > e then false else findAll got e p ws
def emB (got a : Str) (mid : List Str) (b : Str) : Bool :=
  if a.length ≠ 0 then
    if Txt.startswith got a then
      if b.length ≠ 0 then (if Txt.endswith got b then emC got a.length (got.length - b.length) mid else false) else emC got a.length got.length (mid ++ [b])
    else false
  else
    if b.length ≠ 0 then (if Txt.endswith got b then emC got 0 (got.length - b.length) (a :: mid) else false) else emC got 0 got.length (a :: (mid ++ [b]))
def emL (got : Str) : List Str → Bool
  | a :: r => emB got a r.dropLast (r.getLastD a)
  | [] => false
def emF (want got : Str) : Bool :=
  if (occurrences want (Str.ofString "...") 0 want.length 1).isEmpty then want == got else emL got (Txt.split want (Str.ofString "..."))
theorem emF_no {want got : Str} (h : (occurrences want (Str.ofString "...") 0 want.length 1).isEmpty = true) : emF want got = (want == got) := by rw [emF, if_pos h]
theorem emF_yes {want got a b : Str} {mid : List Str} (h : (occurrences want (Str.ofString "...") 0 want.length 1).isEmpty = false) (e : Txt.split want (Str.ofString "...") = a :: (mid ++ [b])) : emF want got = emB got a mid b := by
  rw [emF, if_neg (by rw [h]; exact Bool.false_ne_true), e]
  simp [emL, List.getLastD_eq_getLast?]
/-- the loop's invariant: what is left answers for the whole -/
def emP (got : Str) (e p₀ : Int) (ws : List Str) (i : Nat) (p : Int) : Prop := findAll got e p₀ ws = findAll got e p (ws.drop i)
theorem emP_0 {got : Str} {e p₀ : Int} {ws : List Str} : emP got e p₀ ws 0 p₀ := rfl
theorem drop_get {α : Type} {ws : List α} {i : Nat} {w : α} (h : ws[i]? = some w) : ws.drop i = w :: ws.drop (i + 1) := by
  obtain ⟨h1, h2⟩ := List.getElem?_eq_some_iff.mp h
  rw [List.drop_eq_getElem_cons h1, h2]
theorem emP_no {got w : Str} {e p₀ p : Int} {ws : List Str} {i : Nat} (h : emP got e p₀ ws i p) (hw : ws[i]? = some w) (hn : findIn got w p e < 0) : findAll got e p₀ ws = false := by
  rw [h, drop_get hw, findAll, if_pos hn]
theorem emP_step {got w : Str} {e p₀ p : Int} {ws : List Str} {i : Nat} (h : emP got e p₀ ws i p) (hw : ws[i]? = some w) (hn : ¬ findIn got w p e < 0) : emP got e p₀ ws (i + 1) (findIn got w p e + w.length) := by
  show _ = _
  rw [h, drop_get hw, findAll, if_neg hn]
theorem emP_done {got : Str} {e p₀ p : Int} {ws : List Str} (h : emP got e p₀ ws ws.length p) : findAll got e p₀ ws = true := by
  rw [h, List.drop_length, findAll]
/-- values that are the texts xs -/
def TextsAre (vs : List Value) (xs : List Str) : Prop := vs.map (fun v => match v with | .str x _ => some x | _ => none) = xs.map some
theorem TextsAre.at {vs : List Value} {xs : List Str} (h : TextsAre vs xs) {i : Nat} {v : Value} (hv : vs[i]? = some v) : ∃ x t, v = .str x t ∧ xs[i]? = some x := by
  have := congrArg (fun l => l[i]?) h
  simp only [List.getElem?_map, hv, Option.map_some] at this
  cases hx : xs[i]? with
  | none => rw [hx] at this; simp at this
  | some x =>
    rw [hx] at this
    simp only [Option.map_some, Option.some.injEq] at this
    split at this
    · rename_i z t
      exact ⟨z, t, rfl, by rw [Option.some.inj this]⟩
    · cases this
theorem TextsAre.length {vs : List Value} {xs : List Str} (h : TextsAre vs xs) : vs.length = xs.length := by
  have := congrArg List.length h
  simpa using this
theorem TextsAre.mid (mid : List (Str × Tok)) : TextsAre (strValues mid) (mid.map (·.1)) := by simp [TextsAre, strValues, Function.comp_def]
theorem TextsAre.cons {x : Str} {t : Tok} {vs : List Value} {xs : List Str} (h : TextsAre vs xs) : TextsAre (.str x t :: vs) (x :: xs) := by
  unfold TextsAre at h ⊢; simp [h]
theorem TextsAre.snoc {x : Str} {t : Tok} {vs : List Value} {xs : List Str} (h : TextsAre vs xs) : TextsAre (vs ++ [.str x t]) (xs ++ [x]) := by
  unfold TextsAre at h ⊢; simp [h]
section
variable {prog : Program} {w0 : World} {A : Around} {E : Value → Shared → Prop} {s : Shared} {env : Env} {h₀ : Heap} {x : Str} {body : List Stmt} {Q : Flow → Shared → Prop}
/-- the search loop of _ellipsis_match -/
theorem iter_em {l : Addr} {vs : List Value} {nn : Nat} {m₀ : Str → Option Value} {news : List (Addr × Obj)} {y : Str} {got : Str} {e p₀ : Int} {t₀ : Tok} (xs : List Str) (hxs : TextsAre vs xs) (hz : ∀ z ∈ xs, z.length ≤ 1000) (hxy : y ≠ x)
    (hh : A.handled = none) (F : Fr h₀ env.locals s.heap m₀) (N : News h₀ env.locals s.heap news) (hl : (l, lstO vs nn) ∈ news) (h0 : m₀ y = some (.int p₀ t₀))
    (turn : ∀ i w wt p t h tk own, w.length ≤ 1000 → (findIn got w p e < 0 → findAll got e p₀ xs = false) → (¬ findIn got w p e < 0 → emP got e p₀ xs (i + 1) (findIn got w p e + w.length)) → Fr h₀ env.locals h (fun z => if z = x then some (.str w wt) else if z = y then some (.int p t) else m₀ z) → News h₀ env.locals h (news ++ own) →
      wpAny (model prog w0) A (execs body env) (TurnEnd h₀ env.locals (news ++ own) (fun m' => ∃ p' t', m' y = some (.int p' t') ∧ (∀ z, z ≠ x → z ≠ y → m' z = m₀ z) ∧ emP got e p₀ xs (i + 1) p') { s with heap := h, toks := tk } Q) E { s with heap := h, toks := tk })
    (done : ∀ u p t h tk, findAll got e p₀ xs = true → Fr h₀ env.locals h (fun z => if z = x then u else if z = y then some (.int p t) else m₀ z) → News h₀ env.locals h news → Q .next { s with heap := h, toks := tk }) :
    wpAny (model prog w0) A (pyIter (.ref l)) (fun it s₂ => LoopAtV prog w0 A h₀ env x body Q E it s₂) E s := by
  refine iter_pos (y := y) (emP got e p₀ xs) hxy hh F N hl h0 emP_0 ?_ ?_
  · intro i v p t h tk own hv hP F' N'
    obtain ⟨z, zt, rfl, hz'⟩ := hxs.at hv
    exact turn i z zt p t h tk own (hz _ (List.mem_of_getElem? hz')) (fun hn => emP_no hP hz' hn) (fun hn => emP_step hP hz' hn) F' N'
  · intro u p t h tk hP F' N'
    exact done u p t h tk (emP_done (by rw [hxs.length] at hP; exact hP)) F' N'
end
section
variable {prog : Program} {w0 : World} {A : Around} {E : Value → Shared → Prop} {s : Shared} {env : Env} {h₀ : Heap} {x : Str} {body : List Stmt} {Q : Flow → Shared → Prop}
/-- a loop over texts that keeps no name but its own -/
theorem iter_texts {l : Addr} {vs : List Value} {nn : Nat} {m₀ : Str → Option Value} {news : List (Addr × Obj)} {xs : List Str} (P : Nat → Prop) (hxs : TextsAre vs xs) (hP : P 0)
    (hh : A.handled = none) (F : Fr h₀ env.locals s.heap m₀) (N : News h₀ env.locals s.heap news) (hl : (l, lstO vs nn) ∈ news)
    (turn : ∀ i z zt h tk own, xs[i]? = some z → P i → Fr h₀ env.locals h (fun y => if y = x then some (.str z zt) else m₀ y) → News h₀ env.locals h (news ++ own) →
      wpAny (model prog w0) A (execs body env) (TurnEnd h₀ env.locals (news ++ own) (fun m' => (∀ z, z ≠ x → m' z = m₀ z) ∧ P (i + 1)) { s with heap := h, toks := tk } Q) E { s with heap := h, toks := tk })
    (done : ∀ u h tk, P xs.length → Fr h₀ env.locals h (fun y => if y = x then u else m₀ y) → News h₀ env.locals h news → Q .next { s with heap := h, toks := tk }) :
    wpAny (model prog w0) A (pyIter (.ref l)) (fun it s₂ => LoopAtV prog w0 A h₀ env x body Q E it s₂) E s := by
  have same : ∀ {m' : Str → Option Value} (v : Option Value), (∀ z, z ≠ x → m' z = m₀ z) → (fun z => if z = x then v else m' z) = fun z => if z = x then v else m₀ z := by
    intro m' v h2
    funext z
    by_cases hx : z = x
    · simp [hx]
    · simp [hx, h2 z hx]
  refine iter_vals (fun i m => (∀ z, z ≠ x → m z = m₀ z) ∧ P i) hh F N hl ⟨fun _ _ => rfl, hP⟩ ?_ ?_
  · rintro i v m₁ h tk own hv ⟨h2, h3⟩ F₁ N₁
    obtain ⟨z, zt, rfl, hz'⟩ := hxs.at hv
    rw [same _ h2] at F₁
    exact turn i z zt h tk own hz' h3 F₁ N₁
  · rintro m₁ h tk ⟨h2, h3⟩ F₁ N₁
    have e : m₁ = fun z => if z = x then m₁ x else m₀ z := by
      rw [← same (m₁ x) h2]
      funext z
      by_cases hx : z = x
      · simp [hx]
      · simp [hx]
    rw [e] at F₁
    rw [hxs.length] at h3
    exact done (m₁ x) h tk h3 F₁ N₁
end
def anyP (f : Str → Bool) (xs : List Str) (i : Nat) : Prop := (xs.take i).any f = false
theorem anyP_0 {f : Str → Bool} {xs : List Str} : anyP f xs 0 := rfl
theorem anyP_step {f : Str → Bool} {xs : List Str} {i : Nat} {z : Str} (h : anyP f xs i) (hz : xs[i]? = some z) (hf : (f z == true) = false) : anyP f xs (i + 1) := by
  replace hf : f z = false := by simpa using hf
  unfold anyP at h ⊢
  rw [List.take_add_one, hz, List.any_append, h]
  simp [hf]
theorem anyP_done {f : Str → Bool} {xs : List Str} (h : anyP f xs xs.length) : xs.any f = false := by
  unfold anyP at h
  rwa [List.take_length] at h
theorem any_yes {f : Str → Bool} {xs : List Str} {i : Nat} {z : Str} (hz : xs[i]? = some z) (hf : (f z == true) = true) : xs.any f = true := List.any_eq_true.mpr ⟨z, List.mem_of_getElem? hz, by simpa using hf⟩
theorem bools4_at {b0 b1 b2 b3 : Bool} {i : Nat} {v : Value} (h : [Value.bool b0, .bool b1, .bool b2, .bool b3][i]? = some v) : ∃ b, v = .bool b ∧ [b0, b1, b2, b3][i]? = some b := by
  match i, h with
  | 0, h => exact ⟨b0, (Option.some.inj h).symm, rfl⟩
  | 1, h => exact ⟨b1, (Option.some.inj h).symm, rfl⟩
  | 2, h => exact ⟨b2, (Option.some.inj h).symm, rfl⟩
  | 3, h => exact ⟨b3, (Option.some.inj h).symm, rfl⟩
theorem count_step {l : List Bool} {i : Nat} {b : Bool} {p : Int} (h : p = (((l.take i).countP id : Nat) : Int)) (hb : l[i]? = some b) (e : (b == true) = true) : p + 1 = (((l.take (i + 1)).countP id : Nat) : Int) := by
  replace e : b = true := by simpa using e
  rw [List.take_add_one, hb, List.countP_append, h, e]; simp
theorem count_same {l : List Bool} {i : Nat} {b : Bool} {p : Int} (h : p = (((l.take i).countP id : Nat) : Int)) (hb : l[i]? = some b) (e : (b == true) = false) : p = (((l.take (i + 1)).countP id : Nat) : Int) := by
  replace e : b = false := by simpa using e
  rw [List.take_add_one, hb, List.countP_append, h, e]; simp
theorem count_four {b0 b1 b2 b3 : Bool} {p : Int} (h : p = ((([b0, b1, b2, b3].take 4).countP id : Nat) : Int)) : p = ((b0.toNat + b1.toNat + b2.toNat + b3.toNat : Nat) : Int) := by
  subst h; revert b0 b1 b2 b3; decide
end Mine
end

-- part E1
section
open PySem PySem.W PySem.Calls PyProof.Rows
set_option Elab.async false
set_option maxRecDepth 100000
set_option maxHeartbeats 2000000
namespace Mine
theorem ends_len {a b : Str} {u v : Tok} {mid : List (Str × Tok)} {n : Nat} (h : mid.length ≤ n) (hn : n ≤ 100) : (Value.str a u :: (strValues mid ++ [Value.str b v])).length ≤ 900 := by simp [strValues]; omega
theorem mid_len0 {mid : List (Str × Tok)} {n : Nat} (h : mid.length ≤ n) (hn : n ≤ 100) : (strValues mid).length ≤ 900 := by simp [strValues]; omega
theorem mid_len1 {b : Str} {v : Tok} {mid : List (Str × Tok)} {n : Nat} (h : mid.length ≤ n) (hn : n ≤ 100) : (strValues mid ++ [Value.str b v]).length ≤ 900 := by simp [strValues]; omega
theorem mid_len2 {a : Str} {u : Tok} {mid : List (Str × Tok)} {n : Nat} (h : mid.length ≤ n) (hn : n ≤ 100) : (Value.str a u :: strValues mid).length ≤ 900 := by simp [strValues]; omega
theorem emz_0 {mid : List (Str × Tok)} {n : Nat} (h : ∀ z ∈ mid, z.1.length ≤ n) (hn : n ≤ 100) : ∀ z ∈ mid.map (·.1), z.length ≤ 1000 := by
  intro z hz
  obtain ⟨y, hy, rfl⟩ := List.mem_map.mp hz
  exact Nat.le_trans (h y hy) (by omega)
theorem emz_1 {a : Str} {mid : List (Str × Tok)} {n : Nat} (h : ∀ z ∈ mid, z.1.length ≤ n) (ha : a.length ≤ n) (hn : n ≤ 100) : ∀ z ∈ a :: mid.map (·.1), z.length ≤ 1000 := by
  intro z hz
  rcases List.mem_cons.mp hz with rfl | hz
  · omega
  · exact emz_0 h hn z hz
theorem emz_2 {b : Str} {mid : List (Str × Tok)} {n : Nat} (h : ∀ z ∈ mid, z.1.length ≤ n) (hb : b.length ≤ n) (hn : n ≤ 100) : ∀ z ∈ mid.map (·.1) ++ [b], z.length ≤ 1000 := by
  intro z hz
  rcases List.mem_append.mp hz with hz | hz
  · exact emz_0 h hn z hz
  · rw [List.mem_singleton.mp hz]; omega
theorem emz_3 {a b : Str} {mid : List (Str × Tok)} {n : Nat} (h : ∀ z ∈ mid, z.1.length ≤ n) (ha : a.length ≤ n) (hb : b.length ≤ n) (hn : n ≤ 100) : ∀ z ∈ a :: (mid.map (·.1) ++ [b]), z.length ≤ 1000 := by
  intro z hz
  rcases List.mem_cons.mp hz with rfl | hz
  · omega
  · exact emz_2 h hb hn z hz
theorem len_ge2 {a b : Str} {u v : Tok} {mid : List (Str × Tok)} : (2 : Int) ≤ ((Value.str a u :: (strValues mid ++ [.str b v])).length : Nat) := by simp [strValues]; omega
theorem em_end {h₀ : Heap} {L : Addr} {m : Str → Option Value} {news : List (Addr × Obj)} {s : Shared} {Q : Value → Shared → Prop} {x b : Bool} (hret : ∀ (t : Tok) (h' : Heap) (tk' : Nat), Fr h₀ L h' m → News h₀ L h' news → Q ((fun _ => Value.bool x) t) { s with heap := h', toks := tk' }) (e : x = b) {h' : Heap} {tk : Nat} (F : Fr h₀ L h' m) (N : News h₀ L h' news) : Q (.bool b) { s with heap := h', toks := tk } := e ▸ hret 0 h' tk F N
section
variable {got a b : Str} {mid : List Str}
theorem emB_1 (ha : a.length ≠ 0) (hs : Txt.startswith got a = false) : emB got a mid b = false := by simp [emB, ha, hs]
theorem emB_2 (ha : a.length ≠ 0) (hs : Txt.startswith got a = true) (hb : b.length ≠ 0) (he : Txt.endswith got b = false) : emB got a mid b = false := by simp [emB, ha, hs, hb, he]
theorem emB_3 (ha : a.length ≠ 0) (hs : Txt.startswith got a = true) (hb : b.length ≠ 0) (he : Txt.endswith got b = true) (c : (got.length : Int) - b.length < a.length) : emB got a mid b = false := by simp only [emB, emC]; rw [if_pos ha, if_pos hs, if_pos hb, if_pos he, if_pos c]
theorem emB_4 (ha : a.length ≠ 0) (hs : Txt.startswith got a = true) (hb : b.length ≠ 0) (he : Txt.endswith got b = true) (c : ¬ (got.length : Int) - b.length < a.length) : emB got a mid b = findAll got (got.length - b.length) a.length mid := by simp only [emB, emC]; rw [if_pos ha, if_pos hs, if_pos hb, if_pos he, if_neg c]
theorem emB_5 (ha : a.length ≠ 0) (hs : Txt.startswith got a = true) (hb : b.length = 0) (c : (got.length : Int) < a.length) : emB got a mid b = false := by simp only [emB, emC]; rw [if_pos ha, if_pos hs, if_neg (by omega), if_pos c]
theorem emB_6 (ha : a.length ≠ 0) (hs : Txt.startswith got a = true) (hb : b.length = 0) (c : ¬ (got.length : Int) < a.length) : emB got a mid b = findAll got got.length a.length (mid ++ [b]) := by simp only [emB, emC]; rw [if_pos ha, if_pos hs, if_neg (by omega), if_neg c]
theorem emB_7 (ha : a.length = 0) (hb : b.length ≠ 0) (he : Txt.endswith got b = false) : emB got a mid b = false := by simp [emB, ha, hb, he]
theorem emB_8 (ha : a.length = 0) (hb : b.length ≠ 0) (he : Txt.endswith got b = true) (c : (got.length : Int) - b.length < 0) : emB got a mid b = false := by simp only [emB, emC]; rw [if_neg (by omega), if_pos hb, if_pos he, if_pos c]
theorem emB_9 (ha : a.length = 0) (hb : b.length ≠ 0) (he : Txt.endswith got b = true) (c : ¬ (got.length : Int) - b.length < 0) : emB got a mid b = findAll got (got.length - b.length) 0 (a :: mid) := by simp only [emB, emC]; rw [if_neg (by omega), if_pos hb, if_pos he, if_neg c]
theorem emB_11 (ha : a.length = 0) (hb : b.length = 0) : emB got a mid b = findAll got got.length 0 (a :: (mid ++ [b])) := by simp only [emB, emC]; rw [if_neg (by omega), if_neg (by omega), if_neg (by omega)]
end
set_option maxHeartbeats 1000000 in
theorem em_ctr (w : World) (loose : List Str) (mean : ExcName → Option Value) (mg mb : Str → Option Value) (want got : Str) (t1 t2 : Tok) (hw : want.length ≤ 100) (hg : got.length ≤ 100)
    (hsp : (Builtin.Str.occurrences want (Str.ofString "...") 0 want.length 1).isEmpty = false → 2 ≤ (Txt.split want (Str.ofString "...")).length) :
    C w loose mean mg mb 1 38 [.str want t1, .str got t2] (RV fun _ => .bool (emF want got)) := by
  w_top off
  unfold C
  k_fill
  unfold Ctr
  try unfold RV
  intro dp un gd cn cs a' ccd cl outer A₀ base h₀ L m news s Q E hB hF hK hN hT hk hdp hu hret
  refine wpAny_call ?_
  k_dflt cell_enter
  k_with_none
  k_with "call builtin:str.split" => (k_dflt (refine' split_ends ?F ?N ?y ?x ?h2 ?_; (case F => k_asm); (case N => k_asm); (case y => decide); (case x => exact Nat.le_trans hw (by decide)); (case h2 => exact hsp (by assumption)); k_whole; intro W0 a0 u0 mid bn vn h' k' hspl hla hlb hlm hln hWn F' N' hWl; (try dsimp only)))
  k_with "call builtin:len" => (k_here; k_dflt (refine' len_at ?N ?m ?z ?_; (case N => k_asm); (case m => k_mem); (case z => exact Nat.le_trans (ends_len (by assumption) hw) (by decide)); k_whole; intro t9 k9; (try dsimp only)))
  k_with "truthy str" => (k_here; k_dflt (refine' truthy_text ?l ?_ ?_; (case l => exact Nat.le_trans (by assumption) (Nat.le_trans hw (by decide))); all_goals (intro hTr k9; (try dsimp only); (first | with_reducible refine ite_T ?_ | with_reducible refine ite_F ?_ | skip))))
  k_with "subscriptTail Name Constant ref int" => (k_here; k_dflt (refine' item_head ?N ?m ?_; (case N => k_asm); (case m => k_mem); k_whole; (try dsimp only)))
  k_with "subscriptTail Name UnaryOp ref int" => (k_here; k_dflt (first | (refine' item_last' ?N ?m ?_; (case N => k_asm); (case m => k_mem); k_whole; (try dsimp only)) | (refine' item_last ?N ?m ?_; (case N => k_asm); (case m => k_mem); k_whole; (try dsimp only))))
  k_with "delItem ref int" => (k_here; k_dflt (first
    | ((with_reducible show wpAny _ _ (delItem _ (Value.int 0 _)) _ _ _); refine' del_head ?F ?N ?U ?z ?_; (case F => k_asm); (case N => k_asm); (case U => exact Upd.tail (by k_ne) (Upd.head hWn)); (case z => first | exact mid_len1 (by assumption) hw | exact mid_len0 (by assumption) hw); k_whole; intro h' F' N'; (try dsimp only))
    | (refine' del_last' ?F ?N ?U ?z ?_; (case F => k_asm); (case N => k_asm); (case U => exact Upd.tail (by k_ne) (Upd.head hWn)); (case z => exact mid_len2 (by assumption) hw); k_whole; intro h' F' N'; (try dsimp only))
    | (refine' del_last ?F ?N ?U ?z ?_; (case F => k_asm); (case N => k_asm); (case U => exact Upd.tail (by k_ne) (Upd.head hWn)); (case z => exact mid_len0 (by assumption) hw); k_whole; intro h' F' N'; (try dsimp only))))
  k_with "call builtin:str.find" => (k_here; k_dflt (refine' find4 ?_; (try dsimp only)))
  k_with "exec For Name Name cons nil" => kpr_for
  k_with "pyIter ref" => (k_here; k_dflt ((first
    | (refine' iter_em (y := Str.ofString "startpos") (got := got) (e := (got.length : Int) - bn.length) (mid.map (·.1)) (TextsAre.mid mid) ?z ?xy ?hh ?F ?N ?m ?h0 ?_ ?_; (case hh => rfl); (case F => k_asm); (case N => k_asm); (case m => k_mem); (case xy => decide +kernel); (case h0 => exact rfl); (case z => exact emz_0 hlm hw))
    | (refine' iter_em (y := Str.ofString "startpos") (got := got) (e := (got.length : Int) - bn.length) (a0 :: mid.map (·.1)) (TextsAre.mid mid).cons ?z ?xy ?hh ?F ?N ?m ?h0 ?_ ?_; (case hh => rfl); (case F => k_asm); (case N => k_asm); (case m => k_mem); (case xy => decide +kernel); (case h0 => exact rfl); (case z => exact emz_1 hlm hla hw))
    | (refine' iter_em (y := Str.ofString "startpos") (got := got) (e := (got.length : Int)) (mid.map (·.1) ++ [bn]) (TextsAre.mid mid).snoc ?z ?xy ?hh ?F ?N ?m ?h0 ?_ ?_; (case hh => rfl); (case F => k_asm); (case N => k_asm); (case m => k_mem); (case xy => decide +kernel); (case h0 => exact rfl); (case z => exact emz_2 hlm hlb hw))
    | (refine' iter_em (y := Str.ofString "startpos") (got := got) (e := (got.length : Int)) (a0 :: (mid.map (·.1) ++ [bn])) (TextsAre.mid mid).snoc.cons ?z ?xy ?hh ?F ?N ?m ?h0 ?_ ?_; (case hh => rfl); (case F => k_asm); (case N => k_asm); (case m => k_mem); (case xy => decide +kernel); (case h0 => exact rfl); (case z => exact emz_3 hlm hla hlb hw))); all_goals k_whole; all_goals (first | (intro i9 z9 zt9 p9 t9 h9 tk9 own9 hz9 hno9 hyes9 F9 N9) | (intro u9 p9 t9 h9 tk9 hall9 F9 N9))))
  k_with "TurnEnd" => first | refine TurnEnd.ret ?_ | exact TurnEnd.next (by assumption) (by assumption) ⟨_, _, rfl, fun z h1 h2 => by simp [h1, h2], hyes9 (by assumption)⟩
  repeat' (first | (k_unfold; (try dsimp only)) | (k_end; wrow_close) | walk1 | (dsimp only; walk1) | (leave1; (try dsimp only)))
  all_goals try (exact absurd (len_ge2 (mid := mid)) (by assumption))
  all_goals (refine em_end hret ?_ (by first | with_reducible assumption | assumption) (by first | with_reducible assumption | (refine' cb_drop ?cbN ?cbS; (case cbN => first | with_reducible assumption | assumption); (case cbS => first | kcj_all | simp))); first
    | exact emF_no (by assumption)
    | (refine (emF_yes (by assumption) hspl).trans ?_; with_reducible first
      | exact emB_1 (by assumption) (by assumption)
      | exact emB_2 (by assumption) (by assumption) (by assumption) (by assumption)
      | exact emB_3 (by assumption) (by assumption) (by assumption) (by assumption) (by assumption)
      | exact (emB_4 (by assumption) (by assumption) (by assumption) (by assumption) (by assumption)).trans (by first | exact hall9 | exact hno9 (by assumption))
      | exact emB_5 (by assumption) (by assumption) (by assumption) (by assumption)
      | exact (emB_6 (by assumption) (by assumption) (by assumption) (by assumption)).trans (by first | exact hall9 | exact hno9 (by assumption))
      | exact emB_7 (by assumption) (by assumption) (by assumption)
      | exact emB_8 (by assumption) (by assumption) (by assumption) (by assumption)
      | exact (emB_9 (by assumption) (by assumption) (by assumption) (by assumption)).trans (by first | exact hall9 | exact hno9 (by assumption))
      | exact (emB_11 (by assumption) (by assumption)).trans (by first | exact hall9 | exact hno9 (by assumption))))
end Mine
end

-- part C1
section
open PySem PySem.W PySem.Calls PyProof.Rows
set_option Elab.async false
set_option maxRecDepth 100000
set_option maxHeartbeats 2000000
namespace Mine
local macro_rules | `(tactic| walk_at "call ref") => `(tactic| (k_here; (with_reducible show wpAny _ _ (call (Value.ref 38) [Value.str _ _, Value.str _ _]) _ _ _); k_dflt (refine' ctr_use (em_ctr _ _ _ _ _ _ _ _ _ ?p0 ?p1 ?p2) ?B ?F ?K ?N ?T ?k ?d ?u ?_; (case B => k_asm); (case F => k_asm); (case K => k_asm); (case N => k_asm); (case T => k_asm); (case k => first | exact rfl | assumption); (case d => ktr_room); (case u => ktr_units); (case p0 => assumption); (case p1 => assumption); (case p2 => assumption); k_whole; unfold RV; intro t9 h9 tk9 F9 N9; (try dsimp only); (try k_fold))))
def PatOk (x : Str) : Prop := x.length ≤ 100 ∧ ((Builtin.Str.occurrences x (Str.ofString "...") 0 x.length 1).isEmpty = false → 2 ≤ (Txt.split x (Str.ofString "...")).length)
theorem carried_ctr (w : World) (loose : List Str) (mean : ExcName → Option Value) (mg mb : Str → Option Value) (l : Addr) (vs : List Value) (nn : Nat) (xs : List Str) (listing : Str) (t1 : Tok) (hxs : TextsAre vs xs) (hok : ∀ x ∈ xs, PatOk x) (hg : listing.length ≤ 100) :
    C w loose mean mg mb 2 130 [.ref l, .str listing t1] (fun h₀ L m news s Q => (l, lstO vs nn) ∈ news ∧ RV (fun _ => .bool (xs.any (emF · listing))) h₀ L m news s Q) := by
  w_top off
  unfold C
  k_fill
  unfold Ctr RV
  intro dp un gd cn cs a' ccd cl outer A₀ base h₀ L m news s Q E hB hF hK hN hT hk hdp hu hret
  refine wpAny_call ?_
  k_dflt cell_enter
  obtain ⟨hml, hret⟩ := hret
  k_with_none
  k_with "exec For Name Name cons nil" => kpr_for
  k_with "pyIter ref" => (k_here; k_dflt (refine' iter_texts (anyP (emF · listing) xs) hxs anyP_0 ?hh ?F ?N hml ?_ ?_; (case hh => rfl); (case F => k_asm); (case N => k_asm); all_goals k_whole; all_goals (first | (intro i9 z9 zt9 h9 tk9 own9 hz9 hP9 F9 N9; have hzl := (hok _ (List.mem_of_getElem? hz9)).1; have hzs := (hok _ (List.mem_of_getElem? hz9)).2) | (intro u9 h9 tk9 hP9 F9 N9))))
  k_with "TurnEnd" => first | refine TurnEnd.ret ?_ | exact TurnEnd.next (by assumption) (by assumption) ⟨fun z h1 => by simp [h1], anyP_step hP9 hz9 (by assumption)⟩
  repeat' (first | (k_unfold; (try dsimp only)) | (k_end; wrow_close) | walk1 | (dsimp only; walk1) | (leave1; (try dsimp only)))
  all_goals (refine em_end hret ?_ (by first | with_reducible assumption | assumption) (by first | with_reducible assumption | (refine' cb_drop ?cbN ?cbS; (case cbN => first | with_reducible assumption | assumption); (case cbS => first | kcj_all | simp))); first
    | exact any_yes hz9 (by assumption)
    | exact anyP_done hP9)
end Mine
end

-- part H2
section
open PySem PySem.W PySem.Calls PyProof.Rows
set_option Elab.async false
set_option maxRecDepth 100000
set_option maxHeartbeats 2000000
namespace Mine
theorem int_end {h₀ : Heap} {L : Addr} {m : Str → Option Value} {news : List (Addr × Obj)} {s : Shared} {Q : Value → Shared → Prop} {x b : Int} (hret : ∀ (t : Tok) (h' : Heap) (tk' : Nat), Fr h₀ L h' m → News h₀ L h' news → Q (Value.int x t) { s with heap := h', toks := tk' }) (e : b = x) {t : Tok} {h' : Heap} {tk : Nat} (F : Fr h₀ L h' m) (N : News h₀ L h' news) : Q (.int b t) { s with heap := h', toks := tk } := e ▸ hret t h' tk F N
section
variable (w : World) (loose : List Str) (mean : ExcName → Option Value) (mg mb : Str → Option Value)
theorem setitem_ctr (l : Addr) (vs : List Value) (ns : List Int) (n : Nat) (k x : Int) (t1 t2 : Tok) (hi : IntsAre vs ns) (h0 : 0 ≤ k) (h1 : k < ns.length) (hf : ns.length ≤ 100) : C w loose mean mg mb 1 94 [.ref l, .int k t1, .int x t2]
    (fun h₀ L m news s Q => ∃ news', Upd l (listOf vs.toArray n) (listOf (vs.set k.toNat (.int x t2)).toArray n) news news' ∧ ∀ (h' : Heap) (tk' : Nat), Fr h₀ L h' m → News h₀ L h' news' → Q .none { s with heap := h', toks := tk' }) := by
  w_top off
  unfold C
  k_fill
  unfold Ctr
  try unfold RV
  intro dp un gd cn cs a' ccd cl outer A₀ base h₀ L m news s Q E hB hF hK hN hT hk hdp hu hret
  refine wpAny_call ?_
  k_dflt cell_enter
  obtain ⟨news', hU, hret⟩ := hret
  k_with_none
  k_with "setItem ref int" => (k_dflt (refine' ksa_set ?k1 ?k2 hU hi h0 h1 ?k7 ?_; (case k1 => k_asm); (case k2 => k_asm); (case k7 => omega); k_whole; intro h' F' N' _ _ _))
  repeat' (first | (k_unfold; (try dsimp only)) | (k_end; wrow_close) | walk1 | (dsimp only; walk1) | (leave1; (try dsimp only)))
  all_goals exact hret _ _ (by assumption) (by assumption)
theorem count_ctr (l : Addr) (b0 b1 b2 b3 : Bool) (n : Nat) : C w loose mean mg mb 1 87 [.ref l, .bool true]
    (fun h₀ L m news s Q => (l, lstO [.bool b0, .bool b1, .bool b2, .bool b3] n) ∈ news ∧ RV (.int ((b0.toNat + b1.toNat + b2.toNat + b3.toNat : Nat) : Int)) h₀ L m news s Q) := by
  w_top off
  unfold C
  k_fill
  unfold Ctr
  try unfold RV
  intro dp un gd cn cs a' ccd cl outer A₀ base h₀ L m news s Q E hB hF hK hN hT hk hdp hu hret
  refine wpAny_call ?_
  k_dflt cell_enter
  obtain ⟨hml, hret⟩ := hret
  k_with_none
  k_with "exec For Name Name cons nil" => kpr_for
  k_with "pyIter ref" => (k_here; k_dflt (refine' iter_pos (y := Str.ofString "count") (fun i p => p = ((([b0, b1, b2, b3].take i).countP id : Nat) : Int)) ?xy ?hh ?F ?N hml ?h0 ?P ?_ ?_; (case hh => rfl); (case F => k_asm); (case N => k_asm); (case xy => decide +kernel); (case h0 => exact rfl); (case P => exact rfl); all_goals k_whole; all_goals (first | (intro i9 v9 p9 t9 h9 tk9 own9 hv9 hP9 F9 N9; obtain ⟨b9, rfl, hb9⟩ := bools4_at hv9) | (intro u9 p9 t9 h9 tk9 hP9 F9 N9))))
  k_with "TurnEnd" => exact TurnEnd.next (by assumption) (by assumption) ⟨_, _, rfl, fun z h1 h2 => by simp [h1, h2], by first | exact count_step hP9 hb9 (by assumption) | exact count_same hP9 hb9 (by assumption)⟩
  repeat' (first | (k_unfold; (try dsimp only)) | (k_end; wrow_close) | walk1 | (dsimp only; walk1) | (leave1; (try dsimp only)))
  all_goals (refine int_end hret (count_four hP9) (by assumption) (by first | with_reducible assumption | (refine' cb_drop ?cbN ?cbS; (case cbN => assumption); (case cbS => first | kcj_all | simp))))
end
end Mine
end

-- part Lp
section
open PySem PySem.W PySem.Calls PyProof.Rows PySem.Builtin PySem.Builtin.Str
set_option Elab.async false
set_option maxRecDepth 100000
namespace Mine
/-- a turn's end: the list of ints at T stands for a' -/
def TurnL (h₀ : Heap) (L : Addr) (keep : List Value → List (Addr × Obj)) (a' : List Int) (J : (Str → Option Value) → Prop) (s₁ : Shared) (Q : Flow → Shared → Prop) (f : Flow) (s₂ : Shared) : Prop := match f with
  | .ret v => Q (.ret v) s₂
  | .brk => Q .next s₂
  | _ => ∃ h' tk m' vs', s₂ = { s₁ with heap := h', toks := tk } ∧ Fr h₀ L h' m' ∧ News h₀ L h' (keep vs') ∧ IntsAre vs' a' ∧ J m'
theorem TurnL.next {h₀ : Heap} {L : Addr} {keep : List Value → List (Addr × Obj)} {a' : List Int} {J : (Str → Option Value) → Prop} {s₁ : Shared} {Q : Flow → Shared → Prop} {h' : Heap} {tk : Nat} {m' : Str → Option Value} {vs' : List Value} (F : Fr h₀ L h' m') (i : IntsAre vs' a') (N : News h₀ L h' (keep vs')) (j : J m') : TurnL h₀ L keep a' J s₁ Q .next { s₁ with heap := h', toks := tk } := ⟨h', tk, m', vs', rfl, F, N, i, j⟩
def LR (J : (Str → Option Value) → Prop) (T : Addr) (n : Nat) (pre post : List (Addr × Obj)) (a : List Int) (m : Str → Option Value) (nx : List (Addr × Obj)) : Prop := a.length = 4 ∧ J m ∧ ∃ vs, IntsAre vs a ∧ nx = pre ++ (T, listOf vs.toArray n) :: post
section
variable {prog : Program} {w0 : World} {A : Around} {E : Value → Shared → Prop} {s : Shared} {env : Env} {h₀ : Heap} {x : Str} {body : List Stmt} {Q : Flow → Shared → Prop}
/-- InvPostN from TurnL -/
theorem post_of {J : (Str → Option Value) → Prop} {T : Addr} {nn : Nat} {pre post own : List (Addr × Obj)} {adr : List Addr} {a' : List Int} {s₁ s₂ : Shared} {f : Flow} (hl : a'.length = 4) (hadr : adr = pre.map (·.1) ++ T :: post.map (·.1))
    (h : TurnL h₀ env.locals (fun vs' => (pre ++ (T, listOf vs'.toArray nn) :: post) ++ own) a' J s₁ Q f s₂) : InvPostN h₀ env.locals (LR J T nn pre post a') own adr s₁ Q f s₂ := by
  have fin : (∃ h' tk m' vs', s₂ = { s₁ with heap := h', toks := tk } ∧ Fr h₀ env.locals h' m' ∧ News h₀ env.locals h' ((pre ++ (T, listOf vs'.toArray nn) :: post) ++ own) ∧ IntsAre vs' a' ∧ J m') → InvEndN h₀ env.locals (LR J T nn pre post a') own adr s₁ s₂ := by
    rintro ⟨h', tk, m', vs', e, F', N', i', j'⟩
    exact ⟨h', tk, m', _, pre ++ (T, listOf vs'.toArray nn) :: post, e, F', N', fun p hp => List.mem_append_left _ hp, fun p hp => List.mem_append_right _ hp, by rw [hadr]; simp, hl, j', vs', i', rfl⟩
  cases f with
  | ret v => exact h
  | brk => exact h
  | next => exact fin h
  | cont => exact fin h
theorem own_ne {pre post own : List (Addr × Obj)} {T : Addr} {o : Obj} (ho : OwnOff own ((pre ++ (T, o) :: post).map (·.1))) (hpost : ∀ p ∈ post, p.1 ≠ T) : ∀ p ∈ post ++ own, p.1 ≠ T := by
  intro p hp
  rcases List.mem_append.mp hp with hp | hp
  · exact hpost p hp
  · exact ho p hp T (by simp)
/-- a loop over a range that keeps four ints in a list, and no name but its own -/
theorem iter_rI1 {r : Addr} {a₀ b₀ : Int} {t₀ u₀ v₀ : Tok} {n nn : Nat} {m₀ : Str → Option Value} {T : Addr} (pre : List (Addr × Obj)) {post : List (Addr × Obj)} {vs₀ : List Value} {c₀ : List Int} (g : List Int → Int → List Int)
    (hg : ∀ a k, a.length = 4 → (g a k).length = 4) (hi : IntsAre vs₀ c₀) (hc : c₀.length = 4) (hpost : ∀ p ∈ post, p.1 ≠ T)
    (hh : A.handled = none) (hr : IsRange s.heap r a₀ b₀ 1 t₀ u₀ v₀) (hsmall : Builtin.Range.small a₀ b₀ 1 = true) (hn : Builtin.Range.rangeSize a₀ b₀ 1 = (n : Int)) (F : Fr h₀ env.locals s.heap m₀) (N : News h₀ env.locals s.heap (pre ++ (T, listOf vs₀.toArray nn) :: post))
    (turn : ∀ k t a vs h tk own, k ∈ rangeKs a₀ n → a.length = 4 → IntsAre vs a → (∀ p ∈ post ++ own, p.1 ≠ T) → Fr h₀ env.locals h (fun y => if y = x then some (.int k t) else m₀ y) → News h₀ env.locals h ((pre ++ (T, listOf vs.toArray nn) :: post) ++ own) →
      wpAny (model prog w0) A (execs body env) (TurnL h₀ env.locals (fun vs' => (pre ++ (T, listOf vs'.toArray nn) :: post) ++ own) (g a k) (fun m' => ∀ z, z ≠ x → m' z = m₀ z) { s with heap := h, toks := tk } Q) E { s with heap := h, toks := tk })
    (done : ∀ u vs h tk, ((rangeKs a₀ n).foldl g c₀).length = 4 → IntsAre vs ((rangeKs a₀ n).foldl g c₀) → Fr h₀ env.locals h (fun y => if y = x then u else m₀ y) → News h₀ env.locals h (pre ++ (T, listOf vs.toArray nn) :: post) → Q .next { s with heap := h, toks := tk }) :
    wpAny (model prog w0) A (pyIter (.ref r)) (fun it s₂ => LoopAtV prog w0 A h₀ env x body Q E it s₂) E s := by
  have same : ∀ {m' : Str → Option Value} (v : Option Value), (∀ z, z ≠ x → m' z = m₀ z) → (fun z => if z = x then v else m' z) = fun z => if z = x then v else m₀ z := by
    intro m' v h2
    funext z
    by_cases hx : z = x
    · simp [hx]
    · simp [hx, h2 z hx]
  refine iter_rangeS (LR (fun m' => ∀ z, z ≠ x → m' z = m₀ z) T nn pre post) g c₀ hh hr hsmall hn F N ⟨hc, fun _ _ => rfl, vs₀, hi, rfl⟩ ?_ ?_
  · rintro k t a m₁ nx h tk own hk ho ⟨hl, hm, vs, hi', rfl⟩ F₁ N₁
    rw [same _ hm] at F₁
    exact wpAny_mono (turn k t a vs h tk own hk hl hi' (own_ne ho hpost) F₁ N₁) (fun f s₂ p => post_of (hg a k hl) (by simp) p) fun _ _ e => e
  · rintro m₁ nx h tk ⟨hl, hm, vs, hi', rfl⟩ F₁ N₁
    have e : m₁ = fun z => if z = x then m₁ x else m₀ z := by
      rw [← same (m₁ x) hm]
      funext z
      by_cases hx : z = x
      · simp [hx]
      · simp [hx]
    rw [e] at F₁
    exact done (m₁ x) vs h tk hl hi' F₁ N₁
/-- the same, the body storing three names more -/
theorem iter_rI4 {r : Addr} {a₀ b₀ : Int} {t₀ u₀ v₀ : Tok} {n nn : Nat} {m₀ : Str → Option Value} {T : Addr} (y1 y2 y3 : Str) (pre : List (Addr × Obj)) {post : List (Addr × Obj)} {vs₀ : List Value} {c₀ : List Int} (g : List Int → Int → List Int)
    (hg : ∀ a k, a.length = 4 → (g a k).length = 4) (hi : IntsAre vs₀ c₀) (hc : c₀.length = 4) (hpost : ∀ p ∈ post, p.1 ≠ T)
    (hh : A.handled = none) (hr : IsRange s.heap r a₀ b₀ 1 t₀ u₀ v₀) (hsmall : Builtin.Range.small a₀ b₀ 1 = true) (hn : Builtin.Range.rangeSize a₀ b₀ 1 = (n : Int)) (F : Fr h₀ env.locals s.heap m₀) (N : News h₀ env.locals s.heap (pre ++ (T, listOf vs₀.toArray nn) :: post))
    (turn : ∀ k t a vs h tk own u1 u2 u3, k ∈ rangeKs a₀ n → a.length = 4 → IntsAre vs a → (∀ p ∈ post ++ own, p.1 ≠ T) → Fr h₀ env.locals h (fun y => if y = x then some (.int k t) else if y = y1 then u1 else if y = y2 then u2 else if y = y3 then u3 else m₀ y) → News h₀ env.locals h ((pre ++ (T, listOf vs.toArray nn) :: post) ++ own) →
      wpAny (model prog w0) A (execs body env) (TurnL h₀ env.locals (fun vs' => (pre ++ (T, listOf vs'.toArray nn) :: post) ++ own) (g a k) (fun m' => ∀ z, z ≠ x → z ≠ y1 → z ≠ y2 → z ≠ y3 → m' z = m₀ z) { s with heap := h, toks := tk } Q) E { s with heap := h, toks := tk })
    (done : ∀ u u1 u2 u3 vs h tk, ((rangeKs a₀ n).foldl g c₀).length = 4 → IntsAre vs ((rangeKs a₀ n).foldl g c₀) → Fr h₀ env.locals h (fun y => if y = x then u else if y = y1 then u1 else if y = y2 then u2 else if y = y3 then u3 else m₀ y) → News h₀ env.locals h (pre ++ (T, listOf vs.toArray nn) :: post) → Q .next { s with heap := h, toks := tk }) :
    wpAny (model prog w0) A (pyIter (.ref r)) (fun it s₂ => LoopAtV prog w0 A h₀ env x body Q E it s₂) E s := by
  have same : ∀ {m' : Str → Option Value} (v : Option Value), (∀ z, z ≠ x → z ≠ y1 → z ≠ y2 → z ≠ y3 → m' z = m₀ z) → (fun z => if z = x then v else m' z) = fun z => if z = x then v else if z = y1 then m' y1 else if z = y2 then m' y2 else if z = y3 then m' y3 else m₀ z := by
    intro m' v h2
    funext z
    by_cases hx : z = x
    · simp [hx]
    · by_cases h1 : z = y1
      · simp [hx, h1]
      · by_cases h2' : z = y2
        · simp only [if_neg hx, if_neg h1, if_pos h2']; rw [h2']
        · by_cases h3 : z = y3
          · simp only [if_neg hx, if_neg h1, if_neg h2', if_pos h3]; rw [h3]
          · simp [hx, h1, h2', h3, h2 z hx h1 h2' h3]
  refine iter_rangeS (LR (fun m' => ∀ z, z ≠ x → z ≠ y1 → z ≠ y2 → z ≠ y3 → m' z = m₀ z) T nn pre post) g c₀ hh hr hsmall hn F N ⟨hc, fun _ _ _ _ _ => rfl, vs₀, hi, rfl⟩ ?_ ?_
  · rintro k t a m₁ nx h tk own hk ho ⟨hl, hm, vs, hi', rfl⟩ F₁ N₁
    rw [same _ hm] at F₁
    exact wpAny_mono (turn k t a vs h tk own _ _ _ hk hl hi' (own_ne ho hpost) F₁ N₁) (fun f s₂ p => post_of (hg a k hl) (by simp) p) fun _ _ e => e
  · rintro m₁ nx h tk ⟨hl, hm, vs, hi', rfl⟩ F₁ N₁
    have e : m₁ = fun z => if z = x then m₁ x else if z = y1 then m₁ y1 else if z = y2 then m₁ y2 else if z = y3 then m₁ y3 else m₀ z := by
      rw [← same (m₁ x) hm]
      funext z
      by_cases hx : z = x
      · simp [hx]
      · simp [hx]
    rw [e] at F₁
    exact done (m₁ x) _ _ _ vs h tk hl hi' F₁ N₁
end
/-- who is told by a group's figures -/
def bitF (g : Int) (k : Nat) : Bool := decide (Builtin.bitAnd g (1 * 2 ^ k) ≠ 0)
def cntF (g : Int) : Nat := (bitF g 0).toNat + (bitF g 1).toNat + (bitF g 2).toNat + (bitF g 3).toNat
def ordF (g : Int) : Int := [(0 : Int), 6, 2, 2, 6].getD (cntF g) 0
def tipK (car : Nat → Bool) (g : Int) (a : List Int) (k : Int) : List Int := if bitF g k.toNat && !car (Builtin.bitXor g (1 * 2 ^ k.toNat)).toNat then a.set k.toNat (a.getD k.toNat 0 + ordF g) else a
def tipG (car : Nat → Bool) (a : List Int) (g : Int) : List Int := if car g.toNat then (rangeKs 0 4).foldl (tipK car g) a else a
def tipsF (car : Nat → Bool) : List Int := (rangeKs 0 16).foldl (tipG car) [0, 0, 0, 0]
theorem tipK_len {car : Nat → Bool} {g : Int} : ∀ a k, a.length = 4 → (tipK car g a k).length = 4 := by
  intro a k h; unfold tipK; split <;> simp [h]
theorem tipG_len {car : Nat → Bool} : ∀ a g, a.length = 4 → (tipG car a g).length = 4 := by
  intro a g h
  unfold tipG; split
  · have key : ∀ (l : List Int) (a : List Int), a.length = 4 → (l.foldl (tipK car g) a).length = 4 := by
      intro l
      induction l with
      | nil => intro a h; exact h
      | cons k r ih => intro a h; exact ih _ (tipK_len a k h)
    exact key _ _ h
  · exact h
section
variable {prog : Program} {w : World} {A : Around} {E : Value → Shared → Prop} {s : Shared} {h₀ : Heap} {L D : Addr} {m : Str → Option Value} {news : List (Addr × Obj)}
theorem idx_nat {i : Int} {n : Nat} (h0 : 0 ≤ i) (h3 : i.toNat < n) : seqIndex? i n = some i.toNat := by
  have hn : ¬ i < 0 := by omega
  simp [seqIndex?, hn]
  omega
theorem item_bools {N₀ : Nat} {vs : List Value} {car : Nat → Bool} {n : Nat} {i : Int} {u : Tok} {value slice : PySem.Expr} {Q : Value → Shared → Prop} (hb : vs.length = N₀ ∧ ∀ i, i < N₀ → vs[i]? = some (.bool (car i))) (N : News h₀ L s.heap news) (hm : (D, lstO vs n) ∈ news) (h0 : 0 ≤ i) (h1 : i < N₀) (h2 : N₀ ≤ 100) (h : Q (.bool (car i.toNat)) s)
    (hs : subscripted slice false (.ref D) (.int i u) = operate [.ref D, .int i u] (getItem (.ref D) (.int i u)) := by with_unfolding_all rfl) : wpAny (model prog w) A (subscriptTail value slice (.ref D) (.int i u)) Q E s :=
  item_at (j := i.toNat) N hm (by omega) (idx_nat h0 (by rw [hb.1]; omega)) (hb.2 _ (by omega)) h hs
theorem item_b4 {c : Nat → Bool} {n : Nat} {i : Int} {u : Tok} {value slice : PySem.Expr} {Q : Value → Shared → Prop} (N : News h₀ L s.heap news) (hm : (D, lstO [.bool (c 0), .bool (c 1), .bool (c 2), .bool (c 3)] n) ∈ news) (h0 : 0 ≤ i) (h1 : i < 4) (h : Q (.bool (c i.toNat)) s)
    (hs : subscripted slice false (.ref D) (.int i u) = operate [.ref D, .int i u] (getItem (.ref D) (.int i u)) := by with_unfolding_all rfl) : wpAny (model prog w) A (subscriptTail value slice (.ref D) (.int i u)) Q E s :=
  item_bools (N₀ := 4) (car := c) ⟨rfl, fun i hi => by
    match i, hi with
    | 0, _ => rfl
    | 1, _ => rfl
    | 2, _ => rfl
    | 3, _ => rfl⟩ N hm h0 h1 (by omega) h hs
theorem item_ints {vs : List Value} {ns : List Int} {n : Nat} {i : Int} {u : Tok} {value slice : PySem.Expr} {Q : Value → Shared → Prop} (hi : IntsAre vs ns) (N : News h₀ L s.heap news) (hm : (D, listOf vs.toArray n) ∈ news) (h0 : 0 ≤ i) (h1 : i < ns.length) (h2 : ns.length ≤ 100) (h : ∀ t, Q (.int (ns.getD i.toNat 0) t) s)
    (hs : subscripted slice false (.ref D) (.int i u) = operate [.ref D, .int i u] (getItem (.ref D) (.int i u)) := by with_unfolding_all rfl) : wpAny (model prog w) A (subscriptTail value slice (.ref D) (.int i u)) Q E s :=
  ksa_sub N hm hi h0 h1 (by omega) h hs
end
end Mine
end

-- part Lc
section
open PySem PySem.W PySem.Calls PyProof.Rows PySem.Builtin PySem.Builtin.Str
set_option Elab.async false
set_option maxRecDepth 100000
namespace Mine
/-- a turn's end of a loop whose target is a cell -/
def StepC (h₀ : Heap) (L C I : Addr) (oI : Obj) (Jn : (Str → Option Value) → List (Addr × Obj) → Prop) (s₁ s₂ : Shared) : Prop :=
  ∃ h' tk m' news' oC vv, s₂ = { s₁ with heap := h', toks := tk } ∧ Fr h₀ L h' m' ∧ oC.data = .cell vv ∧ News h₀ L h' ((C, oC) :: (I, oI) :: news') ∧ (∀ p ∈ news', p.1 ≠ C ∧ p.1 ≠ I) ∧ Jn m' news'
def PostC (h₀ : Heap) (L C I : Addr) (oI : Obj) (Jn : (Str → Option Value) → List (Addr × Obj) → Prop) (s₁ : Shared) (R : Flow → Shared → Prop) (f : Flow) (s₂ : Shared) : Prop := match f with
  | .ret v => R (.ret v) s₂
  | .brk => R .next s₂
  | _ => StepC h₀ L C I oI Jn s₁ s₂
section
variable {prog : Program} {w : World} {A : Around} {s : Shared} {env : Env} {h₀ : Heap}
theorem forLoop_cell {R : Result → Shared → Prop} {x : Str} {px : Pos} {body : List Stmt} {I C : Addr} {oC : Obj} {vv : Option Value} {n : Nat} {P : Nat → Value → Prop} {St : Nat → Heap → Prop} {m : Str → Option Value}
    {news : List (Addr × Obj)} (W : Walks prog w A I [I] [I] n P St) (hIo : ∀ i h, St i h → ∃ o, h.get? I = some o) (hk : env.scope.kind = .function) (hl : env.kindOf x = some .cell) (hc : env.cells.lookup x = some C)
    (hLI : env.locals ≠ I) (hI₀ : h₀.get? I = none) (hCI : C ≠ I) (hnw : ∀ p ∈ news, p.1 ≠ C ∧ p.1 ≠ I) (hd : oC.data = .cell vv)
    (hst : St 0 s.heap) (F : Fr h₀ env.locals s.heap m) (N : News h₀ env.locals s.heap ((C, oC) :: news))
    (J : Nat → (Str → Option Value) → List (Addr × Obj) → Prop) (h0 : J 0 m news)
    (step : ∀ i v m₁ news₁ h tk oC' oI, i < n → P i v → J i m₁ news₁ → (∀ p ∈ news₁, p.1 ≠ C ∧ p.1 ≠ I) → oC'.data = .cell (some v) → Fr h₀ env.locals h m₁ → News h₀ env.locals h ((C, oC') :: (I, oI) :: news₁) →
      wpAny (model prog w) A (execs body env) (PostC h₀ env.locals C I oI (J (i + 1)) { s with heap := h, toks := tk } (fun f s' => R (.ok f) s')) (notedBy (model prog w) A env fun e s' => R (.error e) s') { s with heap := h, toks := tk })
    (hR : ∀ h' tk m' news' oC' vv', Fr h₀ env.locals h' m' → oC'.data = .cell vv' → News h₀ env.locals h' ((C, oC') :: news') → J n m' news' → R (.ok .next) { s with heap := h', toks := tk }) :
    codeAny (model prog w) A (.forLoop (.Name x px) (.ref I) body [] env) R s := by
  refine codeAny_forLoop
    (fun k s' => ∃ h' tk m' news' oC' vv' i, s' = { s with heap := h', toks := tk } ∧ St i h' ∧ Fr h₀ env.locals h' m' ∧ oC'.data = .cell vv' ∧ News h₀ env.locals h' ((C, oC') :: news') ∧ (∀ p ∈ news', p.1 ≠ C ∧ p.1 ≠ I) ∧ J i m' news' ∧ i ≤ n ∧ k = n + 1 - i) ?_ (n + 1)
    ⟨s.heap, s.toks, m, news, oC, vv, 0, rfl, hst, F, hd, N, hnw, h0, Nat.zero_le _, rfl⟩
  rintro k s' ⟨h', tk, m', news', oC', vv', i, rfl, hst', F', hd', N', hnw', hJ, hi, rfl⟩
  have nI : ∀ b o, h₀.get? b = some o → b ≠ I := by
    rintro b o e rfl
    rw [hI₀] at e; cases e
  have next : ∀ h₁ : Heap, (∀ b o, b ∉ [I] → h'.get? b = some o → h₁.get? b = some o) → Fr h₀ env.locals h₁ m' ∧ News h₀ env.locals h₁ ((C, oC') :: news') := fun h₁ hk₁ =>
    ⟨⟨F'.ns.at' fun o e => hk₁ _ o (by simpa using hLI) e, fun b o e => hk₁ b o (by simpa using nI b o e) (F'.keep b o e), F'.above⟩, fun p hp => ⟨hk₁ _ _ (by
      rcases List.mem_cons.mp hp with rfl | hp
      · simpa using hCI
      · simpa using (hnw' p hp).2) (N' p hp).1, (N' p hp).2⟩⟩
  by_cases hlt : i < n
  · refine W.item i _ _ _ hlt hst' fun v h₁ tk₁ hP hst₁ hk₁ => ?_
    obtain ⟨F₁, N₁⟩ := next h₁ hk₁
    have zC := N₁ (C, oC') (.head _)
    refine wpAny_assign_Name (wpAny_storeName_cell hk hl hc ⟨oC', zC.1, hd'⟩ (fun h₂ hv₂ hs₂ => ?_))
    obtain ⟨oC₂, ho₂, hd₂⟩ := hv₂
    have F₂ : Fr h₀ env.locals h₂ m' := F₁.change hs₂ zC.2.1 zC.2.2
    obtain ⟨oI, hoI⟩ := hIo _ _ hst₁
    have hoI₂ : h₂.get? I = some oI := (hs₂.2 I (Ne.symm hCI)).trans hoI
    have N₂ : News h₀ env.locals h₂ ((C, oC₂) :: (I, oI) :: news') := by
      intro p hp
      rcases List.mem_cons.mp hp with rfl | hp
      · exact ⟨ho₂, zC.2⟩
      · rcases List.mem_cons.mp hp with rfl | hp
        · exact ⟨hoI₂, Ne.symm hLI, hI₀⟩
        · have z := N₁ p (.tail _ hp)
          exact ⟨(hs₂.2 _ (hnw' p hp).1).trans z.1, z.2⟩
    refine wpAny_mono (step i v m' news' _ _ oC₂ oI hlt hP hJ hnw' hd₂ F₂ N₂) (fun f s₃ h₃ => ?_) fun _ _ e => e
    have fin : StepC h₀ env.locals C I oI (J (i + 1)) { s with heap := h₂, toks := tk₁ } s₃ → ∃ k' < n + 1 - i, ∃ h' tk m' news' oC' vv' i, s₃ = { s with heap := h', toks := tk } ∧ St i h' ∧ Fr h₀ env.locals h' m' ∧ oC'.data = .cell vv' ∧ News h₀ env.locals h' ((C, oC') :: news') ∧ (∀ p ∈ news', p.1 ≠ C ∧ p.1 ≠ I) ∧ J i m' news' ∧ i ≤ n ∧ k' = n + 1 - i := by
      rintro ⟨h₃', tk₃, m₂, news₂, oC₃, vv₃, rfl, F₃, hd₃, N₃, hn₃, hJ₃⟩
      refine ⟨n + 1 - (i + 1), by omega, h₃', tk₃, m₂, news₂, oC₃, vv₃, i + 1, rfl, ?_, F₃, hd₃, ?_, hn₃, hJ₃, hlt, rfl⟩
      · refine W.frame _ _ _ hst₁ fun b hb o e => ?_
        rw [List.mem_singleton.mp hb] at e ⊢
        rw [hoI] at e
        exact (N₃ _ (.tail _ (.head _))).1.trans e
      · intro p hp
        rcases List.mem_cons.mp hp with rfl | hp
        · exact N₃ _ (.head _)
        · exact N₃ _ (.tail _ (.tail _ hp))
    cases f with
    | ret v => exact h₃
    | brk => exact h₃
    | cont => exact fin h₃
    | next => exact fin h₃
  · have hin : i = n := by omega
    subst hin
    refine W.done _ _ _ hst' fun h₁ tk₁ hk₁ => wpAny_execs_nil ?_
    obtain ⟨F₁, N₁⟩ := next h₁ hk₁
    exact hR h₁ tk₁ m' news' oC' vv' F₁ hd' N₁ hJ
def AtC (prog : Program) (w : World) (A : Around) (h₀ : Heap) (env : Env) (x : Str) (body : List Stmt) (Q : Flow → Shared → Prop) (E : Value → Shared → Prop) (it : Value) (s : Shared) : Prop :=
  ∃ (I C : Addr) (oC : Obj) (vv : Option Value) (n : Nat) (P : Nat → Value → Prop) (St : Nat → Heap → Prop) (m : Str → Option Value) (news : List (Addr × Obj)) (J : Nat → (Str → Option Value) → List (Addr × Obj) → Prop),
    it = .ref I ∧ Walks prog w A I [I] [I] n P St ∧ (∀ i h, St i h → ∃ o, h.get? I = some o) ∧ env.cells.lookup x = some C ∧ env.locals ≠ I ∧ h₀.get? I = none ∧ C ≠ I ∧ (∀ p ∈ news, p.1 ≠ C ∧ p.1 ≠ I) ∧ oC.data = .cell vv ∧ St 0 s.heap ∧ Fr h₀ env.locals s.heap m ∧ News h₀ env.locals s.heap ((C, oC) :: news) ∧ J 0 m news ∧
    (∀ i v m₁ news₁ h tk oC' oI, i < n → P i v → J i m₁ news₁ → (∀ p ∈ news₁, p.1 ≠ C ∧ p.1 ≠ I) → oC'.data = .cell (some v) → Fr h₀ env.locals h m₁ → News h₀ env.locals h ((C, oC') :: (I, oI) :: news₁) →
      wpAny (model prog w) A (execs body env) (PostC h₀ env.locals C I oI (J (i + 1)) { s with heap := h, toks := tk } Q) E { s with heap := h, toks := tk }) ∧
    ∀ h' tk m' news' oC' vv', Fr h₀ env.locals h' m' → oC'.data = .cell vv' → News h₀ env.locals h' ((C, oC') :: news') → J n m' news' → Q .next { s with heap := h', toks := tk }
theorem For_cell {E : Value → Shared → Prop} {Q : Flow → Shared → Prop} {x : Str} {px pos : Pos} {iter : PySem.Expr} {body : List Stmt} {m : Str → Option Value} (_F : Fr h₀ env.locals s.heap m) (hk : env.scope.kind = .function) (hl : env.kindOf x = some .cell)
    (h : wpAny (model prog w) A (eval iter env) (fun xv s₁ => wpAny (model prog w) A (pyIter xv) (fun it s₂ => AtC prog w A h₀ env x body Q E it s₂) E s₁) E s)
    (hs : ∀ x, foldedSetIterable iter env x = pure x := by intro _; rfl)
    (hE : PassesOwn (model prog w) A env E := by passes_own) :
    wpAny (model prog w) A (exec (.For (.Name x px) iter body [] pos) env) Q E s := by
  refine wpAny_For (wpAny_mono h (fun xv s₁ h₁ => wpAny_mono h₁ (fun it s₂ h₂ => ?_) fun _ _ e => e) fun _ _ e => e) hs
  obtain ⟨I, C, oC, vv, n, P, St, m, news, J, rfl, W, hIo, hc, hLI, hI₀, hCI, hnw, hd, hst, F, N, h0, step, hQ⟩ := h₂
  exact forLoop_cell (R := fun r s' => match r with | .ok f => Q f s' | .error e => cameBackBy (model prog w) A env E e s') W hIo hk hl hc hLI hI₀ hCI hnw hd hst F N J h0 (fun i v m₁ news₁ h tk oC' oI a b c d e f g => wpAny_passesOwn hE (step i v m₁ news₁ h tk oC' oI a b c d e f g)) hQ
end
/-- a turn's end: cell, iterator, the list of ints at T, the rest -/
def TurnC (h₀ : Heap) (L C I T : Addr) (oI : Obj) (nn : Nat) (post : List (Addr × Obj)) (a' : List Int) (J : (Str → Option Value) → Prop) (s₁ : Shared) (Q : Flow → Shared → Prop) (f : Flow) (s₂ : Shared) : Prop := match f with
  | .ret v => Q (.ret v) s₂
  | .brk => Q .next s₂
  | _ => ∃ h' tk m' vs' oC vv, s₂ = { s₁ with heap := h', toks := tk } ∧ Fr h₀ L h' m' ∧ oC.data = .cell vv ∧ News h₀ L h' ((C, oC) :: (I, oI) :: (T, listOf vs'.toArray nn) :: post) ∧ IntsAre vs' a' ∧ J m'
theorem TurnC.next {h₀ : Heap} {L C I T : Addr} {oI oC : Obj} {vv : Option Value} {nn : Nat} {post : List (Addr × Obj)} {a' : List Int} {J : (Str → Option Value) → Prop} {s₁ : Shared} {Q : Flow → Shared → Prop} {h' : Heap} {tk : Nat} {m' : Str → Option Value} {vs' : List Value} (F : Fr h₀ L h' m') (i : IntsAre vs' a') (d : oC.data = .cell vv) (N : News h₀ L h' ((C, oC) :: (I, oI) :: (T, listOf vs'.toArray nn) :: post)) (j : J m') : TurnC h₀ L C I T oI nn post a' J s₁ Q .next { s₁ with heap := h', toks := tk } := ⟨h', tk, m', vs', oC, vv, rfl, F, d, N, i, j⟩
section
variable {prog : Program} {w0 : World} {A : Around} {E : Value → Shared → Prop} {s : Shared} {env : Env} {h₀ : Heap} {x : Str} {body : List Stmt} {Q : Flow → Shared → Prop}
theorem iter_rC {r C T : Addr} {oC : Obj} {vv : Option Value} {a₀ b₀ : Int} {t₀ u₀ v₀ : Tok} {n nn : Nat} {m₀ : Str → Option Value} (y1 y2 y3 : Str) {post all : List (Addr × Obj)} {vs₀ : List Value} {c₀ : List Int} (g : List Int → Int → List Int)
    (hg : ∀ a k, a.length = 4 → (g a k).length = 4) (hi : IntsAre vs₀ c₀) (hc : c₀.length = 4) (hpost : ∀ p ∈ post, p ∈ all ∧ p.1 ≠ C ∧ p.1 ≠ T) (hC : (C, oC) ∈ all) (hT : (T, listOf vs₀.toArray nn) ∈ all) (hTC : T ≠ C) (hlk : env.cells.lookup x = some C) (hd : oC.data = .cell vv)
    (hh : A.handled = none) (hr : IsRange s.heap r a₀ b₀ 1 t₀ u₀ v₀) (hsmall : Builtin.Range.small a₀ b₀ 1 = true) (hn : Builtin.Range.rangeSize a₀ b₀ 1 = (n : Int)) (F : Fr h₀ env.locals s.heap m₀) (N : News h₀ env.locals s.heap all)
    (turn : ∀ I k t a vs h tk oC oI u1 u2 u3, k ∈ rangeKs a₀ n → a.length = 4 → IntsAre vs a → oC.data = .cell (some (.int k t)) → ((@Ne Nat T C) ∧ (@Ne Nat T I) ∧ (@Ne Nat C I)) → (∀ p ∈ post, p.1 ≠ T) → (∀ p ∈ post, p.1 ≠ C ∧ p.1 ≠ I) → Fr h₀ env.locals h (fun y => if y = y1 then u1 else if y = y2 then u2 else if y = y3 then u3 else m₀ y) → News h₀ env.locals h ((C, oC) :: (I, oI) :: (T, listOf vs.toArray nn) :: post) →
      wpAny (model prog w0) A (execs body env) (TurnC h₀ env.locals C I T oI nn post (g a k) (fun m' => ∀ z, z ≠ y1 → z ≠ y2 → z ≠ y3 → m' z = m₀ z) { s with heap := h, toks := tk } Q) E { s with heap := h, toks := tk })
    (done : ∀ u1 u2 u3 vs h tk oC, ((rangeKs a₀ n).foldl g c₀).length = 4 → IntsAre vs ((rangeKs a₀ n).foldl g c₀) → Fr h₀ env.locals h (fun y => if y = y1 then u1 else if y = y2 then u2 else if y = y3 then u3 else m₀ y) → News h₀ env.locals h ((C, oC) :: (T, listOf vs.toArray nn) :: post) → Q .next { s with heap := h, toks := tk }) :
    wpAny (model prog w0) A (pyIter (.ref r)) (fun it s₂ => AtC prog w0 A h₀ env x body Q E it s₂) E s := by
  have same : ∀ {m' : Str → Option Value}, (∀ z, z ≠ y1 → z ≠ y2 → z ≠ y3 → m' z = m₀ z) → m' = fun z => if z = y1 then m' y1 else if z = y2 then m' y2 else if z = y3 then m' y3 else m₀ z := by
    intro m' h2
    funext z
    by_cases h1 : z = y1
    · simp only [if_pos h1]; rw [h1]
    · by_cases h2' : z = y2
      · simp only [if_neg h1, if_pos h2']; rw [h2']
      · by_cases h3 : z = y3
        · simp only [if_neg h1, if_neg h2', if_pos h3]; rw [h3]
        · simp [h1, h2', h3, h2 z h1 h2' h3]
  refine wpAny_pyIter_range hr hsmall ?_
  have W : Walks prog w0 A s.heap.objs.size [s.heap.objs.size] [s.heap.objs.size] n (fun i v => i < n ∧ ∃ t, v = .int (a₀ + i * 1) t)
      (fun i h => IsRangeIter h s.heap.objs.size (a₀ + (i : Nat) * 1) ((n : Int) - (i : Nat)) 1) := (Walks.range hh _ a₀ 1 n).bound
  have hlt : ∀ p ∈ all, p.1 ≠ s.heap.objs.size := fun p hp => Nat.ne_of_lt (Heap.lt_size (N p hp).1)
  have hTs : T ≠ s.heap.objs.size := hlt _ hT
  have hsep : ∀ o : Obj, ∀ p ∈ (T, o) :: post, p.1 ≠ C ∧ p.1 ≠ s.heap.objs.size := by
    intro o p hp
    rcases List.mem_cons.mp hp with rfl | hp
    · exact ⟨hTC, hTs⟩
    · exact ⟨(hpost p hp).2.1, hlt _ (hpost p hp).1⟩
  refine ⟨s.heap.objs.size, C, oC, vv, n, _, _, m₀, (T, listOf vs₀.toArray nn) :: post, fun i m nx => ∃ a vs, a = ((rangeKs a₀ n).take i).foldl g c₀ ∧ a.length = 4 ∧ IntsAre vs a ∧ nx = (T, listOf vs.toArray nn) :: post ∧ ∀ z, z ≠ y1 → z ≠ y2 → z ≠ y3 → m z = m₀ z, rfl, W, fun i h st => ⟨_, st⟩, hlk, ?_, next_is_new F, hlt _ hC, ?_, hd, (by show IsRangeIter _ _ _ _ _; rw [hn]; simpa using Heap.get?_push_size _ rfl), F.push _, ?_, ⟨c₀, vs₀, rfl, hc, hi, rfl, fun _ _ _ _ => rfl⟩, ?_, ?_⟩
  · exact fun hm => absurd F.ns.lt (hm ▸ Nat.lt_irrefl _)
  · intro p hp
    rcases List.mem_cons.mp hp with rfl | hp
    · exact ⟨hTC, hlt _ hT⟩
    · exact ⟨(hpost p hp).2.1, hlt _ (hpost p hp).1⟩
  · intro p hp
    have hp' : p ∈ all := by
      rcases List.mem_cons.mp hp with rfl | hp
      · exact hC
      · rcases List.mem_cons.mp hp with rfl | hp
        · exact hT
        · exact (hpost p hp).1
    exact ⟨Heap.get?_push_of_some _ (N p hp').1, (N p hp').2⟩
  · rintro i v m₁ news₁ h tk oC' oI hi' ⟨_, t, rfl⟩ ⟨a, vs, ha, hl, hvs, rfl, hm⟩ hnw hd' F₁ N₁
    have hk : (rangeKs a₀ n)[i]? = some (a₀ + (i : Int) * 1) := by simp [rangeKs, hi']
    have hs : ((rangeKs a₀ n).take (i + 1)).foldl g c₀ = g a (a₀ + (i : Int) * 1) := by rw [List.take_add_one, hk, ha]; simp
    rw [same hm] at F₁
    refine wpAny_mono (turn s.heap.objs.size _ t a vs h tk oC' oI _ _ _ (List.mem_of_getElem? hk) hl hvs hd' ⟨hTC, hlt _ hT, hlt _ hC⟩ (fun p hp => (hpost p hp).2.2) (fun p hp => ⟨(hpost p hp).2.1, hlt _ (hpost p hp).1⟩) F₁ N₁) (fun f s₂ q => ?_) fun _ _ e => e
    have fin : (∃ h' tk' m' vs' oC vv, s₂ = { s with heap := h', toks := tk' } ∧ Fr h₀ env.locals h' m' ∧ oC.data = .cell vv ∧ News h₀ env.locals h' ((C, oC) :: (s.heap.objs.size, oI) :: (T, listOf vs'.toArray nn) :: post) ∧ IntsAre vs' (g a (a₀ + (i : Int) * 1)) ∧ ∀ z, z ≠ y1 → z ≠ y2 → z ≠ y3 → m' z = m₀ z) →
        StepC h₀ env.locals C s.heap.objs.size oI (fun m nx => ∃ a vs, a = ((rangeKs a₀ n).take (i + 1)).foldl g c₀ ∧ a.length = 4 ∧ IntsAre vs a ∧ nx = (T, listOf vs.toArray nn) :: post ∧ ∀ z, z ≠ y1 → z ≠ y2 → z ≠ y3 → m z = m₀ z) { s with heap := h, toks := tk } s₂ := by
      rintro ⟨h', tk', m', vs', oC₂, vv₂, e, F₂, hd₂, N₂, hi₂, hm₂⟩
      exact ⟨h', tk', m', (T, listOf vs'.toArray nn) :: post, oC₂, vv₂, e, F₂, hd₂, N₂, hsep _, _, vs', hs.symm, hg a _ hl, hi₂, rfl, hm₂⟩
    cases f with
    | ret v => exact q
    | brk => exact q
    | next => exact fin q
    | cont => exact fin q
  · rintro h' tk m' news' oC' vv' F' hd' N' ⟨a, vs, ha, hl, hvs, rfl, hm⟩
    have e : (rangeKs a₀ n).take n = rangeKs a₀ n := List.take_of_length_le (by rw [rangeKs_length]; exact Nat.le_refl _)
    rw [e] at ha
    rw [same hm] at F'
    subst ha
    exact done _ _ _ vs h' tk oC' hl hvs F' N'
end
theorem news_ne {news all : List (Addr × Obj)} {L C T : Nat} (h : ∀ p ∈ news, @LT.lt Nat _ p.1 L) (h2 : @LT.lt Nat _ C T ∧ AllLt T news) (e : C = L + 1) (hs : ∀ p ∈ news, p ∈ all) : ∀ p ∈ news, p ∈ all ∧ p.1 ≠ C ∧ p.1 ≠ T := by
  intro p hp
  have h1 := h p hp
  have h3 := h2.1
  exact ⟨hs p hp, fun q => by rw [q] at h1; omega, fun q => by rw [q] at h1; omega⟩
theorem bit_eq {g : Int} {i : Nat} : Value.bool (decide (Builtin.bitAnd g (1 * 2 ^ (0 + (i : Int)).toNat) ≠ 0)) = Value.bool (bitF g i) := by
  unfold bitF
  rw [show (0 + (i : Int)).toNat = i by omega]
theorem item_ord {prog : Program} {w : World} {A : Around} {E : Value → Shared → Prop} {s : Shared} {h₀ : Heap} {L D : Addr} {news : List (Addr × Obj)} {g : Int} {n : Nat} {u a0 a1 a2 a3 a4 : Tok} {value slice : PySem.Expr} {Q : Value → Shared → Prop} (N : News h₀ L s.heap news) (hm : (D, listOf #[.int 0 a0, .int 6 a1, .int 2 a2, .int 2 a3, .int 6 a4] n) ∈ news) (h : ∀ t, Q (.int (ordF g) t) s)
    (hs : subscripted slice false (.ref D) (.int (((bitF g 0).toNat + (bitF g 1).toNat + (bitF g 2).toNat + (bitF g 3).toNat : Nat) : Int) u) = operate [.ref D, .int (((bitF g 0).toNat + (bitF g 1).toNat + (bitF g 2).toNat + (bitF g 3).toNat : Nat) : Int) u] (getItem (.ref D) (.int (((bitF g 0).toNat + (bitF g 1).toNat + (bitF g 2).toNat + (bitF g 3).toNat : Nat) : Int) u)) := by with_unfolding_all rfl) : wpAny (model prog w) A (subscriptTail value slice (.ref D) (.int (((bitF g 0).toNat + (bitF g 1).toNat + (bitF g 2).toNat + (bitF g 3).toNat : Nat) : Int) u)) Q E s := by
  have b : ∀ x : Bool, x.toNat ≤ 1 := by decide
  have := b (bitF g 0)
  have := b (bitF g 1)
  have := b (bitF g 2)
  have := b (bitF g 3)
  exact item_ints (vs := [.int 0 a0, .int 6 a1, .int 2 a2, .int 2 a3, .int 6 a4]) (ns := [0, 6, 2, 2, 6]) (.cons _ _ (.cons _ _ (.cons _ _ (.cons _ _ (.cons _ _ .nil))))) N hm (by omega) (by simp only [List.length_cons, List.length_nil]; omega) (by decide) h hs
theorem xor_in : ∀ g : Fin 16, ∀ k : Fin 4, 0 ≤ Builtin.bitXor (g.val : Int) (1 * 2 ^ k.val) ∧ Builtin.bitXor (g.val : Int) (1 * 2 ^ k.val) < 16 := by decide +kernel
theorem xor_in' {g k : Int} (h0 : 0 ≤ g) (h1 : g < 16) (h2 : 0 ≤ k) (h3 : k < 4) : 0 ≤ Builtin.bitXor g (1 * 2 ^ k.toNat) ∧ Builtin.bitXor g (1 * 2 ^ k.toNat) < 16 := by
  have := xor_in ⟨g.toNat, by omega⟩ ⟨k.toNat, by omega⟩
  simp only [Int.toNat_of_nonneg h0] at this
  exact this
theorem tipK_yes {car : Nat → Bool} {g k : Int} {a : List Int} (h1 : bitF g k.toNat = true) (h2 : car (Builtin.bitXor g (1 * 2 ^ k.toNat)).toNat = false) : tipK car g a k = a.set k.toNat (a.getD k.toNat 0 + ordF g) := by unfold tipK; rw [h1, h2]; rfl
theorem tipK_no1 {car : Nat → Bool} {g k : Int} {a : List Int} (h1 : bitF g k.toNat = false) : tipK car g a k = a := by unfold tipK; rw [h1]; rfl
theorem tipK_no2 {car : Nat → Bool} {g k : Int} {a : List Int} (h2 : car (Builtin.bitXor g (1 * 2 ^ k.toNat)).toNat = true) : tipK car g a k = a := by unfold tipK; rw [h2, Bool.not_true, Bool.and_false]; rfl
theorem tipG_yes {car : Nat → Bool} {g : Int} {a : List Int} (h : car g.toNat = true) : tipG car a g = (rangeKs 0 4).foldl (tipK car g) a := by simp [tipG, h]
theorem tipG_no {car : Nat → Bool} {g : Int} {a : List Int} (h : car g.toNat = false) : tipG car a g = a := by simp [tipG, h]
end Mine
end

-- part T1
section
open PySem PySem.W PySem.Calls PyProof.Rows
set_option Elab.async false
set_option maxRecDepth 100000
set_option maxHeartbeats 2000000
namespace Mine
local macro_rules | `(tactic| k_all) => `(tactic| assumption)
local macro_rules | `(tactic| walk_at "call ref") => `(tactic| (k_here; (with_reducible show wpAny _ _ (call (Value.ref 45) [Value.int _ _]) _ _ _); k_dflt (refine' ctr_use (truth_ctr _ _ _ _ _ _ _ ) ?B ?F ?K ?N ?T ?k ?d ?u ?_; (case B => k_asm); (case F => k_asm); (case K => k_asm); (case N => k_asm); (case T => k_asm); (case k => first | exact rfl | assumption); (case d => ktr_room); (case u => ktr_units);  k_whole; unfold RV; intro t9 h9 tk9 F9 N9; (try dsimp only); (try k_fold))))
local macro_rules | `(tactic| walk_at "call ref") => `(tactic| (k_here; (with_reducible show wpAny _ _ (call (Value.ref 59) [Value.int _ _, Value.int _ _]) _ _ _); k_dflt (refine' ctr_use (and_ctr _ _ _ _ _ _ _ _ _ ) ?B ?F ?K ?N ?T ?k ?d ?u ?_; (case B => k_asm); (case F => k_asm); (case K => k_asm); (case N => k_asm); (case T => k_asm); (case k => first | exact rfl | assumption); (case d => ktr_room); (case u => ktr_units);  k_whole; unfold RV; intro t9 h9 tk9 F9 N9; (try dsimp only); (try k_fold))))
local macro_rules | `(tactic| walk_at "call ref") => `(tactic| (k_here; (with_reducible show wpAny _ _ (call (Value.ref 73) [Value.int _ _, Value.int _ _]) _ _ _); k_dflt (refine' ctr_use (xor_ctr _ _ _ _ _ _ _ _ _ ) ?B ?F ?K ?N ?T ?k ?d ?u ?_; (case B => k_asm); (case F => k_asm); (case K => k_asm); (case N => k_asm); (case T => k_asm); (case k => first | exact rfl | assumption); (case d => ktr_room); (case u => ktr_units);  k_whole; unfold RV; intro t9 h9 tk9 F9 N9; (try dsimp only); (try k_fold))))
local macro_rules | `(tactic| walk_at "call ref") => `(tactic| (k_here; (with_reducible show wpAny _ _ (call (Value.ref 52) [Value.int _ _, Value.int _ _]) _ _ _); k_dflt (refine' ctr_use (add_ctr _ _ _ _ _ _ _ _ _ ) ?B ?F ?K ?N ?T ?k ?d ?u ?_; (case B => k_asm); (case F => k_asm); (case K => k_asm); (case N => k_asm); (case T => k_asm); (case k => first | exact rfl | assumption); (case d => ktr_room); (case u => ktr_units);  k_whole; unfold RV; intro t9 h9 tk9 F9 N9; (try dsimp only); (try k_fold))))
local macro_rules | `(tactic| walk_at "call ref") => `(tactic| (k_here; (with_reducible show wpAny _ _ (call (Value.ref 66) [Value.int _ _, Value.int _ _]) _ _ _); k_dflt (refine' ctr_use (lshift_ctr _ _ _ _ _ _ _ _ ?p0 ?p1) ?B ?F ?K ?N ?T ?k ?d ?u ?_; (case B => k_asm); (case F => k_asm); (case K => k_asm); (case N => k_asm); (case T => k_asm); (case k => first | exact rfl | assumption); (case d => ktr_room); (case u => ktr_units); (case p0 => first | assumption | omega | decide); (case p1 => first | assumption | omega | decide); k_whole; unfold RV; intro t9 h9 tk9 F9 N9; (try dsimp only); (try k_fold))))
theorem tips_ctr (w : World) (loose : List Str) (mean : ExcName → Option Value) (mg mb : Str → Option Value) (l : Addr) (vs : List Value) (nn : Nat) (car : Nat → Bool) (hb : vs.length = 16 ∧ ∀ i, i < 16 → vs[i]? = some (.bool (car i))) :
    C w loose mean mg mb 2 135 [.ref l] (fun h₀ L m news s Q => (l, lstO vs nn) ∈ news ∧ ∀ T vs' n' h' tk', IntsAre vs' (tipsF car) → Fr h₀ L h' m → News h₀ L h' ((T, listOf vs'.toArray n') :: news) → Q (.ref T) { s with heap := h', toks := tk' }) := by
  w_top off
  unfold C
  k_fill
  unfold Ctr
  try unfold RV
  intro dp un gd cn cs a' ccd cl outer A₀ base h₀ L m news s Q E hB hF hK hN hT hk hdp hu hret
  refine wpAny_call ?_
  k_dflt (refine' code_defC ?k1 ?k2 ?k3 ?k4 ?k5 ?kA ?kF ?kK ?k6 ?k7 ?k8 ?k9 ?kB ?kD ?_ ?c2 ?c3 ?c4; (case kA => exact rfl); (case kF => exact rfl); (case kK => assumption); (case k1 => k_asm); (case k2 => k_asm); (case k3 => k_asm); (case k4 => k_asm); (case k5 => k_asm); (case k6 => k_is); (case k7 => k_is); (case k8 => ktr_room); (case k9 => exact BindsTo.of_eq rfl); (case kB => exact rfl); (case kD => decide +kernel); (case c2 => exact rfl); (case c3 => exact rfl); (case c4 => exact rfl); k_whole; intro g' L' h' tk' cells' FG' F' N' Y' B' X' T' l1; (try k_lt l1); k_cells Y'; (try simp only [List.cons_append, List.nil_append] at N'); (try dsimp only); (try k_lift B'); (try k_fold))
  obtain ⟨hml, hret⟩ := hret
  k_with_none
  k_with "exec For Name Call cons nil" => first
    | kpr_for
    | (k_here; (rename Fr _ _ _ _ => lF'); k_dflt (refine' For_cell lF' ?k1 ?k2 ?_; (case k1 => exact rfl); (case k2 => exact rfl); k_whole))
  k_with "pyIter ref" => (k_here; k_dflt (first
    | ((refine' iter_rC (Str.ofString "inside") (Str.ofString "orders") (Str.ofString "k") (n := 16) (post := news) (tipG car) tipG_len ?iW ?cW ?pW ?CW ?TW ?neW ?lkW ?dW ?hhW ?rW ?smW ?nW ?FW ?NW ?_ ?_);
          (case hhW => rfl); (case FW => k_asm); (case NW => k_asm); (case lkW => exact rfl); (case CW => k_mem); (case dW => k_asm); (case TW => exact List.Mem.head _); (case iW => exact .cons _ _ (.cons _ _ (.cons _ _ (.cons _ _ .nil)))); (case cW => rfl); (case rW => assumption); (case smW => decide); (case nW => rfl); (case neW => k_ne); (case pW => exact news_ne (by assumption) (by assumption) rfl (fun p hp => .tail _ (.tail _ hp)));
          all_goals k_whole; all_goals (first | (intro I9 k9 t9 a9 vs9 h9 tk9 oC9 oI9 u19 u29 u39 hk9 hl9 hi9 hd9 hne9 hpT9 hpC9 F9 N9; have hk0 := (mem_rangeKs hk9).1; have hk16 : k9 < 16 := (mem_rangeKs hk9).2) | (intro u19 u29 u39 vs9 h9 tk9 oC9 hl9 hi9 F9 N9)))
    | ((first
              | (refine' iter_rI1 [_, _, _] (n := 4) (post := news) (tipK car k9) tipK_len hi9 hl9 hpT9 ?hhW ?rW ?smW ?nW ?FW ?NW ?_ ?_; (case NW => assumption))
              | (refine' iter_rI1 [_, _, _, _] (n := 4) (post := news) (tipK car k9) tipK_len hi9 hl9 hpT9 ?hhW ?rW ?smW ?nW ?FW ?NW ?_ ?_; (case NW => assumption)));
          (case hhW => rfl); (case FW => k_asm); (case rW => assumption); (case smW => decide); (case nW => rfl);
          all_goals k_whole; all_goals (first | (intro kI tI aI vsI hI tkI ownI hkI hlI hiI hTI FI NI; have hI0 := (mem_rangeKs hkI).1; have hI4 : kI < 4 := (mem_rangeKs hkI).2; simp only [List.cons_append, List.nil_append] at NI) | (intro uI vsI hI tkI hlI hiI FI NI; simp only [List.cons_append, List.nil_append] at NI)))))
  k_with "truthy bool" => (refine truthy_split ?_ ?_ <;> intro hTr' <;> (try dsimp only) <;> (first | with_reducible refine ite_T ?_ | with_reducible refine ite_F ?_ | skip))
  k_with "subscriptTail Name Name ref int" => (k_here; k_dflt (first
    | (refine' item_bools hb ?NW ?mW ?h0W ?h1W ?h2W ?_; (case NW => k_asm); (case mW => repeat (first | exact List.mem_append_left _ hml | assumption | refine List.Mem.tail _ ?_)); (case h0W => omega); (case h1W => omega); (case h2W => decide); k_whole)
    | (refine' item_b4 (c := bitF k9) ?NW ?mW ?h0W ?h1W ?_; (case NW => k_asm); (case mW => k_mem); (case h0W => omega); (case h1W => omega); k_whole)
    | (refine' item_ints (by assumption) ?NW ?mW ?h0W ?h1W ?h2W ?_; (case NW => k_asm); (case mW => k_mem); (case h0W => omega); (case h1W => omega); (case h2W => omega); k_whole; intro tI9)))
  k_with "CompSrc" => (refine LCg.CompSrc.range (by rfl) (by k_asm) (by k_asm) (by assumption) (by decide) (by first | exact rangeSize_nat _ _ | rfl) (by exact Nat.le_of_ble_eq_true rfl) ?_; intro gS'; (refine' comp_bools4 (bitF k9) (fun i' t' I' oI' C' oC' D' m' ys' h' tk' E' hi' hC' hx' F' N' off' ne' => ?_) ?_); all_goals (try (simp only [LCg.Off3, and_true] at off')); kcf_last)
  k_with "Eq bool bool" => exact bit_eq
  k_with "call ref" => (k_here; (with_reducible show wpAny _ _ (call (Value.ref 87) [Value.ref _, Value.bool _]) _ _ _); k_dflt ((refine' ctr_use (count_ctr _ _ _ _ _ _ _ _ _ _ _) ?BW ?FW ?KW ?NW ?TW ?kW ?dW ?uW ?_); (case BW => k_asm); (case FW => k_asm); (case KW => k_asm); (case NW => k_asm); (case TW => k_asm); (case kW => first | exact rfl | assumption); (case dW => ktr_room); (case uW => ktr_units); (refine And.intro ?mW ?_); (case mW => k_mem); k_whole; unfold RV; intro t9 h9 tk9 F9 N9; (try dsimp only); (try k_fold)))
  k_with "call ref" => (k_here; (with_reducible show wpAny _ _ (call (Value.ref 87) [Value.ref _, Value.bool _]) _ _ _); k_dflt ((refine' ctr_use (count_ctr _ _ _ _ _ _ (bitF k9 0) (bitF k9 1) (bitF k9 2) (bitF k9 3) 4) ?BW ?FW ?KW ?NW ?TW ?kW ?dW ?uW ?_); (case BW => k_asm); (case FW => k_asm); (case KW => k_asm); (case NW => k_asm); (case TW => k_asm); (case kW => first | exact rfl | assumption); (case dW => ktr_room); (case uW => ktr_units); (refine And.intro ?mW ?_); (case mW => k_mem); k_whole; unfold RV; intro t9 h9 tk9 F9 N9; (try dsimp only); (try k_fold)))
  k_with "subscriptTail List" => (k_here; k_dflt (refine' item_ord (g := k9) ?NW ?mW ?_; (case NW => k_asm); (case mW => k_mem); k_whole; intro tI9))
  k_with "subscriptTail Name Call ref int" => (k_here; k_dflt (refine' item_bools hb ?NW ?mW ?h0W ?h1W ?h2W ?_; (case NW => k_asm); (case mW => repeat (first | exact List.mem_append_left _ hml | assumption | refine List.Mem.tail _ ?_)); (case h0W => exact (xor_in' hk0 hk16 hI0 hI4).1); (case h1W => exact (xor_in' hk0 hk16 hI0 hI4).2); (case h2W => decide); k_whole))
  k_with "call ref" => (k_here; (with_reducible show wpAny _ _ (call (Value.ref 94) [Value.ref _, Value.int _ _, Value.int _ _]) _ _ _); k_dflt ((refine' ctr_use (setitem_ctr _ _ _ _ _ _ vsI aI 0 kI _ _ _ hiI hI0 ?l1W ?l2W) ?BW ?FW ?KW ?NW ?TW ?kW ?dW ?uW ?_); (case l1W => omega); (case l2W => omega); (case BW => k_asm); (case FW => k_asm); (case KW => k_asm); (case NW => k_asm); (case TW => k_asm); (case kW => first | exact rfl | assumption); (case dW => ktr_room); (case uW => ktr_units); (refine' Exists.intro ?wW (And.intro ?mW ?_)); (case mW => k_upd); k_whole; intro h9 tk9 F9 N9; (try dsimp only); (try k_fold)))
  k_with "TurnC" => (refine TurnC.next (by first | with_reducible assumption | assumption) (by first | (rw [tipG_no (by assumption)]; assumption) | (rw [tipG_yes (by assumption)]; assumption)) (by assumption) (by first | assumption | (refine' cb_drop ?cbN ?cbS; (case cbN => assumption); (case cbS => kcj_all))) (by intro z h1 h2 h3; simp [h1, h2, h3]))
  k_with "TurnL" => (refine' TurnL.next ?FW ?iW ?NW ?jW; (case FW => assumption); (case NW => first | assumption | (refine' cb_drop ?cbN ?cbS; (case cbN => assumption); (case cbS => kcj_all))); (case iW => first | (rw [tipK_no1 (by assumption)]; assumption) | (rw [tipK_no2 (by assumption)]; assumption) | (rw [tipK_yes (by assumption) (by assumption)]; exact ints_set hiI _)); (case jW => intro z h1; simp [h1]))
  repeat' (first | (k_unfold; (try dsimp only)) | (k_end; wrow_close) | walk1 | (dsimp only; walk1) | (leave1; (try dsimp only)))
  all_goals exact hret _ _ _ _ _ hi9 (by assumption) (by first | assumption | (refine' cb_drop ?cbN ?cbS; (case cbN => assumption); (case cbS => kcj_all)))
end Mine
end

-- part Ld
section
open PySem PySem.W PySem.Calls PyProof.Rows PySem.Builtin PySem.Builtin.Str
set_option Elab.async false
set_option maxRecDepth 100000
namespace Mine
/-- a turn's end: cell, iterator, the list of ints at T, another cell, the rest -/
def TurnD (h₀ : Heap) (L C I T C2 : Addr) (oI : Obj) (nn : Nat) (post : List (Addr × Obj)) (a' : List Int) (J : (Str → Option Value) → Prop) (s₁ : Shared) (Q : Flow → Shared → Prop) (f : Flow) (s₂ : Shared) : Prop := match f with
  | .ret v => Q (.ret v) s₂
  | .brk => Q .next s₂
  | _ => ∃ h' tk m' vs' oC vv oD vD, s₂ = { s₁ with heap := h', toks := tk } ∧ Fr h₀ L h' m' ∧ oC.data = .cell vv ∧ News h₀ L h' ((C, oC) :: (I, oI) :: (T, listOf vs'.toArray nn) :: (C2, oD) :: post) ∧ IntsAre vs' a' ∧ J m' ∧ oD.data = .cell vD
theorem TurnD.next {h₀ : Heap} {L C I T C2 : Addr} {oI oC oD : Obj} {vv vD : Option Value} {nn : Nat} {post : List (Addr × Obj)} {a' : List Int} {J : (Str → Option Value) → Prop} {s₁ : Shared} {Q : Flow → Shared → Prop} {h' : Heap} {tk : Nat} {m' : Str → Option Value} {vs' : List Value} (F : Fr h₀ L h' m') (N : News h₀ L h' ((C, oC) :: (I, oI) :: (T, listOf vs'.toArray nn) :: (C2, oD) :: post)) (i : IntsAre vs' a') (d : oC.data = .cell vv) (d2 : oD.data = .cell vD) (j : J m') : TurnD h₀ L C I T C2 oI nn post a' J s₁ Q .next { s₁ with heap := h', toks := tk } := ⟨h', tk, m', vs', oC, vv, oD, vD, rfl, F, d, N, i, j, d2⟩
section
variable {prog : Program} {w0 : World} {A : Around} {E : Value → Shared → Prop} {s : Shared} {env : Env} {h₀ : Heap} {x : Str} {body : List Stmt} {Q : Flow → Shared → Prop}
theorem iter_rD {r C T C2 : Addr} {oC oD : Obj} {vv vD : Option Value} {a₀ b₀ : Int} {t₀ u₀ v₀ : Tok} {n nn : Nat} {m₀ : Str → Option Value} (y1 y2 y3 : Str) {post all : List (Addr × Obj)} {vs₀ : List Value} {c₀ : List Int} (g : List Int → Int → List Int)
    (hg : ∀ a k, a.length = 4 → (g a k).length = 4) (hi : IntsAre vs₀ c₀) (hc : c₀.length = 4) (hpost : ∀ p ∈ post, p ∈ all ∧ p.1 ≠ C ∧ p.1 ≠ T ∧ p.1 ≠ C2) (hC2 : (C2, oD) ∈ all) (hd2 : oD.data = .cell vD) (hTC2 : T ≠ C2) (hCC2 : C2 ≠ C) (hC : (C, oC) ∈ all) (hT : (T, listOf vs₀.toArray nn) ∈ all) (hTC : T ≠ C) (hlk : env.cells.lookup x = some C) (hd : oC.data = .cell vv)
    (hh : A.handled = none) (hr : IsRange s.heap r a₀ b₀ 1 t₀ u₀ v₀) (hsmall : Builtin.Range.small a₀ b₀ 1 = true) (hn : Builtin.Range.rangeSize a₀ b₀ 1 = (n : Int)) (F : Fr h₀ env.locals s.heap m₀) (N : News h₀ env.locals s.heap all)
    (turn : ∀ I k t a vs h tk oC oI oD vD u1 u2 u3, k ∈ rangeKs a₀ n → a.length = 4 → IntsAre vs a → oC.data = .cell (some (.int k t)) → oD.data = .cell vD → ((@Ne Nat T C) ∧ (@Ne Nat T I) ∧ (@Ne Nat C I) ∧ (@Ne Nat T C2) ∧ (@Ne Nat C2 C) ∧ (@Ne Nat C2 I)) → (∀ p ∈ post, p.1 ≠ T) → (∀ p ∈ post, p.1 ≠ C2) → (∀ p ∈ post, p.1 ≠ I) → Fr h₀ env.locals h (fun y => if y = y1 then u1 else if y = y2 then u2 else if y = y3 then u3 else m₀ y) → News h₀ env.locals h ((C, oC) :: (I, oI) :: (T, listOf vs.toArray nn) :: (C2, oD) :: post) →
      wpAny (model prog w0) A (execs body env) (TurnD h₀ env.locals C I T C2 oI nn post (g a k) (fun m' => ∀ z, z ≠ y1 → z ≠ y2 → z ≠ y3 → m' z = m₀ z) { s with heap := h, toks := tk } Q) E { s with heap := h, toks := tk })
    (done : ∀ u1 u2 u3 vs h tk oC oD, ((rangeKs a₀ n).foldl g c₀).length = 4 → IntsAre vs ((rangeKs a₀ n).foldl g c₀) → Fr h₀ env.locals h (fun y => if y = y1 then u1 else if y = y2 then u2 else if y = y3 then u3 else m₀ y) → News h₀ env.locals h ((C, oC) :: (T, listOf vs.toArray nn) :: (C2, oD) :: post) → Q .next { s with heap := h, toks := tk }) :
    wpAny (model prog w0) A (pyIter (.ref r)) (fun it s₂ => AtC prog w0 A h₀ env x body Q E it s₂) E s := by
  have same : ∀ {m' : Str → Option Value}, (∀ z, z ≠ y1 → z ≠ y2 → z ≠ y3 → m' z = m₀ z) → m' = fun z => if z = y1 then m' y1 else if z = y2 then m' y2 else if z = y3 then m' y3 else m₀ z := by
    intro m' h2
    funext z
    by_cases h1 : z = y1
    · simp only [if_pos h1]; rw [h1]
    · by_cases h2' : z = y2
      · simp only [if_neg h1, if_pos h2']; rw [h2']
      · by_cases h3 : z = y3
        · simp only [if_neg h1, if_neg h2', if_pos h3]; rw [h3]
        · simp [h1, h2', h3, h2 z h1 h2' h3]
  refine wpAny_pyIter_range hr hsmall ?_
  have W : Walks prog w0 A s.heap.objs.size [s.heap.objs.size] [s.heap.objs.size] n (fun i v => i < n ∧ ∃ t, v = .int (a₀ + i * 1) t)
      (fun i h => IsRangeIter h s.heap.objs.size (a₀ + (i : Nat) * 1) ((n : Int) - (i : Nat)) 1) := (Walks.range hh _ a₀ 1 n).bound
  have hlt : ∀ p ∈ all, p.1 ≠ s.heap.objs.size := fun p hp => Nat.ne_of_lt (Heap.lt_size (N p hp).1)
  have hTs : T ≠ s.heap.objs.size := hlt _ hT
  have hC2s : C2 ≠ s.heap.objs.size := hlt _ hC2
  have hsep : ∀ o o2 : Obj, ∀ p ∈ (T, o) :: (C2, o2) :: post, p.1 ≠ C ∧ p.1 ≠ s.heap.objs.size := by
    intro o o2 p hp
    rcases List.mem_cons.mp hp with rfl | hp
    · exact ⟨hTC, hTs⟩
    rcases List.mem_cons.mp hp with rfl | hp
    · exact ⟨hCC2, hC2s⟩
    · exact ⟨(hpost p hp).2.1, hlt _ (hpost p hp).1⟩
  refine ⟨s.heap.objs.size, C, oC, vv, n, _, _, m₀, (T, listOf vs₀.toArray nn) :: (C2, oD) :: post, fun i m nx => ∃ a vs oD vD, a = ((rangeKs a₀ n).take i).foldl g c₀ ∧ a.length = 4 ∧ IntsAre vs a ∧ nx = (T, listOf vs.toArray nn) :: (C2, oD) :: post ∧ oD.data = .cell vD ∧ ∀ z, z ≠ y1 → z ≠ y2 → z ≠ y3 → m z = m₀ z, rfl, W, fun i h st => ⟨_, st⟩, hlk, ?_, next_is_new F, hlt _ hC, ?_, hd, (by show IsRangeIter _ _ _ _ _; rw [hn]; simpa using Heap.get?_push_size _ rfl), F.push _, ?_, ⟨c₀, vs₀, oD, vD, rfl, hc, hi, rfl, hd2, fun _ _ _ _ => rfl⟩, ?_, ?_⟩
  · exact fun hm => absurd F.ns.lt (hm ▸ Nat.lt_irrefl _)
  · exact hsep _ _
  · intro p hp
    have hp' : p ∈ all := by
      rcases List.mem_cons.mp hp with rfl | hp
      · exact hC
      · rcases List.mem_cons.mp hp with rfl | hp
        · exact hT
        · rcases List.mem_cons.mp hp with rfl | hp
          · exact hC2
          · exact (hpost p hp).1
    exact ⟨Heap.get?_push_of_some _ (N p hp').1, (N p hp').2⟩
  · rintro i v m₁ news₁ h tk oC' oI hi' ⟨_, t, rfl⟩ ⟨a, vs, oD, vD, ha, hl, hvs, rfl, hdD, hm⟩ hnw hd' F₁ N₁
    have hk : (rangeKs a₀ n)[i]? = some (a₀ + (i : Int) * 1) := by simp [rangeKs, hi']
    have hs : ((rangeKs a₀ n).take (i + 1)).foldl g c₀ = g a (a₀ + (i : Int) * 1) := by rw [List.take_add_one, hk, ha]; simp
    rw [same hm] at F₁
    refine wpAny_mono (turn s.heap.objs.size _ t a vs h tk oC' oI oD vD _ _ _ (List.mem_of_getElem? hk) hl hvs hd' hdD ⟨hTC, hlt _ hT, hlt _ hC, hTC2, hCC2, hC2s⟩ (fun p hp => (hpost p hp).2.2.1) (fun p hp => (hpost p hp).2.2.2) (fun p hp => hlt _ (hpost p hp).1) F₁ N₁) (fun f s₂ q => ?_) fun _ _ e => e
    have fin : (∃ h' tk' m' vs' oC vv oD vD, s₂ = { s with heap := h', toks := tk' } ∧ Fr h₀ env.locals h' m' ∧ oC.data = .cell vv ∧ News h₀ env.locals h' ((C, oC) :: (s.heap.objs.size, oI) :: (T, listOf vs'.toArray nn) :: (C2, oD) :: post) ∧ IntsAre vs' (g a (a₀ + (i : Int) * 1)) ∧ (∀ z, z ≠ y1 → z ≠ y2 → z ≠ y3 → m' z = m₀ z) ∧ oD.data = .cell vD) →
        StepC h₀ env.locals C s.heap.objs.size oI (fun m nx => ∃ a vs oD vD, a = ((rangeKs a₀ n).take (i + 1)).foldl g c₀ ∧ a.length = 4 ∧ IntsAre vs a ∧ nx = (T, listOf vs.toArray nn) :: (C2, oD) :: post ∧ oD.data = .cell vD ∧ ∀ z, z ≠ y1 → z ≠ y2 → z ≠ y3 → m z = m₀ z) { s with heap := h, toks := tk } s₂ := by
      rintro ⟨h', tk', m', vs', oC₂, vv₂, oD₂, vD₂, e, F₂, hd₂, N₂, hi₂, hm₂, hdD₂⟩
      exact ⟨h', tk', m', (T, listOf vs'.toArray nn) :: (C2, oD₂) :: post, oC₂, vv₂, e, F₂, hd₂, N₂, hsep _ _, _, vs', oD₂, vD₂, hs.symm, hg a _ hl, hi₂, rfl, hdD₂, hm₂⟩
    cases f with
    | ret v => exact q
    | brk => exact q
    | next => exact fin q
    | cont => exact fin q
  · rintro h' tk m' news' oC' vv' F' hd' N' ⟨a, vs, oD, vD, ha, hl, hvs, rfl, hdD, hm⟩
    have e : (rangeKs a₀ n).take n = rangeKs a₀ n := List.take_of_length_le (by rw [rangeKs_length]; exact Nat.le_refl _)
    rw [e] at ha
    rw [same hm] at F'
    subst ha
    exact done _ _ _ vs h' tk oC' oD hl hvs F' N'
end

theorem range_due {n : Nat} (h : 2 ≤ n ∧ n ≤ 4) : Builtin.Range.small 1 (2 ^ ((n : Int)).toNat) 1 = true ∧ Builtin.Range.rangeSize 1 (2 ^ ((n : Int)).toNat) 1 = ((2 ^ n - 1 : Nat) : Int) := by
  have : n = 2 ∨ n = 3 ∨ n = 4 := by omega
  rcases this with rfl | rfl | rfl <;> decide
theorem news_ne3 {news all : List (Addr × Obj)} {o3 : Obj} {L A1 A2 A3 T : Nat} (h : ∀ p ∈ news, @LT.lt Nat _ p.1 L) (h2 : @LT.lt Nat _ A3 T ∧ @LT.lt Nat _ A2 T ∧ @LT.lt Nat _ A1 T ∧ AllLt T news) (e1 : A1 = L + 1) (e2 : A2 = L + 1 + 1) (e3 : A3 = L + 1 + 1 + 1) (hs : ∀ p ∈ news, p ∈ all) (ha : ((A1, o3) : Addr × Obj) ∈ all) : ∀ p ∈ (((A1, o3) : Addr × Obj) :: news), p ∈ all ∧ p.1 ≠ A2 ∧ p.1 ≠ T ∧ p.1 ≠ A3 := by
  obtain ⟨h3, h4, h5, -⟩ := h2
  intro p hp
  rcases List.mem_cons.mp hp with rfl | hp
  · exact ⟨ha, fun q => by have q' : @Eq Nat A1 A2 := q; omega, fun q => by have q' : @Eq Nat A1 T := q; omega, fun q => by have q' : @Eq Nat A1 A3 := q; omega⟩
  · have h1 := h p hp
    exact ⟨hs p hp, fun q => by rw [q] at h1; omega, fun q => by rw [q] at h1; omega, fun q => by rw [q] at h1; omega⟩
/-- _law_due, one choice -/
def chosenF (ns : List Int) (c : Int) : List Int := (rangeKs 0 ns.length).foldl (fun l k => if (c.fdiv (2 ^ k.toNat)).fmod 2 = 1 then l ++ [ns.getD k.toNat 0] else l) []
def onesF (ch : List Int) (k : Int) : List Int := ch.foldl (fun l o => if (o.fdiv (2 ^ k.toNat)).fmod 2 = 1 then l ++ [o] else l) []
def togF (ch : List Int) : List Int := (rangeKs 0 4).filter fun k => decide (onesF ch k ≠ [])
def partF (ch tg : List Int) : Int := (if (ch.length : Int).fmod 2 = 1 then (24 : Int) else -24).fdiv tg.length
def dueK (p : Int) (a : List Int) (k : Int) : List Int := a.set k.toNat (a.getD k.toNat 0 + p)
def dueC (ns : List Int) (a : List Int) (c : Int) : List Int := (togF (chosenF ns c)).foldl (dueK (partF (chosenF ns c) (togF (chosenF ns c)))) a
def dueF (ns : List Int) : List Int := (rangeKs 1 (2 ^ ns.length - 1)).foldl (dueC ns) [0, 0, 0, 0]
theorem dueK_len {p : Int} : ∀ a k, a.length = 4 → (dueK p a k).length = 4 := fun a k h => by simp [dueK, h]
theorem dueK_lens {p : Int} : ∀ (l : List Int) (a : List Int), a.length = 4 → (l.foldl (dueK p) a).length = 4
  | [], _, h => h
  | k :: r, a, h => dueK_lens r _ (dueK_len a k h)
theorem dueC_len {ns : List Int} : ∀ a c, a.length = 4 → (dueC ns a c).length = 4 := fun a _ h => dueK_lens _ a h
theorem range_small {n : Nat} (h : 2 ≤ n ∧ n ≤ 4) : Builtin.Range.small 0 (n : Int) 1 = true := by
  have : n = 2 ∨ n = 3 ∨ n = 4 := by omega
  rcases this with rfl | rfl | rfl <;> decide
theorem range_size {n : Nat} (h : 2 ≤ n ∧ n ≤ 4) : n ≤ sizeLine := le_line (by omega)
theorem len_ns {prog : Program} {w : World} {A : Around} {E : Value → Shared → Prop} {s : Shared} {h₀ : Heap} {L D : Addr} {news : List (Addr × Obj)} {its : List Value} {n k : Nat} {Q : Value → Shared → Prop} (e : its.length = k) (N : News h₀ L s.heap news) (hm : (D, lstO its n) ∈ news) (hz : k ≤ 1000) (h : ∀ t j, Q (.int k t) { s with toks := j }) : wpAny (model prog w) A (call (.builtin "len") [.ref D]) Q E s := by
  subst e; exact len_at N hm hz h
end Mine
end

-- part Ck
section
open PySem PySem.W PySem.Calls PyProof.Rows PySem.Builtin PySem.Builtin.Str
set_option Elab.async false
set_option maxRecDepth 100000
namespace Mine
open PyProof.Rows.LCg
theorem newEnv_cell {M : Model} {A : Around} {E : Value → Shared → Prop} {s : Shared} {scope : Scope} {globals : Addr} {cl : List (Str × Addr)} {qual : Str} {outer : Env} {x : Str} {Q : Env → Shared → Prop} (hc : ∀ n, cellsFrom n scope.names cl = (x, n) :: cl) (hp : ∀ h, pushCells h scope.names = h.push { cls := .type "cell", data := .cell none })
    (hQ : Q { scope, locals := s.heap.objs.size, globals, cells := (x, s.heap.objs.size + 1) :: cl, qual, func := none, code := outer.code, frame := outer.frame, builtins := outer.builtins } { s with heap := (s.heap.push { cls := .type "dict", data := .dict #[] }).push { cls := .type "cell", data := .cell none } }) :
    wpAny M A (newFunctionEnv scope globals cl [] qual none .none (some outer)) Q E s := by
  simp only [newFunctionEnv, Option.isSome_some, if_true]
  refine wpAny_bind (wpAny_alloc ?_)
  refine wpAny_bind (wpAny_layCells _ (fun name kind cells => by cases hkc : kind == NameKind.cell <;> simp [hkc]) _ _ _ _ ?_)
  rw [hp, show ({ s with heap := s.heap.push { cls := .type "dict", data := .dict #[] } } : Shared).heap.objs.size = s.heap.objs.size + 1 from Heap.size_push .., hc]
  rw [List.forIn_nil]
  exact wpAny_bind (wpAny_pure (wpAny_pure hQ))
theorem off1_of {X : Addr} : ∀ {l : List (Addr × Obj)}, (∀ p ∈ l, p.1 ≠ X) → Off1 X l
  | [], _ => trivial
  | p :: r, h => ⟨h p (.head _), off1_of fun q hq => h q (.tail _ hq)⟩
/-- a test's end -/
def TestEnd (h₀ : Heap) (L : Addr) (m : Str → Option Value) (keep : List (Addr × Obj)) (s₁ : Shared) (b ok : Bool) (s' : Shared) : Prop := ok = b ∧ ∃ h' tk', s' = { s₁ with heap := h', toks := tk' } ∧ Fr h₀ L h' m ∧ News h₀ L h' keep
theorem TestEnd.intro {h₀ : Heap} {L : Addr} {m : Str → Option Value} {keep : List (Addr × Obj)} {s₁ : Shared} {b ok : Bool} {h' : Heap} {tk' : Nat} (e : ok = b) (F : Fr h₀ L h' m) (N : News h₀ L h' keep) : TestEnd h₀ L m keep s₁ b ok { s₁ with heap := h', toks := tk' } := ⟨e, h', tk', rfl, F, N⟩
section
variable {prog : Program} {w : World} {A : Around} {E : Value → Shared → Prop} {s : Shared} {h₀ : Heap} {L : Addr} {m : Str → Option Value} {env : Env}
def TurnsK (prog : Program) (w : World) (A : Around) (h₀ : Heap) (L : Addr) (m : Str → Option Value) (env : Env) (ct : PySem.Expr) (x : Str) (scope : Scope) (cl : List (Str × Addr)) (s : Shared) (a : Int) (n : Nat) (news : List (Addr × Obj)) (G : Int → Bool) : Prop :=
  ∀ k t I oI C oC X oX D ys h tk m₂ (E' : Value → Shared → Prop), k ∈ rangeKs a n → NsObj oC m₂ → oX.data = .cell (some (.int k t)) → Fr h₀ L h m → News h₀ L h ((X, oX) :: (I, oI) :: (C, oC) :: (D, lst ys) :: news) → Off3 I C D ((X, oX) :: news) → Off1 X news → ((@Ne Nat I C) ∧ (@Ne Nat I D) ∧ (@Ne Nat C D)) →
    wpAny (model prog w) A (isTrue ct (compEnvC scope ((x, X) :: cl) C env) (eval ct (compEnvC scope ((x, X) :: cl) C env))) (TestEnd h₀ L m ((X, oX) :: (I, oI) :: (C, oC) :: (D, lst ys) :: news) { s with heap := h, toks := tk } (G k)) E' { s with heap := h, toks := tk }
theorem block_K {ct iter : PySem.Expr} {x : Str} {px xp : Pos} {scope : Scope} {cl : List (Str × Addr)} {pos : Pos} {s₂ : Shared} {I : Addr} {n : Nat} {a : Int} {news : List (Addr × Obj)} {G : Int → Bool} {RR : Value → Addr → Result → Shared → Prop}
    (hh : A.handled = none) (hsz : n ≤ sizeLine) (hkind : scope.kind = .function) (hx : (relabel scope env).names.lookup x = some .cell) (hc : ∀ n, cellsFrom n scope.names cl = (x, n) :: cl) (hp : ∀ h, pushCells h scope.names = h.push { cls := .type "cell", data := .cell none })
    (hdbg : (x == ("__debug__" : Str)) = false)
    (hst : IsRangeIter s₂.heap I (a + ((0 : Nat) : Int) * 1) ((n : Int) - ((0 : Nat) : Int)) 1) (F : Fr h₀ L s₂.heap m) (N : News h₀ L s₂.heap news) (hIL : L ≠ I) (hI₀ : h₀.get? I = none) (off : ∀ p ∈ news, p.1 ≠ I)
    (R : TurnsK prog w A h₀ L m env ct x scope cl s₂ a n news G)
    (hRR : ∀ D C h tk m' ys, Fr h₀ L h m → News h₀ L h ((D, lst ys) :: news) → Off1 D news → h.Ns C m' → h₀.get? C = none → h₀.get? D = none → C ≠ L → D ≠ L → C ≠ D → (∀ p ∈ news, p.1 ≠ C) → IntsAre ys ((rangeKs a n).filter G) → RR (.ref D) C (.ok .next) { s₂ with heap := h, toks := tk }) :
    wpAny (model prog w) A (newList []) (fun acc s₃ => wpAny (model prog w) A (newFunctionEnv scope env.globals cl [] env.qual none .none (some env)) (fun cenv s₄ =>
      codeAny (model prog w) A (.compStart (.ListComp (.Name x xp) [⟨.Name x px, iter, [ct], 0⟩] scope pos) 0 (.ref I) acc { cenv with scope := relabel scope env }) (RR acc cenv.locals) s₄) E s₃) E s₂ := by
  have W := range_walks (prog := prog) (w := w) (I := I) hh a n
  have hIlt : I < s₂.heap.objs.size := Heap.lt_size hst
  have hLlt : L < s₂.heap.objs.size := F.ns.lt
  refine wpAny_newObj_type (newEnv_cell hc hp ?_)
  dsimp only
  generalize hH2 : s₂.heap.push { cls := .type "list", dict := none, data := .seq ([] : List Value).toArray } = H2
  have hsz2 : H2.objs.size = s₂.heap.objs.size + 1 := by rw [← hH2, Heap.size_push]
  generalize hH3 : H2.push { cls := .type "dict", data := .dict #[] } = H3
  have hsz3 : H3.objs.size = s₂.heap.objs.size + 2 := by rw [← hH3, Heap.size_push, hsz2]
  generalize hH4 : H3.push { cls := .type "cell", data := .cell none } = H4
  rw [hsz2]
  generalize hD : s₂.heap.objs.size = D at *
  have old : ∀ b o, s₂.heap.get? b = some o → H4.get? b = some o := fun b o e => hH4 ▸ Heap.get?_push_of_some _ (hH3 ▸ Heap.get?_push_of_some _ (hH2 ▸ Heap.get?_push_of_some _ e))
  have gD : H4.get? D = some (lst []) := hH4 ▸ Heap.get?_push_of_some _ (hH3 ▸ Heap.get?_push_of_some _ (hH2 ▸ hD ▸ Heap.get?_push_size _ rfl))
  have gC : H4.Ns (D + 1) (fun _ => none) := by
    have h1 : H3.Ns (D + 1) (fun _ => none) := by
      have := Heap.Ns.new H2 (.type "dict")
      rw [hH3, hsz2] at this
      exact this
    exact h1.keeps fun b o e => hH4 ▸ Heap.get?_push_of_some _ e
  have gX : H4.get? (D + 1 + 1) = some { cls := .type "cell", data := .cell none } := by
    have : H4.get? H3.objs.size = some { cls := .type "cell", data := .cell none } := hH4 ▸ Heap.get?_push_size _ rfl
    rw [hsz3] at this
    exact this
  have fresh₀ : ∀ a : Nat, D ≤ a → h₀.get? a = none := fun a ha => by
    cases e : h₀.get? a with
    | none => rfl
    | some o' =>
      have h1 := Heap.lt_size (F.keep a o' e)
      rw [hD] at h1
      exact absurd h1 (Nat.not_lt.mpr ha)
  have hlt : ∀ p ∈ news, @LT.lt Nat _ p.1 D := fun p hp => hD ▸ Heap.lt_size (N p hp).1
  have hst₁ : IsRangeIter H4 I (a + ((0 : Nat) : Int) * 1) ((n : Int) - ((0 : Nat) : Int)) 1 := old _ _ hst
  have hIltD : @LT.lt Nat _ I D := hIlt
  have hLltD : @LT.lt Nat _ L D := hLlt
  have hXI : D + 1 + 1 ≠ I := fun q => by have q' : @Eq Nat (D + 1 + 1) I := q; omega
  have hCI : D + 1 ≠ I := fun q => by have q' : @Eq Nat (D + 1) I := q; omega
  have hDI : D ≠ I := fun q => by have q' : @Eq Nat D I := q; omega
  have hXL : D + 1 + 1 ≠ L := fun q => by have q' : @Eq Nat (D + 1 + 1) L := q; omega
  have hCL : D + 1 ≠ L := fun q => by have q' : @Eq Nat (D + 1) L := q; omega
  have hDL : D ≠ L := fun q => by have q' : @Eq Nat D L := q; omega
  have hCX : D + 1 + 1 ≠ D + 1 := fun q => by have q' : @Eq Nat (D + 1 + 1) (D + 1) := q; omega
  have hDX : D ≠ D + 1 + 1 := fun q => by have q' : @Eq Nat D (D + 1 + 1) := q; omega
  have hCD : D + 1 ≠ D := fun q => by have q' : @Eq Nat (D + 1) D := q; omega
  have hCD' : D ≠ D + 1 := Ne.symm hCD
  have off3 : ∀ {o : Obj}, Off3 I (D + 1) D ((D + 1 + 1, o) :: news) := Off3.of fun p hp => by
    rcases List.mem_cons.mp hp with rfl | hp
    · exact ⟨hXI, hCX, Ne.symm hDX⟩
    · have h1 := hlt p hp
      exact ⟨off p hp, fun q => by rw [q] at h1; omega, fun q => by rw [q] at h1; omega⟩
  have off1 : Off1 (D + 1 + 1) news := off1_of fun p hp q => by have h1 := hlt p hp; rw [q] at h1; omega
  have hk' : (compEnvC scope ((x, D + 1 + 1) :: cl) (D + 1) env).scope.kind = .function := hkind
  have hx' : (compEnvC scope ((x, D + 1 + 1) :: cl) (D + 1) env).kindOf x = some .cell := hx
  have hlk : (compEnvC scope ((x, D + 1 + 1) :: cl) (D + 1) env).cells.lookup x = some (D + 1 + 1) := by
    show List.lookup x ((x, D + 1 + 1) :: cl) = _
    simp
  have loop : ∀ s₃ : Shared, s₃ = { s₂ with heap := H4 } →
      codeAny (model prog w) A (.compLoop (.ListComp (.Name x xp) [⟨.Name x px, iter, [ct], 0⟩] scope pos) 0 (.ref I) (.ref D) (compEnvC scope ((x, D + 1 + 1) :: cl) (D + 1) env)) (RR (.ref D) (D + 1)) s₃ := by
    rintro s₃ rfl
    refine codeAny_compLoop_tests
      (fun k s' => ∃ h' tk i ys m' oX vv, s' = { s₂ with heap := h', toks := tk } ∧ i ≤ n ∧ k = n + 1 - i ∧ ys.length ≤ i ∧ IsRangeIter h' I (a + (i : Nat) * 1) ((n : Int) - (i : Nat)) 1 ∧ Fr h₀ L h' m ∧ h'.Ns (D + 1) m' ∧ oX.data = .cell vv ∧ News h₀ L h' ((D + 1 + 1, oX) :: (D, lst ys) :: news) ∧ IntsAre ys (((rangeKs a n).take i).filter G)) ?_ (n + 1)
      ⟨H4, _, 0, [], _, { cls := .type "cell", data := .cell none }, none, rfl, Nat.zero_le _, rfl, Nat.le_refl _, hst₁, F.keeps old, gC, rfl, ?_, .nil⟩
    · rintro k s' ⟨h', tk, i, ys, m', oX, vv, rfl, hi, rfl, hyl, hst', F', hn', hd', N', hy'⟩
      by_cases hlt' : i < n
      · refine W.item i _ _ _ hlt' hst' fun v h₂ tk₂ hPv hst₂ hk₂ => ?_
        obtain ⟨t, rfl⟩ := hPv
        have zX := N' (D + 1 + 1, oX) (.head _)
        have eX : h₂.get? (D + 1 + 1) = some oX := hk₂ _ _ (by simp only [List.mem_singleton]; exact hXI) zX.1
        refine wpAny_assign_Name (wpAny_storeName_cell hk' hx' hlk ⟨oX, eX, hd'⟩ (fun h₃ hv₃ hs₃ => ?_))
        obtain ⟨oX₃, eX₃, hdX₃⟩ := hv₃
        refine wpAny_tests_one ?_
        have F₃ : Fr h₀ L h₃ m := (fr_but F' hk₂ hIL hI₀).change hs₃ hXL (fresh₀ _ (by omega))
        have eI₂ : h₂.get? I = some (itR (a + ((i + 1 : Nat) : Int) * 1) ((n : Int) - ((i + 1 : Nat) : Int))) := hst₂
        have eI : h₃.get? I = some _ := (hs₃.2 I (Ne.symm hXI)).trans eI₂
        have hn₂ : h₂.Ns (D + 1) m' := hn'.at' fun o e => hk₂ _ o (by simp only [List.mem_singleton]; exact hCI) e
        obtain ⟨oC, eC, hoC⟩ := ns_obj (hn₂.sameBut hs₃ (Ne.symm hCX))
        have eD : h₃.get? D = some (lst ys) := (hs₃.2 D hDX).trans (hk₂ _ _ (by simp only [List.mem_singleton]; exact hDI) (N' _ (.tail _ (.head _))).1)
        have N₃ : News h₀ L h₃ ((D + 1 + 1, oX₃) :: (I, itR (a + ((i + 1 : Nat) : Int) * 1) ((n : Int) - ((i + 1 : Nat) : Int))) :: (D + 1, oC) :: (D, lst ys) :: news) := by
          intro p hp
          rcases List.mem_cons.mp hp with rfl | hp
          · exact ⟨eX₃, hXL, fresh₀ _ (by omega)⟩
          rcases List.mem_cons.mp hp with rfl | hp
          · exact ⟨eI, Ne.symm hIL, hI₀⟩
          rcases List.mem_cons.mp hp with rfl | hp
          · exact ⟨eC, hCL, fresh₀ _ (by omega)⟩
          rcases List.mem_cons.mp hp with rfl | hp
          · exact ⟨eD, hDL, fresh₀ _ (by omega)⟩
          · have z := N' p (.tail _ (.tail _ hp))
            have h1 := hlt p hp
            exact ⟨(hs₃.2 _ (fun q => by rw [q] at h1; omega)).trans (hk₂ _ _ (by simp only [List.mem_singleton]; exact off p hp) z.1), z.2⟩
        have hk : (rangeKs a n)[i]? = some (a + (i : Int)) := by simp [rangeKs, hlt']
        have hs : ((rangeKs a n).take (i + 1)).filter G = ((rangeKs a n).take i).filter G ++ (if G (a + (i : Int)) then [a + (i : Int)] else []) := by
          rw [List.take_add_one, hk, List.filter_append]
          simp [List.filter_cons]
        refine wpAny_mono (R _ t I _ (D + 1) oC (D + 1 + 1) oX₃ D ys h₃ _ m' _ (List.mem_of_getElem? hk) hoC hdX₃ F₃ N₃ off3 off1 ⟨Ne.symm hCI, Ne.symm hDI, hCD⟩) (fun ok s₄ h₄ => ?_) fun _ _ e => e
        obtain ⟨rfl, h₅, tk₅, rfl, F₅, N₅⟩ := h₄
        have zI := (N₅ _ (.tail _ (.head _))).1
        have zX₅ := (N₅ _ (.head _)).1
        have zC := (N₅ _ (.tail _ (.tail _ (.head _)))).1
        have zD := (N₅ _ (.tail _ (.tail _ (.tail _ (.head _))))).1
        cases hG : G (a + (i : Int)) with
        | true =>
          simp only [if_true]
          refine wpAny_Name (wpAny_loadName_cell hk' hx' hlk ⟨oX₃, zX₅, hdX₃⟩ ?_) hdbg
          refine append_at (hsz := by show ys.toArray.size ≤ sizeLine; rw [List.size_toArray]; exact Nat.le_trans (Nat.le_trans hyl hi) hsz) zD fun h₆ hs₆ hD₆ => ?_
          refine ⟨n + 1 - (i + 1), by omega, h₆, tk₅, i + 1, ys ++ [.int (a + (i : Int)) t], _, oX₃, _, rfl, hlt', rfl, by rw [List.length_append, List.length_singleton]; exact Nat.succ_le_succ hyl, ?_, F₅.change hs₆ hDL (fresh₀ _ (by omega)), (hoC.ns zC).sameBut hs₆ (Ne.symm hCD'), hdX₃, ?_, ?_⟩
          · exact (hs₆.2 I (Ne.symm hDI)).trans zI
          · intro p hp
            rcases List.mem_cons.mp hp with rfl | hp
            · exact ⟨(hs₆.2 _ (Ne.symm hDX)).trans zX₅, hXL, fresh₀ _ (by omega)⟩
            rcases List.mem_cons.mp hp with rfl | hp
            · exact ⟨hD₆.trans (congrArg some (lst_snoc ys _)), hDL, fresh₀ _ (by omega)⟩
            · have z := N₅ p (.tail _ (.tail _ (.tail _ (.tail _ hp))))
              have h1 := hlt p hp
              exact ⟨(hs₆.2 _ (fun q => by rw [q] at h1; omega)).trans z.1, z.2⟩
          · rw [hs, hG]
            exact IntsAre.append hy' (.cons _ _ .nil)
        | false =>
          simp only [Bool.false_eq_true, if_false]
          refine ⟨n + 1 - (i + 1), by omega, h₅, tk₅, i + 1, ys, _, oX₃, _, rfl, hlt', rfl, Nat.le_succ_of_le hyl, zI, F₅, hoC.ns zC, hdX₃, ?_, ?_⟩
          · intro p hp
            rcases List.mem_cons.mp hp with rfl | hp
            · exact N₅ _ (.head _)
            rcases List.mem_cons.mp hp with rfl | hp
            · exact N₅ _ (.tail _ (.tail _ (.tail _ (.head _))))
            · exact N₅ p (.tail _ (.tail _ (.tail _ (.tail _ hp))))
          · rw [hs, hG]
            simpa using hy'
      · obtain rfl : i = n := Nat.le_antisymm hi (Nat.not_lt.mp hlt')
        refine W.done _ _ _ hst' fun h₂ tk₂ hk₂ => ?_
        have e : (rangeKs a i).take i = rangeKs a i := List.take_of_length_le (by rw [rangeKs_length]; exact Nat.le_refl _)
        rw [e] at hy'
        refine hRR _ _ h₂ tk₂ _ ys (fr_but F' hk₂ hIL hI₀) ?_ (off1_of fun p hp q => by have h1 := hlt p hp; rw [q] at h1; omega) (hn'.at' fun o e => hk₂ _ o (by simp only [List.mem_singleton]; exact hCI) e) (fresh₀ _ (by omega)) (fresh₀ _ (by omega)) hCL hDL hCD (fun p hp q => by have h1 := hlt p hp; rw [q] at h1; omega) hy'
        exact news_but (fun p hp => N' p (.tail _ hp)) hk₂ fun p hp => by
          rcases List.mem_cons.mp hp with rfl | hp
          · exact hDI
          · exact off p hp
    · intro p hp
      rcases List.mem_cons.mp hp with rfl | hp
      · exact ⟨gX, hXL, fresh₀ _ (by omega)⟩
      rcases List.mem_cons.mp hp with rfl | hp
      · exact ⟨gD, hDL, fresh₀ _ (Nat.le_refl _)⟩
      · exact ⟨old _ _ (N p hp).1, (N p hp).2⟩
  exact codeAny_compStart_list (loop _ rfl) (W.self 0 _ _ _ hst₁ (loop _ rfl))
def SrcK (prog : Program) (w : World) (A : Around) (h₀ : Heap) (L : Addr) (m : Str → Option Value) (env : Env) (ct : PySem.Expr) (x y : Str) (scope : Scope) (cl : List (Str × Addr)) (Q : Flow → Shared → Prop) (xv : Value) (s₁ : Shared) : Prop :=
  ∃ r a b t u v n news G, xv = .ref r ∧ A.handled = none ∧ Fr h₀ L s₁.heap m ∧ News h₀ L s₁.heap news ∧ IsRange s₁.heap r a b 1 t u v ∧ Builtin.Range.small a b 1 = true ∧ Builtin.Range.rangeSize a b 1 = ((n : Nat) : Int) ∧ n ≤ sizeLine ∧
    TurnsK prog w A h₀ L m env ct x scope cl s₁ a n news G ∧ ∀ ys D h tk, IntsAre ys ((rangeKs a n).filter G) → Fr h₀ L h (fun z => if z = y then some (.ref D) else m z) → News h₀ L h ((D, lst ys) :: news) → Off1 D news → Q .next { s₁ with heap := h, toks := tk }
theorem SrcK.range {ct : PySem.Expr} {x y : Str} {scope : Scope} {cl : List (Str × Addr)} {Q : Flow → Shared → Prop} {r : Addr} {a b : Int} {t u v : Tok} {n : Nat} {news : List (Addr × Obj)} {s₁ : Shared} (G : Int → Bool)
    (hh : A.handled = none) (F : Fr h₀ L s₁.heap m) (N : News h₀ L s₁.heap news) (hr : IsRange s₁.heap r a b 1 t u v) (hsm : Builtin.Range.small a b 1 = true) (hn : Builtin.Range.rangeSize a b 1 = ((n : Nat) : Int)) (hsz : n ≤ sizeLine)
    (turn : ∀ k t I oI C oC X oX D ys h tk m₂ (E' : Value → Shared → Prop), k ∈ rangeKs a n → NsObj oC m₂ → oX.data = .cell (some (.int k t)) → Fr h₀ L h m → News h₀ L h ((X, oX) :: (I, oI) :: (C, oC) :: (D, lst ys) :: news) → Off3 I C D ((X, oX) :: news) → Off1 X news → ((@Ne Nat I C) ∧ (@Ne Nat I D) ∧ (@Ne Nat C D)) →
      wpAny (model prog w) A (isTrue ct (compEnvC scope ((x, X) :: cl) C env) (eval ct (compEnvC scope ((x, X) :: cl) C env))) (TestEnd h₀ L m ((X, oX) :: (I, oI) :: (C, oC) :: (D, lst ys) :: news) { s₁ with heap := h, toks := tk } (G k)) E' { s₁ with heap := h, toks := tk })
    (fin : ∀ ys D h tk, IntsAre ys ((rangeKs a n).filter G) → Fr h₀ L h (fun z => if z = y then some (.ref D) else m z) → News h₀ L h ((D, lst ys) :: news) → Off1 D news → Q .next { s₁ with heap := h, toks := tk }) :
    SrcK prog w A h₀ L m env ct x y scope cl Q (.ref r) s₁ := ⟨r, a, b, t, u, v, n, news, G, rfl, hh, F, N, hr, hsm, hn, hsz, turn, fin⟩
theorem Assign_ListComp_K {ct iter : PySem.Expr} {x y : Str} {px xp py : Pos} {scope : Scope} {cl : List (Str × Addr)} {pos spos : Pos} {Q : Flow → Shared → Prop} (F₀ : Fr h₀ L s.heap m) (hLe : env.locals = L)
    (hsw : swapsWith (.ListComp (.Name x xp) [⟨.Name x px, iter, [ct], 0⟩] scope pos) (some (.Name y py)) spos.line env = pure true)
    (hclos : closureFor scope env = pure cl) (hkind : scope.kind = .function)
    (hnames : ∀ z ∈ scope.names, z.2 = .local → scope.names.lookup z.1 = some .local) (hx : (relabel scope env).names.lookup x = some .cell) (hc : ∀ n, cellsFrom n scope.names cl = (x, n) :: cl) (hpu : ∀ h, pushCells h scope.names = h.push { cls := .type "cell", data := .cell none }) (hdbg : (x == ("__debug__" : Str)) = false)
    (hy : env.kindOf y = some .local) (hp : (env.scope.kind == .class || (env.scope.kind == .module && env.locals != env.globals)) = false)
    (h : wpAny (model prog w) A (eval iter env) (SrcK prog w A h₀ L m env ct x y scope cl Q) E s)
    (hs : ∀ x, foldedSetIterable iter env x = pure x := by intro _; rfl) :
    wpAny (model prog w) A (exec (.Assign [.Name y py] (.ListComp (.Name x xp) [⟨.Name x px, iter, [ct], 0⟩] scope pos) spos) env) Q E s := by
  subst hLe
  rw [exec_Assign_Name_used _ _ _ _ hsw]
  refine wpAny_bind (wpAny_standAt (wpAny_bind ?_))
  show wpAny _ A (do let _ ← comprehension (.ListComp (.Name x xp) [⟨.Name x px, iter, [ct], 0⟩] scope pos) scope env _ (newList []) false (eval iter env) (some (assign (.Name y py) env))) _ _ s
  refine wpAny_bind (wpAny_mono (wpAny_comprehension_free (use := some (assign (.Name y py) env)) (Q := fun _ s' => Q .next s') rfl hs hclos hkind hnames
    (wpAny_mono h (fun xv s₁ h₁ => ?_) fun _ _ e => e)) (fun _ s' hq => wpAny_pure (wpAny_pure hq)) fun _ _ e => e)
  obtain ⟨r, a, b, t, u, v, n, news, G, rfl, hh, F, N, hr, hsm, hn, hsz, R, fin⟩ := h₁
  refine wpAny_pyIter_range hr hsm ?_
  refine block_K hh hsz hkind hx hc hpu hdbg (by show IsRangeIter _ _ _ _ _; rw [hn]; simpa using Heap.get?_push_size _ rfl)
    (F.keeps fun _ _ e => Heap.get?_push_of_some _ e) (N.grown fun _ _ e => Heap.get?_push_of_some _ e) (Nat.ne_of_lt F.ns.lt) (next_is_new F) (fun p hp => Nat.ne_of_lt (Heap.lt_size (N p hp).1)) (fun k t I oI C oC X oX D ys h tk m₂ E' => R k t I oI C oC X oX D ys h tk m₂ E') ?_
  intro D C h' tk m' ys F' N' o1 hn hC₀ hD₀ hCL hDL hCD offC hys
  show wpAny _ A (assign (.Name y py) env (.ref D)) _ _ _
  refine wpAny_assign_Name (wpAny_storeName_local hy F'.ns (fun h₂ hn₂ hs₂ => ?_) hp)
  have hL₀ : h₀.get? env.locals = none := Heap.get?_none_of_le F'.above
  have F₂ : Fr h₀ env.locals h₂ (fun z => if z = y then some (.ref D) else m z) := ⟨hn₂, fun b o e => hs₂.extBut b o (fun q => by rw [q, hL₀] at e; cases e) (F'.keep b o e), F'.above⟩
  refine ⟨m', hn.sameBut hs₂ hCL, fun h'' hs'' => fin ys D h'' _ hys (F₂.change hs'' hCL hC₀) (fun p hp => ?_) o1⟩
  have z : h₂.get? p.1 = some p.2 := hs₂.extBut _ _ (N' p hp).2.1 (N' p hp).1
  refine ⟨hs''.extBut _ _ ?_ z, (N' p hp).2⟩
  rcases List.mem_cons.mp hp with rfl | hp
  · exact Ne.symm hCD
  · exact offC p hp
end
end Mine
end

-- part Le
section
open PySem PySem.W PySem.Calls PyProof.Rows PySem.Builtin PySem.Builtin.Str
set_option Elab.async false
set_option maxRecDepth 100000
namespace Mine
section
variable {prog : Program} {w0 : World} {A : Around} {E : Value → Shared → Prop} {s : Shared} {env : Env} {h₀ : Heap} {x : Str} {body : List Stmt} {Q : Flow → Shared → Prop}
/-- a loop over a list of ints in the ledger that keeps four ints in another list, and no name but its own -/
theorem iter_lI1 {l T : Addr} {nl nn : Nat} {vl vs₀ : List Value} {ks c₀ : List Int} {m₀ : Str → Option Value} (pre : List (Addr × Obj)) {post : List (Addr × Obj)} (g : List Int → Int → List Int)
    (hg : ∀ a k, a.length = 4 → (g a k).length = 4) (hi : IntsAre vs₀ c₀) (hc : c₀.length = 4) (hpost : ∀ p ∈ post, p.1 ≠ T) (hks : IntsAre vl ks) (hl : (l, listOf vl.toArray nl) ∈ pre ++ post)
    (hh : A.handled = none) (F : Fr h₀ env.locals s.heap m₀) (N : News h₀ env.locals s.heap (pre ++ (T, listOf vs₀.toArray nn) :: post))
    (turn : ∀ k t a vs h tk own, k ∈ ks → a.length = 4 → IntsAre vs a → (∀ p ∈ post ++ own, p.1 ≠ T) → Fr h₀ env.locals h (fun y => if y = x then some (.int k t) else m₀ y) → News h₀ env.locals h ((pre ++ (T, listOf vs.toArray nn) :: post) ++ own) →
      wpAny (model prog w0) A (execs body env) (TurnL h₀ env.locals (fun vs' => (pre ++ (T, listOf vs'.toArray nn) :: post) ++ own) (g a k) (fun m' => ∀ z, z ≠ x → m' z = m₀ z) { s with heap := h, toks := tk } Q) E { s with heap := h, toks := tk })
    (done : ∀ u vs h tk, (ks.foldl g c₀).length = 4 → IntsAre vs (ks.foldl g c₀) → Fr h₀ env.locals h (fun y => if y = x then u else m₀ y) → News h₀ env.locals h (pre ++ (T, listOf vs.toArray nn) :: post) → Q .next { s with heap := h, toks := tk }) :
    wpAny (model prog w0) A (pyIter (.ref l)) (fun it s₂ => LoopAtV prog w0 A h₀ env x body Q E it s₂) E s := by
  have same : ∀ {m' : Str → Option Value} (v : Option Value), (∀ z, z ≠ x → m' z = m₀ z) → (fun z => if z = x then v else m' z) = fun z => if z = x then v else m₀ z := by
    intro m' v h2
    funext z
    by_cases hx : z = x
    · simp [hx]
    · simp [hx, h2 z hx]
  have up : ∀ vs : List Value, (l, listOf vl.toArray nl) ∈ pre ++ (T, listOf vs.toArray nn) :: post := fun vs => by
    rcases List.mem_append.mp hl with h | h
    · exact List.mem_append_left _ h
    · exact List.mem_append_right _ (List.mem_cons_of_mem _ h)
  have key : ∀ (i : Nat) (m : Str → Option Value) (nx : List (Addr × Obj)), LR (fun m' => ∀ z, z ≠ x → m' z = m₀ z) T nn pre post ((ks.take i).foldl g c₀) m nx → (l, listOf vl.toArray nl) ∈ nx := by
    rintro i m nx ⟨_, _, vs, _, rfl⟩; exact up vs
  refine iter_invNL (fun i m nx => LR (fun m' => ∀ z, z ≠ x → m' z = m₀ z) T nn pre post ((ks.take i).foldl g c₀) m nx) hh (up _) hks F N ⟨hc, fun _ _ => rfl, vs₀, hi, rfl⟩ ?_ ?_
  · rintro i k t m₁ nx h tk own hk _ ho _ ⟨hl', hm, vs, hi', rfl⟩ F₁ N₁
    rw [same _ hm] at F₁
    have hs : (ks.take (i + 1)).foldl g c₀ = g ((ks.take i).foldl g c₀) k := by
      rw [List.take_add_one, hk]; simp
    have ho' : OwnOff own ((pre ++ (T, listOf vs.toArray nn) :: post).map (·.1)) := by simpa using ho
    refine wpAny_mono (turn k t _ vs h tk own (List.mem_of_getElem? hk) hl' hi' (own_ne ho' hpost) F₁ N₁) (fun f s₂ p => ?_) fun _ _ e => e
    have q := post_of (adr := (pre ++ (T, listOf vs₀.toArray nn) :: post).map (·.1)) (hg _ k hl') (by simp) p
    rw [← hs] at q
    have fin : InvEndN h₀ env.locals (LR (fun m' => ∀ z, z ≠ x → m' z = m₀ z) T nn pre post ((ks.take (i + 1)).foldl g c₀)) own ((pre ++ (T, listOf vs₀.toArray nn) :: post).map (·.1)) { s with heap := h, toks := tk } s₂ →
        InvEndN h₀ env.locals (fun m' nx => (l, listOf vl.toArray nl) ∈ nx ∧ LR (fun m' => ∀ z, z ≠ x → m' z = m₀ z) T nn pre post ((ks.take (i + 1)).foldl g c₀) m' nx) own ((pre ++ (T, listOf vs₀.toArray nn) :: post).map (·.1)) { s with heap := h, toks := tk } s₂ := by
      rintro ⟨h', tk', m', news', nx, e, F', N', a1, a2, a3, r⟩
      exact ⟨h', tk', m', news', nx, e, F', N', a1, a2, a3, key _ _ _ r, r⟩
    cases f with
    | ret v => exact q
    | brk => exact q
    | next => exact fin q
    | cont => exact fin q
  · rintro m₁ nx h tk _ ⟨hl', hm, vs, hi', rfl⟩ F₁ N₁
    have e : m₁ = fun z => if z = x then m₁ x else m₀ z := by
      rw [← same (m₁ x) hm]
      funext z
      by_cases hx : z = x
      · simp [hx]
      · simp [hx]
    rw [e] at F₁
    rw [List.take_length] at hl' hi'
    exact done (m₁ x) vs h tk hl' hi' F₁ N₁
end
end Mine
namespace Mine
theorem ne_nil {prog : Program} {w : World} {A : Around} {E : Value → Shared → Prop} {s : Shared} {h₀ : Heap} {L D T : Addr} {news : List (Addr × Obj)} {ys : List Value} {ns : List Int} {Q : Value → Shared → Prop} (hi : IntsAre ys ns) (N : News h₀ L s.heap news) (h1 : (D, LCg.lst ys) ∈ news) (h2 : (T, LCg.lst []) ∈ news) (hu : A.units + 64 < cLine)
    (h : Q (.bool (decide (ns ≠ []))) s) : wpAny (model prog w) A (compareOp .NotEq (.ref D) (.ref T)) Q E s :=
  ke_ne_ints (ys := []) ⟨_, (N _ h1).1, rfl, _, rfl⟩ ⟨_, (N _ h2).1, rfl, _, rfl⟩ hi .nil hu (by simpa using h)
end Mine
namespace Mine
theorem mem_tog {ch : List Int} {k : Int} (h : k ∈ togF ch) : 0 ≤ k ∧ k < 4 := mem_rangeKs (n := 4) (List.mem_filter.mp h).1
theorem tog_len {ch : List Int} : (togF ch).length ≤ 4 := Nat.le_trans (List.length_filter_le ..) (Nat.le_of_eq (rangeKs_length 0 4))
theorem tog_ne {ch : List Int} {k : Int} (h : k ∈ togF ch) : ((togF ch).length : Int) ≠ 0 := by have := List.length_pos_of_mem h; omega
theorem fd_tog {prog : Program} {w : World} {A : Around} {E : Value → Shared → Prop} {s : Shared} {ch : List Int} {k a : Int} {t u : Tok} {Q : Value → Shared → Prop} (hk : k ∈ togF ch)
    (h : ∀ t, Q (.int (a.fdiv ((togF ch).length : Int)) t) { s with toks := s.toks + 1 }) : wpAny (model prog w) A (binaryOp .FloorDiv (.int a t) (.int ((togF ch).length : Int) u)) Q E s :=
  floordiv_int (tog_ne hk) (h _) (Or.inl (PyProof.noPylong_small (by have := @tog_len ch; omega)))
theorem due_odd {ch tg a : List Int} {k : Int} (h : ((ch.length : Int).fmod 2 == 1) = true) : dueK (partF ch tg) a k = a.set k.toNat (a.getD k.toNat 0 + (24 : Int).fdiv tg.length) := by simp only [dueK, partF, if_pos (eq_of_beq h)]
theorem due_even {ch tg a : List Int} {k : Int} (h : ((ch.length : Int).fmod 2 == 1) = false) : dueK (partF ch tg) a k = a.set k.toNat (a.getD k.toNat 0 + (-24 : Int).fdiv tg.length) := by simp only [dueK, partF, if_neg (ne_of_beq_false h)]
theorem post_ne {C2 P T : Addr} {oD o3 : Obj} {news : List (Addr × Obj)} (h : ∀ p ∈ (P, o3) :: news, p.1 ≠ T) (e : T ≠ C2) : ∀ p ∈ (C2, oD) :: (P, o3) :: news, p.1 ≠ T := by
  intro p hp
  rcases List.mem_cons.mp hp with rfl | hp
  · exact Ne.symm e
  · exact h p hp
end Mine
end

-- part Lf
section
open PySem PySem.W PySem.Calls PyProof.Rows PySem.Builtin PySem.Builtin.Str
set_option Elab.async false
set_option maxRecDepth 100000
namespace Mine
section
variable {prog : Program} {w : World} {A : Around} {E : Value → Shared → Prop} {s : Shared} {h₀ : Heap} {L : Addr} {m : Str → Option Value} {news : List (Addr × Obj)}
theorem pick_menu (x y : Tok) (c : Nat) : IntsAre (slicePick [Value.int 2 x, Value.int 20 y].toArray (some (c : Int)) none none).toList (List.drop c [2, 20]) :=
  kmk_from (x := (c : Int)) (.cons _ _ (.cons _ _ .nil)) (Int.natCast_nonneg c)
theorem slice_menu {l : Addr} {nn c : Nat} {x y t : Tok} {value slice : PySem.Expr} {Q : Value → Shared → Prop} (F : Fr h₀ L s.heap m) (N : News h₀ L s.heap news) (hl : (l, W.listOf #[.int 2 x, .int 20 y] nn) ∈ news)
    (h : ∀ D ws h', Fr h₀ L h' m → News h₀ L h' ((D, listOf (List.toArray ws) 0) :: news) → (∀ p ∈ news, p.1 < D) → IntsAre ws (List.drop c [2, 20]) → Q (.ref D) { s with heap := h' })
    (hs : subscripted slice false (.ref l) (.ref s.heap.objs.size) = operate [.ref s.heap.objs.size, .ref l] (getItem (.ref l) (.ref s.heap.objs.size))) :
    wpAny (model prog w) A (subscriptTail value slice (.ref l) (.ref s.heap.objs.size)) Q E { s with heap := s.heap.push { cls := .type "slice", data := .fields #[.int (c : Int) t, .none, .none] } } :=
  kba_turn (value' := PySem.Expr.Name (PySem.Str.ofString "_") ⟨0, 0, 0, 0⟩) (fun _ => rfl) <| kmk_slice_ints (ns := [2, 20]) (vs := [.int 2 x, .int 20 y]) F N ⟨_, (N _ hl).1, rfl, nn, rfl⟩ (.int _ _) .none (.cons _ _ (.cons _ _ .nil)) (pick_menu x y c) rfl (fun D ws h' F' N' l1 hI _ _ => h D ws h' F' N' l1 hI) hs (fun _ => rfl) (Nat.le_of_ble_eq_true rfl)
end
end Mine
namespace Mine
/-- the law's numbers, sign, patterns, tables -/
def numsF (w : List Int) : List Int := (w.take 4).map (fun k => k.fmod 1000000) ++ List.drop ((w.take 4).map fun k => k.fmod 1000000).length [2, 20]
theorem nums_len (w : List Int) : 2 ≤ (numsF w).length ∧ (numsF w).length ≤ 4 := by
  simp only [numsF, List.length_append, List.length_map, List.length_take, List.length_drop, List.length_cons, List.length_nil]; omega
theorem nums_ok {w : List Int} {x : Int} (h : x ∈ numsF w) : 0 ≤ x ∧ x < 1000000 := by
  rcases List.mem_append.mp h with h | h
  · obtain ⟨k, _, rfl⟩ := List.mem_map.mp h
    exact ⟨Int.fmod_nonneg_of_pos _ (by decide), Int.fmod_lt_of_pos _ (by decide)⟩
  · have h2 := List.mem_of_mem_drop h
    simp only [List.mem_cons, List.not_mem_nil, or_false] at h2
    omega
def signF (total : Int) : Str := Txt.item (Str.ofString "a*[\\") ((total.fdiv 2).fmod 4)
def patF (total : Int) (x : Int) : Str := sendF (mailF x (signF total) (1 + total.fmod 2) 4) (1 + total.fmod 2).toNat
def carF (total : Int) (ns : List Int) (g : Nat) : Bool := (ns.map (patF total)).any (emF · (lstF (g : Int) (signF total)))
def namF (ns : List Int) : List Int := ns.map fun x => 1 + x.fmod 15
theorem nam_len (w : List Int) : 2 ≤ ((numsF w).map fun x => 1 + x.fmod 15).length ∧ ((numsF w).map fun x => 1 + x.fmod 15).length ≤ 4 := by rw [List.length_map]; exact nums_len w
theorem four_cases {i : Int} (h0 : 0 ≤ i) (h4 : i < 4) : i = 0 ∨ i = 1 ∨ i = 2 ∨ i = 3 := by omega
theorem sign_cases (total : Int) : signF total = Str.ofString "a" ∨ signF total = Str.ofString "*" ∨ signF total = Str.ofString "[" ∨ signF total = Str.ofString "\\" := by
  unfold signF
  rcases four_cases (Int.fmod_nonneg_of_pos (total.fdiv 2) (by decide : (0 : Int) < 4)) (Int.fmod_lt_of_pos (total.fdiv 2) (by decide : (0 : Int) < 4)) with h | h | h | h <;> rw [h] <;> decide
theorem sign_len (total : Int) : (signF total).length = 1 := by rcases sign_cases total with h | h | h | h <;> rw [h] <;> rfl
theorem lst_len {g : Int} {sign : Str} (hs : sign.length = 1) : (lstF g sign).length ≤ 100 := by
  unfold lstF Txt.join
  rw [PySem.size_glued]
  have h0 := cell_len (g := g) (i := 0) hs
  have h1 := cell_len (g := g) (i := 1) hs
  have h2 := cell_len (g := g) (i := 2) hs
  have h3 := cell_len (g := g) (i := 3) hs
  have h4 : (Str.ofString "\r\n").length = 2 := by decide
  simp only [List.map_cons, List.map_nil, List.sum_cons, List.sum_nil, List.length_cons, List.length_nil]
  omega
section
variable {prog : Program} {w : World} {A : Around} {h₀ : Heap} {L : Addr} {m : Str → Option Value} {env : Env} {elt : PySem.Expr} {x : Str} {scope : Scope} {cl : List (Str × Addr)} {s : Shared} {S : List (Addr × Obj) → Prop} {Fin : List Value → List (Addr × Obj) → Prop} {news : List (Addr × Obj)}
theorem comp_pats {vs : List Value} {ns : List Int} (p : Int → Str) (hi : IntsAre vs ns)
    (turn : ∀ (i : Nat) k t I oI C oC D m₂ ys h tk (E' : Value → Shared → Prop), k ∈ ns → LCg.NsObj oC m₂ → m₂ x = some (.int k t) → Fr h₀ L h m → News h₀ L h ((I, oI) :: (C, oC) :: (D, LCg.lst ys) :: news) → LCg.Off3 I C D news → ((@Ne Nat I C) ∧ (@Ne Nat I D) ∧ (@Ne Nat C D)) →
      wpAny (model prog w) A (eval elt (compEnvC scope cl C env)) (LCg.CompEnd h₀ L m { s with heap := h, toks := tk } I oI C oC D (LCg.lst ys) S (fun y news' => El news (fun y => ∃ t, y = .str (p k) t) y news')) E' { s with heap := h, toks := tk })
    (fin : ∀ ys, TextsAre ys (ns.map p) → Fin ys news) : LCg.CompRest prog w A h₀ L m env elt x scope cl s S (fun i v => vs.toArray[i]? = some v) Fin vs.toArray.size 0 [] news :=
  comp_rest (fun i y => ∃ k t, ns[i]? = some k ∧ y = .str (p k) t) (fun i v I oI C oC D m₂ ys h tk E' _ hv hC hx F N off ne => by
    obtain ⟨k, t, e, hk⟩ := IntsAre.at hi i v (by simpa using hv)
    subst e
    refine wpAny_mono (turn i k t I oI C oC D m₂ ys h tk E' (List.mem_of_getElem? hk) hC hx F N off ne) (fun y s₂ hq => ?_) fun _ _ e => e
    obtain ⟨h', tk', nw, e, F', N', off', hS, hn, t', hy⟩ := hq
    exact ⟨h', tk', nw, e, F', N', off', hS, hn, k, t', hk, hy⟩)
    (fun ys hl hy => fin ys (by
      unfold TextsAre
      apply List.ext_getElem?
      intro i
      simp only [List.getElem?_map, Option.map_map]
      cases h : ys[i]? with
      | none =>
        have h1 : ys.length ≤ i := List.getElem?_eq_none_iff.mp h
        have h2 : ns[i]? = none := List.getElem?_eq_none_iff.mpr (by rw [← hi.length, ← List.size_toArray, ← hl]; exact h1)
        rw [h2]; rfl
      | some y =>
        obtain ⟨k, t, hk, rfl⟩ := hy i y h
        rw [hk]; rfl))
theorem comp_boolsN {n : Nat} (c : Nat → Bool)
    (turn : ∀ (i : Nat) t I oI C oC D m₂ ys h tk (E' : Value → Shared → Prop), i < n → LCg.NsObj oC m₂ → m₂ x = some (.int (0 + (i : Int)) t) → Fr h₀ L h m → News h₀ L h ((I, oI) :: (C, oC) :: (D, LCg.lst ys) :: news) → LCg.Off3 I C D news → ((@Ne Nat I C) ∧ (@Ne Nat I D) ∧ (@Ne Nat C D)) →
      wpAny (model prog w) A (eval elt (compEnvC scope cl C env)) (LCg.CompEnd h₀ L m { s with heap := h, toks := tk } I oI C oC D (LCg.lst ys) S (fun y news' => El news (fun y => y = .bool (c i)) y news')) E' { s with heap := h, toks := tk })
    (fin : ∀ ys, (ys.length = n ∧ ∀ i, i < n → ys[i]? = some (.bool (c i))) → Fin ys news) : LCg.CompRest prog w A h₀ L m env elt x scope cl s S (fun i v => ∃ t, v = .int (0 + (i : Int)) t) Fin n 0 [] news :=
  comp_range (fun i y => y = .bool (c i)) turn (fun ys hl hR => fin ys ⟨hl, fun i hi => by
    have h1 : i < ys.length := by omega
    have h2 := hR i ys[i] (List.getElem?_eq_getElem h1)
    rw [List.getElem?_eq_getElem h1, h2]⟩)
theorem nums_size {vs : List Value} {w : List Int} (hi : IntsAre vs (numsF w)) : vs.toArray.size ≤ sizeLine := by
  rw [List.size_toArray, hi.length]; exact range_size (nums_len w)
theorem comp_patsL {vs : List Value} {w0 : List Int} (hi : IntsAre vs (numsF w0))
    (turn : ∀ (i : Nat) k t I oI C oC D m₂ ys h tk (E' : Value → Shared → Prop), k ∈ numsF w0 → LCg.NsObj oC m₂ → m₂ x = some (.int k t) → Fr h₀ L h m → News h₀ L h ((I, oI) :: (C, oC) :: (D, LCg.lst ys) :: news) → LCg.Off3 I C D news → ((@Ne Nat I C) ∧ (@Ne Nat I D) ∧ (@Ne Nat C D)) →
      wpAny (model prog w) A (eval elt (compEnvC scope cl C env)) (LCg.CompEnd h₀ L m { s with heap := h, toks := tk } I oI C oC D (LCg.lst ys) S (fun y news' => El news (fun y => ∃ t, y = .str (patF (numsF w0).sum k) t) y news')) E' { s with heap := h, toks := tk })
    (fin : ∀ ys, TextsAre ys ((numsF w0).map (patF (numsF w0).sum)) → Fin ys news) : LCg.CompRest prog w A h₀ L m env elt x scope cl s S (fun i v => vs.toArray[i]? = some v) Fin vs.toArray.size 0 [] news := comp_pats _ hi turn fin
theorem comp_carL {vp : List Value} {w0 : List Int} (_hP : TextsAre vp ((numsF w0).map (patF (numsF w0).sum)))
    (turn : ∀ (i : Nat) t I oI C oC D m₂ ys h tk (E' : Value → Shared → Prop), i < 16 → LCg.NsObj oC m₂ → m₂ x = some (.int (0 + (i : Int)) t) → Fr h₀ L h m → News h₀ L h ((I, oI) :: (C, oC) :: (D, LCg.lst ys) :: news) → LCg.Off3 I C D news → ((@Ne Nat I C) ∧ (@Ne Nat I D) ∧ (@Ne Nat C D)) →
      wpAny (model prog w) A (eval elt (compEnvC scope cl C env)) (LCg.CompEnd h₀ L m { s with heap := h, toks := tk } I oI C oC D (LCg.lst ys) S (fun y news' => El news (fun y => y = .bool (carF (numsF w0).sum (numsF w0) i)) y news')) E' { s with heap := h, toks := tk })
    (fin : ∀ ys, (ys.length = 16 ∧ ∀ i, i < 16 → ys[i]? = some (.bool (carF (numsF w0).sum (numsF w0) i))) → Fin ys news) : LCg.CompRest prog w A h₀ L m env elt x scope cl s S (fun i v => ∃ t, v = .int (0 + (i : Int)) t) Fin 16 0 [] news := comp_boolsN _ turn fin
end
end Mine
namespace Mine
section
variable {prog : Program} {w : World} {A : Around} {E : Value → Shared → Prop} {s : Shared} {h₀ : Heap} {L : Addr} {m : Str → Option Value} {news : List (Addr × Obj)}
theorem add_nums {a b : Addr} {vs us : List Value} {w0 : List Int} {Q : Value → Shared → Prop} (F : Fr h₀ L s.heap m) (N : News h₀ L s.heap news) (ha : (a, LCg.lst vs) ∈ news) (hb : (b, W.listOf us.toArray 0) ∈ news)
    (hi : IntsAre vs ((w0.take 4).map fun k => k.fmod 1000000)) (hj : IntsAre us (List.drop ((w0.take 4).map fun k => k.fmod 1000000).length [2, 20]))
    (h : ∀ D ws h', Fr h₀ L h' m → News h₀ L h' ((D, W.listOf (List.toArray ws) 0) :: news) → (∀ p ∈ news, p.1 < D) → IntsAre ws (numsF w0) → Q (.ref D) { s with heap := h' }) : wpAny (model prog w) A (binaryOp .Add (.ref a) (.ref b)) Q E s :=
  kmk_add_ints F N ⟨_, (N _ ha).1, rfl, _, rfl⟩ ⟨_, (N _ hb).1, rfl, _, rfl⟩ hi hj h (by have h1 := (nums_len w0).2; simp only [numsF, List.length_append] at h1; exact Nat.le_trans h1 (Nat.le_of_ble_eq_true rfl))
theorem sign_item {total : Int} {t u : Tok} {value slice : PySem.Expr} {Q : Value → Shared → Prop} (h : Q (.str (signF total) s.toks) { s with toks := s.toks + 1 })
    (hs : subscripted slice false (.str (Str.ofString "a*[\\") t) (.int ((total.fdiv 2).fmod 4) u) = operate [.str (Str.ofString "a*[\\") t, .int ((total.fdiv 2).fmod 4) u] (getItem (.str (Str.ofString "a*[\\") t) (.int ((total.fdiv 2).fmod 4) u)) := by with_unfolding_all rfl)
    (ht : ∀ r, letTemporaryGo value (.str (Str.ofString "a*[\\") t) r = pure () := by intro _; with_unfolding_all rfl) :
    wpAny (model prog w) A (subscriptTail value slice (.str (Str.ofString "a*[\\") t) (.int ((total.fdiv 2).fmod 4) u)) Q E s :=
  KXi.item (n := 4) rfl (Int.le_trans (by decide) (Int.fmod_nonneg_of_pos _ (by decide))) (Int.fmod_lt_of_pos _ (by decide)) (by decide) (fun _ => h) hs ht
end
theorem car_eq {w : List Int} {i : Nat} : Value.bool (((numsF w).map (patF (numsF w).sum)).any (emF · (lstF (0 + (i : Int)) (signF (numsF w).sum)))) = .bool (carF (numsF w).sum (numsF w) i) := by
  rw [Int.zero_add]; rfl
end Mine
namespace Mine
section
variable {prog : Program} {w : World} {A : Around} {h₀ : Heap} {L : Addr} {m : Str → Option Value} {env : Env} {elt : PySem.Expr} {x : Str} {scope : Scope} {cl : List (Str × Addr)} {s : Shared} {S : List (Addr × Obj) → Prop} {Fin : List Value → List (Addr × Obj) → Prop} {news : List (Addr × Obj)}
theorem ints_of {f : Int → Int} : ∀ {ns : List Int} {ys : List Value}, ys.length = ns.length → (∀ (i : Nat) (y : Value), ys[i]? = some y → ∃ k t, ns[i]? = some k ∧ y = Value.int (f k) t) → IntsAre ys (ns.map f)
  | [], ys, hl, _ => by rw [List.eq_nil_of_length_eq_zero hl]; exact .nil
  | n :: r, y :: q, hl, hy => by
    obtain ⟨k, t, hk, rfl⟩ := hy 0 y rfl
    cases hk
    exact .cons _ _ (ints_of (by simpa using hl) fun i y h => hy (i + 1) y h)
theorem comp_namL {vs : List Value} {w0 : List Int} (hi : IntsAre vs (numsF w0))
    (turn : ∀ (i : Nat) k t I oI C oC D m₂ ys h tk (E' : Value → Shared → Prop), k ∈ numsF w0 → LCg.NsObj oC m₂ → m₂ x = some (.int k t) → Fr h₀ L h m → News h₀ L h ((I, oI) :: (C, oC) :: (D, LCg.lst ys) :: news) → LCg.Off3 I C D news → ((@Ne Nat I C) ∧ (@Ne Nat I D) ∧ (@Ne Nat C D)) →
      wpAny (model prog w) A (eval elt (compEnvC scope cl C env)) (LCg.CompEnd h₀ L m { s with heap := h, toks := tk } I oI C oC D (LCg.lst ys) S (fun y news' => El news (fun y => ∃ t, y = .int (1 + k.fmod 15) t) y news')) E' { s with heap := h, toks := tk })
    (fin : ∀ ys, IntsAre ys (namF (numsF w0)) → Fin ys news) : LCg.CompRest prog w A h₀ L m env elt x scope cl s S (fun i v => vs.toArray[i]? = some v) Fin vs.toArray.size 0 [] news :=
  comp_rest (fun i y => ∃ k t, (numsF w0)[i]? = some k ∧ y = .int (1 + k.fmod 15) t) (fun i v I oI C oC D m₂ ys h tk E' _ hv hC hx F N off ne => by
    obtain ⟨k, t, e, hk⟩ := IntsAre.at hi i v (by simpa using hv)
    subst e
    refine wpAny_mono (turn i k t I oI C oC D m₂ ys h tk E' (List.mem_of_getElem? hk) hC hx F N off ne) (fun y s₂ hq => ?_) fun _ _ e => e
    obtain ⟨h', tk', nw, e, F', N', off', hS, hn, t', hy⟩ := hq
    exact ⟨h', tk', nw, e, F', N', off', hS, hn, k, t', hk, hy⟩)
    (fun ys hl hy => fin ys (ints_of (by rw [hl, List.size_toArray, hi.length]) hy))
end
end Mine
end

-- part D1
section
open PySem PySem.W PySem.Calls PyProof.Rows
set_option Elab.async false
set_option maxRecDepth 100000
set_option maxHeartbeats 4000000
namespace Mine
local macro_rules | `(tactic| walk_at "CompSrcT") => `(tactic| (k_here; k_dflt (k_extra "CompSrcT")))
local macro_rules | `(tactic| walk_at "compareOp NotEq ref ref") => `(tactic| (k_here; k_dflt (k_extra "compareOp NotEq ref ref")))
local macro_rules | `(tactic| walk_at "setItem ref int") => `(tactic| (k_here; k_dflt (k_extra "setItem ref int")))
local macro_rules | `(tactic| walk_at "eval ListComp") => `(tactic| (k_here; k_dflt (k_extra "eval ListComp Name cons")))
local macro_rules | `(tactic| walk_at "binaryOp Pow int int") => `(tactic| (k_here; k_dflt (k_extra "binaryOp Pow int int")))
local macro_rules | `(tactic| walk_at "binaryOp FloorDiv int int") => `(tactic| (k_here; k_dflt (k_extra "binaryOp FloorDiv int int")))
local macro_rules | `(tactic| k_all) => `(tactic| assumption)
theorem k_le {k : Int} {n : Nat} (h : k < 0 + (n : Int)) (hn : 2 ≤ n ∧ n ≤ 4) : k ≤ 1000000 := by omega
theorem k_lt9 {k : Int} {n : Nat} (h : k < 0 + (n : Int)) (hn : 2 ≤ n ∧ n ≤ 4) : k < 9000 := by omega
theorem k_idx {k : Int} {n : Nat} (h : k < 0 + (n : Int)) : k < (n : Int) := by omega
theorem n_100 {n : Nat} (hn : 2 ≤ n ∧ n ≤ 4) : n ≤ 100 := by omega
theorem K_le {k : Int} {n : Nat} (h : k ∈ rangeKs 0 n) (hn : n ≤ 9) : k ≤ 1000000 := by have := (mem_rangeKs h).2; omega
theorem K_lt9 {k : Int} {n : Nat} (h : k ∈ rangeKs 0 n) (hn : n ≤ 9) : k < 9000 := by have := (mem_rangeKs h).2; omega
theorem two_pow_ne {n : Nat} : (2 : Int) ^ n ≠ 0 := Int.ne_of_gt (Int.pow_pos (by decide))
theorem ones_size {ys : List Value} {n : Nat} (h : ys.length ≤ n) (hn : 2 ≤ n ∧ n ≤ 4) : ys.toArray.size ≤ sizeLine := by rw [List.size_toArray]; exact Nat.le_trans h (range_size hn)
theorem uni_le {un : Nat} (h : un + 6 * 14 + 10 < cLine) : un + 3 + 64 < cLine := by omega
theorem due_ctr (w : World) (loose : List Str) (mean : ExcName → Option Value) (mg mb : Str → Option Value) (l : Addr) (vs : List Value) (nn : Nat) (ns : List Int) (hns : IntsAre vs ns) (hl : 2 ≤ ns.length ∧ ns.length ≤ 4) :
    C w loose mean mg mb 14 140 [.ref l] (fun h₀ L m news s Q => (l, lstO vs nn) ∈ news ∧ ∀ T vs' n' h' tk', IntsAre vs' (dueF ns) → Fr h₀ L h' m → News h₀ L h' ((T, listOf vs'.toArray n') :: news) → Q (.ref T) { s with heap := h', toks := tk' }) := by
  w_top off
  unfold C
  k_fill
  unfold Ctr
  try unfold RV
  intro dp un gd cn cs a' ccd cl outer A₀ base h₀ L m news s Q E hB hF hK hN hT hk hdp hu hret
  refine wpAny_call ?_
  k_dflt (refine' code_defC ?k1 ?k2 ?k3 ?k4 ?k5 ?kA ?kF ?kK ?k6 ?k7 ?k8 ?k9 ?kB ?kD ?_ ?c2 ?c3 ?c4; (case kA => exact rfl); (case kF => exact rfl); (case kK => assumption); (case k1 => k_asm); (case k2 => k_asm); (case k3 => k_asm); (case k4 => k_asm); (case k5 => k_asm); (case k6 => k_is); (case k7 => k_is); (case k8 => ktr_room); (case k9 => exact BindsTo.of_eq rfl); (case kB => exact rfl); (case kD => decide +kernel); (case c2 => exact rfl); (case c3 => exact rfl); (case c4 => exact rfl); k_whole; intro g' L' h' tk' cells' FG' F' N' Y' B' X' T' l1; (try k_lt l1); k_cells Y'; (try simp only [List.cons_append, List.nil_append] at N'); (try dsimp only); (try k_lift B'); (try k_fold))
  obtain ⟨hml, hret⟩ := hret
  have hlen : vs.length = ns.length := hns.length
  k_with_none
  k_with "exec For Name Call cons nil" => first
    | kpr_for
    | (k_here; (rename Fr _ _ _ _ => lF'); k_dflt (refine' For_cell lF' ?k1 ?k2 ?_; (case k1 => exact rfl); (case k2 => exact rfl); k_whole))
  k_with "call builtin:len" => (k_here; k_dflt (refine' len_ns (k := (chosenF ns k9).length) hL8 ?NW ?mW ?zW ?_; (case NW => k_asm); (case mW => k_mem); (case zW => exact Nat.le_trans (Nat.le_of_eq hL8.symm) (Nat.le_trans (by assumption) (Nat.le_trans hl.2 (by decide)))); k_whole; intro tL kL; (try dsimp only)))
  k_with "call builtin:len" => (k_here; k_dflt (refine' len_ns (k := (togF (chosenF ns k9)).length) hiK.length ?NW ?mW ?zW ?_; (case NW => k_asm); (case mW => k_mem); (case zW => exact Nat.le_trans tog_len (by decide)); k_whole; intro tL kL; (try dsimp only)))
  k_with "call builtin:len" => (k_here; k_dflt (refine' len_ns hlen ?NW ?mW ?zW ?_; (case NW => k_asm); (case mW => repeat (first | exact hml | exact List.mem_append_left _ hml | refine List.Mem.tail _ ?_)); (case zW => exact Nat.le_trans hl.2 (by decide)); k_whole; intro tL kL; (try dsimp only)))
  k_with "pyIter ref" => (k_here; k_dflt (first
    | ((refine' iter_rD (Str.ofString "together") (Str.ofString "k") (Str.ofString "k") (n := 2 ^ ns.length - 1) (post := ?poW) (dueC ns) dueC_len ?iW ?cW ?pW ?C2W ?d2W ?TC2W ?CC2W ?CW ?TW ?neW ?lkW ?dW ?hhW ?rW ?smW ?nW ?FW ?NW ?_ ?_);
          (case hhW => rfl); (case FW => k_asm); (case NW => k_asm); (case lkW => exact rfl); (case CW => exact .tail _ (.tail _ (.head _))); (case C2W => exact .tail _ (.head _)); (case dW => k_asm); (case d2W => k_asm); (case TW => exact List.Mem.head _); (case iW => exact .cons _ _ (.cons _ _ (.cons _ _ (.cons _ _ .nil)))); (case cW => rfl); (case rW => assumption); (case smW => exact (range_due hl).1); (case nW => exact (range_due hl).2); (case neW => k_ne); (case TC2W => k_ne); (case CC2W => k_ne); (case pW => exact news_ne3 (by assumption) (by assumption) rfl rfl rfl (fun p hp => .tail _ (.tail _ (.tail _ (.tail _ hp)))) (.tail _ (.tail _ (.tail _ (.head _)))));
          all_goals k_whole; all_goals (first | (intro I9 k9 t9 a9 vs9 h9 tk9 oC9 oI9 oD9 vD9 u19 u29 u39 hk9 hl9 hi9 hd9 hd29 hne9 hpT9 hpC9 hpI9 F9 N9) | (intro u19 u29 u39 vs9 h9 tk9 oC9 oD9 hl9 hi9 F9 N9)))
    | ((refine' iter_lI1 [_, _, _, _] (post := _ :: _ :: news) (dueK (partF (chosenF ns k9) (togF (chosenF ns k9)))) dueK_len hi9 hl9 ?pW ?ksW ?lW ?hhW ?FW ?NW ?_ ?_);
          (case NW => assumption); (case hhW => rfl); (case FW => k_asm); (case lW => exact List.mem_append_left _ (.head _)); (case ksW => exact hiK); (case pW => exact post_ne hpT9 hne9.2.2.2.1);
          all_goals k_whole; all_goals (first | (intro kI tI aI vsI hI tkI ownI hkI hlI hiI hTI FI NI; have hI0 := (mem_tog hkI).1; have hI4 : kI < 4 := (mem_tog hkI).2; simp only [List.cons_append, List.nil_append] at NI) | (intro uI vsI hI tkI hlI hiI FI NI; simp only [List.cons_append, List.nil_append] at NI)))))
  k_with "binaryOp Pow int int" => (k_here; (with_reducible show wpAny _ _ (binaryOp _ (Value.int 2 _) (Value.int _ _)) _ _ _); k_dflt (refine' pow_int_small ?kb1 ?kb2 (by decide) ?_; (case kb1 => first | assumption | exact (mem_rangeKs (by assumption)).1); (case kb2 => first | exact k_le (by assumption) hl | exact K_le (by assumption) (by decide))))
  k_with "binaryOp FloorDiv int int" => (k_here; (with_reducible show wpAny _ _ (binaryOp _ (Value.int _ _) (Value.int (2 ^ _) _)) _ _ _); k_dflt (refine' floordiv_int two_pow_ne ?_ (Or.inl (PyProof.noPylong_of_log2 (kbt_py ?kbp))); (case kbp => first | exact k_lt9 (by assumption) hl | exact K_lt9 (by assumption) (by decide))))
  k_with "binaryOp FloorDiv int int" => (k_here; (with_reducible show wpAny _ _ (binaryOp _ (Value.int _ _) (Value.int (((List.length _ : Nat)) : Int) _)) _ _ _); k_dflt (refine' fd_tog hkI ?_; k_whole; intro tF9))
  k_with "subscriptTail Name Name ref int" => (k_here; k_dflt (refine' item_ints hiI ?NW ?mW ?h0W ?h1W ?h2W ?_; (case NW => k_asm); (case mW => k_mem); (case h0W => exact hI0); (case h1W => rw [hlI]; exact hI4); (case h2W => rw [hlI]; decide); k_whole; intro tI9))
  k_with "setItem ref int" => (k_here; k_dflt (refine' ksa_set ?F1 ?N1 ?U1 hiI ?h01 ?h11 ?h21 ?_; (case F1 => k_asm); (case N1 => k_asm); (case U1 => k_upd); (case h01 => exact hI0); (case h11 => rw [hlI]; exact hI4); (case h21 => exact Int.lt_trans hI4 (by decide)); k_whole; intro h9' F9' N9' i9' l9' s9'; (try dsimp only)))
  k_with "TurnL" => (refine' TurnL.next ?FW ?iW ?NW ?jW; (case FW => assumption); (case NW => first | assumption | (refine' cb_drop ?cbN ?cbS; (case cbN => assumption); (case cbS => kcj_all))); (case iW => first | (rw [due_odd (ch := chosenF ns k9) (by assumption)]; exact i9') | (rw [due_even (ch := chosenF ns k9) (by assumption)]; exact i9')); (case jW => intro z h1; simp [h1]))
  k_with "TurnD" => (refine TurnD.next (by first | with_reducible assumption | assumption) (by first | assumption | (refine' cb_drop ?cbN ?cbS; (case cbN => assumption); (case cbS => kcj_all))) (by assumption) (by assumption) (by assumption) (by intro z h1 h2 h3; simp [h1, h2, h3]))
  k_with "subscriptTail Name Name ref int" => (k_here; k_dflt (refine' item_ints (ns := ns) (by assumption) ?NW ?mW ?h0W ?h1W ?h2W ?_; (case NW => k_asm); (case mW => repeat (first | exact hml | exact List.mem_append_left _ hml | refine List.Mem.tail _ ?_)); (case h0W => assumption); (case h1W => exact k_idx (by assumption)); (case h2W => exact n_100 hl); k_whole; intro tI9))
  k_with "CompSrcT" => (k_here; k_dflt (first
    | (refine LCt.CompSrcT.range (by rfl) (by k_asm) (by k_asm) (by assumption) (range_small hl) (by first | exact rangeSize_nat _ _ | rfl) (range_size hl) ?_; intro g'; (refine' kci_range (fun l k => if (k9.fdiv (2 ^ k.toNat)).fmod 2 = 1 then l ++ [ns.getD k.toNat 0] else l) (fun k' t' I' oI' C' oC' D' m' ys' l' h' tk' E' hlo' hhi' hI' hC' hx' F' N' off' ne' => ?_) ?_ ?_); (all_goals (try (simp only [LCg.Off3, and_true] at off'))); (all_goals (try ((show KPfMark → _); intro hMark'))); kcf_last)
    | (refine LCt.CompSrcT.ledger (by rfl) (by k_asm) (by k_asm) (by k_mem) (ones_size (by assumption) hl) ?_; intro g'; (refine' kci_list (fun l o => if (o.fdiv (2 ^ kK.toNat)).fmod 2 = 1 then l ++ [o] else l) (by assumption) (fun o' t' I' oI' C' oC' D' m' ys' l' h' tk' E' hoin hI' hC' hx' F' N' off' ne' => ?_) ?_ ?_); (all_goals (try (simp only [LCg.Off3, and_true] at off'))); (all_goals (try ((show KPfMark → _); intro hMark'))); kcf_last)))
  k_with "compareOp NotEq ref ref" => (k_here; k_dflt (refine' ne_nil ?iW ?NW ?m1W ?m2W ?uW ?_; (case NW => k_asm); (case m1W => k_mem); (case m2W => k_mem); (case iW => assumption); (case uW => ((simp only [units_in1, units_deeper, Around.mark_units, units_caller]); exact uni_le hu)); k_whole))
  k_with "TestEnd" => (refine' TestEnd.intro ?eW ?FW ?NW; (case FW => assumption); (case eW => first | rfl | exact congrArg _ rfl); (case NW => first | assumption | (refine' cb_drop ?cbN ?cbS; (case cbN => assumption); (case cbS => kcj_all))))
  k_with "eval ListComp Name cons" => (k_here; (with_reducible show wpAny _ _ (eval (PySem.Expr.ListComp (PySem.Expr.Name _ _) [⟨PySem.Expr.Name _ _, PySem.Expr.Name _ _, [_], _⟩] _ _) _) _ _ _); lcg_calm; k_dflt (refine LCt.ListComp_T (F₀ := by k_asm) (by with_unfolding_all rfl) (by decide) (by rfl) (by decide) (by rfl) ?_))
  k_with "exec Assign cons ListComp" => (k_here; (with_reducible show wpAny _ _ (exec (Stmt.Assign [PySem.Expr.Name _ _] (PySem.Expr.ListComp (PySem.Expr.Name _ _) _ _ _) _) _) _ _ _); lcg_calm; k_dflt (refine Assign_ListComp_K (F₀ := by k_asm) (by rfl) (by with_unfolding_all rfl) (by with_unfolding_all rfl) (by rfl) (by decide) (by rfl) (fun _ => rfl) (fun _ => rfl) (by decide) (by rfl) (by rfl) ?_))
  k_with "SrcK" => (k_here; k_dflt (refine' SrcK.range (fun k => decide (onesF (chosenF ns k9) k ≠ [])) ?hhW ?FW ?NW ?rW ?smW ?nW ?szW ?_ ?_; (case hhW => rfl); (case FW => k_asm); (case NW => k_asm); (case rW => assumption); (case smW => decide); (case nW => first | exact rangeSize_nat _ _ | rfl); (case szW => exact Nat.le_of_ble_eq_true rfl); all_goals k_whole; all_goals (first | (intro kK tK I' oI' C' oC' X' oX' D' ys' h' tk' m' E' hkK hC' hdK F' N' off' offX' ne'; (try (simp only [LCg.Off3, LCg.Off1, and_true] at off' offX'))) | (intro ysK DK hK tkK hiK FK NK oK; (try (simp only [LCg.Off1, and_true] at oK))))))
  repeat' (first | (k_unfold; (try dsimp only)) | (k_end; wrow_close) | walk1 | (dsimp only; walk1) | (leave1; (try dsimp only)))
  all_goals first
    | exact if_pos (eq_of_beq (by assumption))
    | exact if_neg (ne_of_beq_false (by assumption))
    | exact hret _ _ _ _ _ hi9 (by assumption) (by first | assumption | (refine' cb_drop ?cbN ?cbS; (case cbN => assumption); (case cbS => kcj_all)))
end Mine
end

-- part Pq
section
open PySem PySem.Calls PyProof.Rows PySem.W
set_option Elab.async false
set_option maxRecDepth 100000
namespace Mine
def rowC (a b : Int) (sign : Str) (k : Nat) : Str := if ((1 + a).fdiv (2 ^ k)).fmod 2 = 1 then sign else (if (b + (k : Int)).fmod 2 = 0 then Str.ofString "..." else Str.ofString "......")
def canF (a b : Int) (sign : Str) : Str := rowC a b sign 0 ++ (Str.ofString "\r\n" ++ (rowC a b sign 1 ++ (Str.ofString "\r\n" ++ (rowC a b sign 2 ++ (Str.ofString "\r\n" ++ rowC a b sign 3)))))
def NoEnd (r : List Nat) : Prop := r ≠ [] ∧ ∀ c ∈ r, c ≠ 10 ∧ c ≠ 13
def crlf4 (r0 r1 r2 r3 : List Nat) : List Nat := r0 ++ 13 :: 10 :: (r1 ++ 13 :: 10 :: (r2 ++ 13 :: 10 :: r3))
def dotL : List Nat → List Nat
  | [] => []
  | c :: t => if c = 46 then 46 :: 46 :: t else c :: t
theorem dot_cons (c : Nat) (t : List Nat) : dotL (c :: t) = if c = 46 then 46 :: 46 :: t else c :: t := rfl
theorem norm_row : ∀ {r : List Nat} (s : List Nat), (∀ c ∈ r, c ≠ 10 ∧ c ≠ 13) → norm2 (r ++ s) = r ++ norm2 s
  | [], _, _ => rfl
  | c :: t, s, h => by
    obtain ⟨h1, h2⟩ := h c (.head _)
    rw [List.cons_append, norm2_plain c _ (by simp [h1, h2]), norm_row s fun x hx => h x (.tail _ hx)]
    rfl
theorem head_ne {r s : List Nat} (h : NoEnd r) : ∀ r', r ++ s ≠ 10 :: r' := by
  intro r' e
  match r, h with
  | c :: t, h => exact (h.2 c (.head _)).1 (List.cons.inj e).1
theorem norm_sep {S r s : List Nat} (hS : S = [10] ∨ S = [13, 10] ∨ S = [13]) (h : NoEnd r) : norm2 (S ++ (r ++ s)) = 13 :: 10 :: (r ++ norm2 s) := by
  rw [← norm_row (r := r) s h.2]
  rcases hS with rfl | rfl | rfl
  · exact norm2_lf _
  · exact norm2_crlf _
  · exact norm2_cr (r ++ s) (head_ne h)
theorem norm_mail {S0 S1 S2 r0 r1 r2 r3 : List Nat} (h0 : NoEnd r0) (h1 : NoEnd r1) (h2 : NoEnd r2) (h3 : NoEnd r3) (k0 : S0 = [10] ∨ S0 = [13, 10] ∨ S0 = [13]) (k1 : S1 = [10] ∨ S1 = [13, 10] ∨ S1 = [13]) (k2 : S2 = [10] ∨ S2 = [13, 10] ∨ S2 = [13]) :
    norm2 (r0 ++ (S0 ++ (r1 ++ (S1 ++ (r2 ++ (S2 ++ r3)))))) = crlf4 r0 r1 r2 r3 := by
  have e3 : norm2 (S2 ++ r3) = 13 :: 10 :: r3 := by
    have := norm_sep (s := []) k2 h3
    simpa [norm2] using this
  rw [norm_row _ h0.2, norm_sep k0 h1, norm_sep k1 h2, e3]
  rfl
theorem stuff_false : ∀ {r : List Nat} (s : List Nat), (∀ c ∈ r, c ≠ 10 ∧ c ≠ 13) → stuff1 false (r ++ s) = r ++ stuff1 false s
  | [], _, _ => rfl
  | c :: t, s, h => by
    have h1 := (h c (.head _)).1
    rw [List.cons_append, stuff1_cons, if_neg (by simp), show (c == 10) = false by simpa using h1, stuff_false s fun x hx => h x (.tail _ hx)]
    rfl
theorem stuff_row {r : List Nat} (s : List Nat) (h : NoEnd r) : stuff1 true (r ++ s) = dotL r ++ stuff1 false s := by
  match r, h with
  | c :: t, h =>
    have h1 := (h.2 c (.head _)).1
    have ht : ∀ x ∈ t, x ≠ 10 ∧ x ≠ 13 := fun x hx => h.2 x (.tail _ hx)
    rw [List.cons_append, stuff1_cons, dot_cons]
    by_cases hc : c = 46
    · rw [if_pos (by simp [hc]), if_pos hc, stuff_false s ht]; rfl
    · rw [if_neg (by simp [hc]), if_neg hc, show (c == 10) = false by simpa using h1, stuff_false s ht]; rfl
theorem stuff_end (s : List Nat) : stuff1 false (13 :: 10 :: s) = 13 :: 10 :: stuff1 true s := rfl
theorem stuff_mail {r0 r1 r2 r3 : List Nat} (h0 : NoEnd r0) (h1 : NoEnd r1) (h2 : NoEnd r2) (h3 : NoEnd r3) : stuff1 true (crlf4 r0 r1 r2 r3) = crlf4 (dotL r0) (dotL r1) (dotL r2) (dotL r3) := by
  unfold crlf4
  have e3 : stuff1 true r3 = dotL r3 := by
    have := stuff_row [] h3
    simpa [stuff1] using this
  rw [stuff_row _ h0, stuff_end, stuff_row _ h1, stuff_end, stuff_row _ h2, stuff_end, e3]
theorem noEnd_dot {r : List Nat} (h : NoEnd r) : NoEnd (dotL r) := by
  match r, h with
  | c :: t, h =>
    rw [dot_cons]
    by_cases hc : c = 46
    · rw [if_pos hc]
      refine ⟨List.cons_ne_nil _ _, fun x hx => ?_⟩
      rcases List.mem_cons.mp hx with rfl | hx
      · decide
      · rcases List.mem_cons.mp hx with rfl | hx
        · decide
        · exact h.2 x (.tail _ hx)
    · rw [if_neg hc]; exact h
def ofL (l : List Nat) : Str := ⟨l.toArray⟩
theorem quote_mail {S0 S1 S2 r0 r1 r2 r3 : List Nat} (h0 : NoEnd r0) (h1 : NoEnd r1) (h2 : NoEnd r2) (h3 : NoEnd r3) (k0 : S0 = [10] ∨ S0 = [13, 10] ∨ S0 = [13]) (k1 : S1 = [10] ∨ S1 = [13, 10] ∨ S1 = [13]) (k2 : S2 = [10] ∨ S2 = [13, 10] ∨ S2 = [13]) :
    quoteS (ofL (r0 ++ (S0 ++ (r1 ++ (S1 ++ (r2 ++ (S2 ++ r3))))))) = ofL (crlf4 (dotL r0) (dotL r1) (dotL r2) (dotL r3)) := by
  show (⟨(stuff1 true (norm2 _).toArray.toList).toArray⟩ : Str) = _
  rw [List.toList_toArray]
  show (⟨(stuff1 true (norm2 (r0 ++ (S0 ++ (r1 ++ (S1 ++ (r2 ++ (S2 ++ r3))))))) ).toArray⟩ : Str) = _
  rw [norm_mail h0 h1 h2 h3 k0 k1 k2, stuff_mail h0 h1 h2 h3]
  rfl
theorem quote_crlf {r0 r1 r2 r3 : List Nat} (h0 : NoEnd r0) (h1 : NoEnd r1) (h2 : NoEnd r2) (h3 : NoEnd r3) : quoteS (ofL (crlf4 r0 r1 r2 r3)) = ofL (crlf4 (dotL r0) (dotL r1) (dotL r2) (dotL r3)) :=
  quote_mail (S0 := [13, 10]) (S1 := [13, 10]) (S2 := [13, 10]) h0 h1 h2 h3 (.inr (.inl rfl)) (.inr (.inl rfl)) (.inr (.inl rfl))
theorem app_L (a b : Str) : (a ++ b).cps.toList = a.cps.toList ++ b.cps.toList := by rw [app_cps]; simp
theorem sep_L (x : Int) {k : Nat} (hk : k < 3) : (sepF x k).cps.toList = [10] ∨ (sepF x k).cps.toList = [13, 10] ∨ (sepF x k).cps.toList = [13] := by
  unfold sepF
  rw [if_pos hk]
  split
  · exact .inl (by decide)
  · split
    · exact .inr (.inl (by decide))
    · exact .inr (.inr (by decide))
theorem mail_L (x : Int) (sign : Str) (n : Int) : mailF x sign n 4 = ofL ((rowF x sign n 0).cps.toList ++ ((sepF x 0).cps.toList ++ ((rowF x sign n 1).cps.toList ++ ((sepF x 1).cps.toList ++ ((rowF x sign n 2).cps.toList ++ ((sepF x 2).cps.toList ++ (rowF x sign n 3).cps.toList)))))) := by
  apply str_ext
  have e : (sepF x 3).cps.toList = [] := by unfold sepF; rw [if_neg (by decide)]; decide
  have e0 : (Str.ofString "").cps.toList = [] := by decide
  simp only [mailF, app_L, e, e0, ofL, List.append_nil, List.nil_append, List.append_assoc]
theorem can_L (a b : Int) (sign : Str) : canF a b sign = ofL (crlf4 (rowC a b sign 0).cps.toList (rowC a b sign 1).cps.toList (rowC a b sign 2).cps.toList (rowC a b sign 3).cps.toList) := by
  apply str_ext
  have e : (Str.ofString "\r\n").cps.toList = [13, 10] := by decide
  simp [canF, crlf4, app_L, e, ofL]
/-- a sign's text: one figure that is no end of a row and no dot -/
def SignOk (sign : Str) : Prop := ∃ c, sign.cps.toList = [c] ∧ c ≠ 10 ∧ c ≠ 13 ∧ c ≠ 46
theorem row_sent {x : Int} {sign : Str} (hs : SignOk sign) (k : Nat) : (NoEnd (rowF x sign 1 k).cps.toList ∧ dotL (rowF x sign 1 k).cps.toList = (rowC (x.fmod 15) ((x.fdiv 15).fmod 2) sign k).cps.toList) ∧ (NoEnd (rowF x sign 2 k).cps.toList ∧ dotL (dotL (rowF x sign 2 k).cps.toList) = (rowC (x.fmod 15) ((x.fdiv 15).fmod 2) sign k).cps.toList) := by
  obtain ⟨c, hc, h1, h2, h3⟩ := hs
  unfold rowF rowC
  by_cases hv : ((1 + x.fmod 15).fdiv (2 ^ k)).fmod 2 = 1
  · rw [if_pos hv, if_pos hv, if_pos hv, hc]
    refine ⟨⟨⟨List.cons_ne_nil _ _, fun y hy => ?_⟩, ?_⟩, ⟨⟨List.cons_ne_nil _ _, fun y hy => ?_⟩, ?_⟩⟩
    · rw [List.mem_singleton.mp hy]; exact ⟨h1, h2⟩
    · simp [dotL, h3]
    · rw [List.mem_singleton.mp hy]; exact ⟨h1, h2⟩
    · simp [dotL, h3]
  · rw [if_neg hv, if_neg hv, if_neg hv]
    have e2 : ((x.fdiv 15).fmod 2 + (k : Int)).fmod 2 = (x.fdiv 15 + (k : Int)).fmod 2 := by
      simp only [Int.fmod_eq_emod_of_nonneg _ (by decide : (0 : Int) ≤ 2)]; omega
    rw [e2]
    have m1 : ∀ l : List Nat, l = [46, 46] ∨ l = [46, 46, 46, 46, 46] ∨ l = [46] ∨ l = [46, 46, 46, 46] → NoEnd l := by
      intro l hl
      rcases hl with rfl | rfl | rfl | rfl <;> exact ⟨List.cons_ne_nil _ _, by decide⟩
    rcases fmod2 (x.fdiv 15 + (k : Int)) with h | h
    · rw [h, if_pos rfl]
      refine ⟨⟨m1 _ (.inl (by decide +kernel)), by decide +kernel⟩, ⟨m1 _ (.inr (.inr (.inl (by decide +kernel)))), by decide +kernel⟩⟩
    · rw [h, if_neg (by decide)]
      refine ⟨⟨m1 _ (.inr (.inl (by decide +kernel))), by decide +kernel⟩, ⟨m1 _ (.inr (.inr (.inr (by decide +kernel)))), by decide +kernel⟩⟩
theorem send_can {x : Int} {sign : Str} (hs : SignOk sign) : sendF (mailF x sign 1 4) 1 = canF (x.fmod 15) ((x.fdiv 15).fmod 2) sign ∧ sendF (mailF x sign 2 4) 2 = canF (x.fmod 15) ((x.fdiv 15).fmod 2) sign := by
  have r0 := row_sent (x := x) hs 0
  have r1 := row_sent (x := x) hs 1
  have r2 := row_sent (x := x) hs 2
  have r3 := row_sent (x := x) hs 3
  constructor
  · show quoteS (mailF x sign 1 4) = _
    rw [mail_L, quote_mail r0.1.1 r1.1.1 r2.1.1 r3.1.1 (sep_L x (by decide)) (sep_L x (by decide)) (sep_L x (by decide)), r0.1.2, r1.1.2, r2.1.2, r3.1.2, can_L]
  · show quoteS (quoteS (mailF x sign 2 4)) = _
    rw [mail_L, quote_mail r0.2.1 r1.2.1 r2.2.1 r3.2.1 (sep_L x (by decide)) (sep_L x (by decide)) (sep_L x (by decide)), quote_crlf (noEnd_dot r0.2.1) (noEnd_dot r1.2.1) (noEnd_dot r2.2.1) (noEnd_dot r3.2.1), r0.2.2, r1.2.2, r2.2.2, r3.2.2, can_L]
end Mine
end

-- part Pl
section
open PySem PySem.W PySem.Calls PyProof.Rows PySem.Builtin PySem.Builtin.Str
set_option Elab.async false
set_option maxRecDepth 100000
namespace Mine
/-- m's voters are all in g -/
def subN (m g : Nat) : Bool := m &&& g == m
theorem subN_iff {m g : Nat} : subN m g = true ↔ ∀ i, m.testBit i = true → g.testBit i = true := by
  unfold subN
  rw [beq_iff_eq]
  constructor
  · intro h i hi
    rw [← h, Nat.testBit_and, Bool.and_eq_true] at hi
    exact hi.2
  · intro h
    apply Nat.eq_of_testBit_eq
    intro i
    rw [Nat.testBit_and]
    cases hm : m.testBit i with
    | false => rfl
    | true => rw [h i hm]; rfl
theorem subN_trans {m g g' : Nat} (h : subN m g = true) (h' : subN g g' = true) : subN m g' = true := subN_iff.mpr fun i hi => subN_iff.mp h' i (subN_iff.mp h i hi)
theorem subN_or {a b g : Nat} : subN (a ||| b) g = (subN a g && subN b g) := by
  rw [Bool.eq_iff_iff, Bool.and_eq_true, subN_iff, subN_iff, subN_iff]
  constructor
  · exact fun h => ⟨fun i hi => h i (by rw [Nat.testBit_or, hi]; rfl), fun i hi => h i (by rw [Nat.testBit_or, hi, Bool.or_true])⟩
  · rintro ⟨h1, h2⟩ i hi
    rw [Nat.testBit_or, Bool.or_eq_true] at hi
    exact hi.elim (h1 i) (h2 i)
def orN (ms : List Nat) : Nat := ms.foldr (· ||| ·) 0
theorem subN_orN (g : Nat) : ∀ ms : List Nat, subN (orN ms) g = ms.all (subN · g)
  | [] => by simp [orN, subN]
  | m :: r => by
    show subN (m ||| orN r) g = _
    rw [subN_or, subN_orN g r]; rfl
theorem testBit_orN (k : Nat) : ∀ ms : List Nat, (orN ms).testBit k = ms.any (·.testBit k)
  | [] => by simp [orN]
  | m :: r => by
    show (m ||| orN r).testBit k = _
    rw [Nat.testBit_or, testBit_orN k r]; rfl
theorem orN_lt : ∀ {ms : List Nat}, (∀ m ∈ ms, m < 16) → orN ms < 16
  | [], _ => by decide
  | m :: r, h => Nat.or_lt_two_pow (n := 4) (h m (.head _)) (orN_lt fun x hx => h x (.tail _ hx))
theorem orN_pos {ms : List Nat} (h : ∀ m ∈ ms, 0 < m) (hne : ms ≠ []) : 0 < orN ms := by
  match ms, hne with
  | m :: r, _ =>
    have := h m (.head _)
    exact Nat.lt_of_lt_of_le this Nat.left_le_or
/-- the tips, as a sum over the groups -/
def tau (car : Nat → Bool) (k : Nat) (g : Int) : Int := if car g.toNat && (bitF g k && !car (Builtin.bitXor g (1 * 2 ^ k)).toNat) then ordF g else 0
theorem tipK0 {car : Nat → Bool} {g x0 x1 x2 x3 : Int} : tipK car g [x0, x1, x2, x3] 0 = [x0 + (if (bitF g 0 && !car (Builtin.bitXor g (1 * 2 ^ 0)).toNat) = true then ordF g else 0), x1, x2, x3] := by
  show (if (bitF g 0 && !car (Builtin.bitXor g (1 * 2 ^ 0)).toNat) = true then [x0 + ordF g, x1, x2, x3] else [x0, x1, x2, x3]) = _
  split
  · rfl
  · rw [Int.add_zero]
theorem tipK1 {car : Nat → Bool} {g x0 x1 x2 x3 : Int} : tipK car g [x0, x1, x2, x3] 1 = [x0, x1 + (if (bitF g 1 && !car (Builtin.bitXor g (1 * 2 ^ 1)).toNat) = true then ordF g else 0), x2, x3] := by
  show (if (bitF g 1 && !car (Builtin.bitXor g (1 * 2 ^ 1)).toNat) = true then [x0, x1 + ordF g, x2, x3] else [x0, x1, x2, x3]) = _
  split
  · rfl
  · rw [Int.add_zero]
theorem tipK2 {car : Nat → Bool} {g x0 x1 x2 x3 : Int} : tipK car g [x0, x1, x2, x3] 2 = [x0, x1, x2 + (if (bitF g 2 && !car (Builtin.bitXor g (1 * 2 ^ 2)).toNat) = true then ordF g else 0), x3] := by
  show (if (bitF g 2 && !car (Builtin.bitXor g (1 * 2 ^ 2)).toNat) = true then [x0, x1, x2 + ordF g, x3] else [x0, x1, x2, x3]) = _
  split
  · rfl
  · rw [Int.add_zero]
theorem tipK3 {car : Nat → Bool} {g x0 x1 x2 x3 : Int} : tipK car g [x0, x1, x2, x3] 3 = [x0, x1, x2, x3 + (if (bitF g 3 && !car (Builtin.bitXor g (1 * 2 ^ 3)).toNat) = true then ordF g else 0)] := by
  show (if (bitF g 3 && !car (Builtin.bitXor g (1 * 2 ^ 3)).toNat) = true then [x0, x1, x2, x3 + ordF g] else [x0, x1, x2, x3]) = _
  split
  · rfl
  · rw [Int.add_zero]
theorem tau_car {car : Nat → Bool} {k : Nat} {g : Int} (hc : car g.toNat = true) : tau car k g = if (bitF g k && !car (Builtin.bitXor g (1 * 2 ^ k)).toNat) = true then ordF g else 0 := by
  unfold tau; rw [hc, Bool.true_and]
theorem tau_off {car : Nat → Bool} {k : Nat} {g : Int} (hc : car g.toNat = false) : tau car k g = 0 := by
  unfold tau; rw [hc, Bool.false_and]; rfl
theorem tipG_vec {car : Nat → Bool} {g x0 x1 x2 x3 : Int} : tipG car [x0, x1, x2, x3] g = [x0 + tau car 0 g, x1 + tau car 1 g, x2 + tau car 2 g, x3 + tau car 3 g] := by
  unfold tipG
  cases hc : car g.toNat with
  | false => simp only [Bool.false_eq_true, if_false, tau_off hc, Int.add_zero]
  | true =>
    rw [if_pos rfl, show rangeKs 0 4 = [0, 1, 2, 3] from rfl]
    simp only [List.foldl_cons, List.foldl_nil]
    rw [tipK0, tipK1, tipK2, tipK3, tau_car hc, tau_car hc, tau_car hc, tau_car hc]
theorem tips_fold {car : Nat → Bool} : ∀ (l : List Int) (x0 x1 x2 x3 : Int), l.foldl (tipG car) [x0, x1, x2, x3] = [x0 + (l.map (tau car 0)).sum, x1 + (l.map (tau car 1)).sum, x2 + (l.map (tau car 2)).sum, x3 + (l.map (tau car 3)).sum]
  | [], x0, x1, x2, x3 => by simp
  | g :: r, x0, x1, x2, x3 => by
    rw [List.foldl_cons, tipG_vec, tips_fold r]
    simp [Int.add_assoc]
theorem tips_vec (car : Nat → Bool) : tipsF car = [((rangeKs 0 16).map (tau car 0)).sum, ((rangeKs 0 16).map (tau car 1)).sum, ((rangeKs 0 16).map (tau car 2)).sum, ((rangeKs 0 16).map (tau car 3)).sum] := by
  unfold tipsF
  rw [tips_fold]
  simp
def pr (c : Int) (x y : Nat) (f : Nat → Int) : Int := c * (f x - f y)
def sig (k : Nat) (f : Nat → Int) : Int := match k with
  | 0 => pr 6 1 0 f + pr 2 3 2 f + pr 2 5 4 f + pr 2 7 6 f + pr 2 9 8 f + pr 2 11 10 f + pr 2 13 12 f + pr 6 15 14 f
  | 1 => pr 6 2 0 f + pr 2 3 1 f + pr 2 6 4 f + pr 2 7 5 f + pr 2 10 8 f + pr 2 11 9 f + pr 2 14 12 f + pr 6 15 13 f
  | 2 => pr 6 4 0 f + pr 2 5 1 f + pr 2 6 2 f + pr 2 7 3 f + pr 2 12 8 f + pr 2 13 9 f + pr 2 14 10 f + pr 6 15 11 f
  | _ => pr 6 8 0 f + pr 2 9 1 f + pr 2 10 2 f + pr 2 11 3 f + pr 2 12 4 f + pr 2 13 5 f + pr 2 14 6 f + pr 6 15 7 f
def ind (b : Bool) : Int := if b then 1 else 0
def Mono (car : Nat → Bool) : Prop := ∀ g g' : Nat, subN g g' = true → car g = true → car g' = true
theorem tau_no {car : Nat → Bool} {k : Nat} {g : Int} (hb : bitF g k = false) : tau car k g = 0 := by simp [tau, hb]
theorem tau_yes {car : Nat → Bool} (hm : Mono car) {k p q : Nat} {g o : Int} (hb : bitF g k = true) (hp : g.toNat = p) (hq : (Builtin.bitXor g (1 * 2 ^ k)).toNat = q) (ho : ordF g = o) (hs : subN q p = true) : tau car k g = o * (ind (car p) - ind (car q)) := by
  subst hp hq ho
  have h := hm _ _ hs
  unfold tau ind
  rw [hb]
  cases h1 : car (Builtin.bitXor g (1 * 2 ^ k)).toNat with
  | true => rw [h h1]; simp
  | false => cases car g.toNat <;> simp
theorem tips_sig0 {car : Nat → Bool} (hm : Mono car) : ((rangeKs 0 16).map (tau car 0)).sum = sig 0 (fun g => ind (car g)) := by
  have e : rangeKs 0 16 = [0, 1, 2, 3, 4, 5, 6, 7, 8, 9, 10, 11, 12, 13, 14, 15] := rfl
  rw [e]
  simp only [List.map_cons, List.map_nil, List.sum_cons, List.sum_nil]
  rw [tau_no (car := car) (k := 0) (g := 0) rfl,
    tau_yes hm (k := 0) (p := 1) (q := 0) (g := 1) (o := 6) rfl rfl rfl rfl rfl,
    tau_no (car := car) (k := 0) (g := 2) rfl,
    tau_yes hm (k := 0) (p := 3) (q := 2) (g := 3) (o := 2) rfl rfl rfl rfl rfl,
    tau_no (car := car) (k := 0) (g := 4) rfl,
    tau_yes hm (k := 0) (p := 5) (q := 4) (g := 5) (o := 2) rfl rfl rfl rfl rfl,
    tau_no (car := car) (k := 0) (g := 6) rfl,
    tau_yes hm (k := 0) (p := 7) (q := 6) (g := 7) (o := 2) rfl rfl rfl rfl rfl,
    tau_no (car := car) (k := 0) (g := 8) rfl,
    tau_yes hm (k := 0) (p := 9) (q := 8) (g := 9) (o := 2) rfl rfl rfl rfl rfl,
    tau_no (car := car) (k := 0) (g := 10) rfl,
    tau_yes hm (k := 0) (p := 11) (q := 10) (g := 11) (o := 2) rfl rfl rfl rfl rfl,
    tau_no (car := car) (k := 0) (g := 12) rfl,
    tau_yes hm (k := 0) (p := 13) (q := 12) (g := 13) (o := 2) rfl rfl rfl rfl rfl,
    tau_no (car := car) (k := 0) (g := 14) rfl,
    tau_yes hm (k := 0) (p := 15) (q := 14) (g := 15) (o := 6) rfl rfl rfl rfl rfl]
  simp only [sig, pr, Int.zero_add, Int.add_zero, Int.add_assoc]
theorem tips_sig1 {car : Nat → Bool} (hm : Mono car) : ((rangeKs 0 16).map (tau car 1)).sum = sig 1 (fun g => ind (car g)) := by
  have e : rangeKs 0 16 = [0, 1, 2, 3, 4, 5, 6, 7, 8, 9, 10, 11, 12, 13, 14, 15] := rfl
  rw [e]
  simp only [List.map_cons, List.map_nil, List.sum_cons, List.sum_nil]
  rw [tau_no (car := car) (k := 1) (g := 0) rfl,
    tau_no (car := car) (k := 1) (g := 1) rfl,
    tau_yes hm (k := 1) (p := 2) (q := 0) (g := 2) (o := 6) rfl rfl rfl rfl rfl,
    tau_yes hm (k := 1) (p := 3) (q := 1) (g := 3) (o := 2) rfl rfl rfl rfl rfl,
    tau_no (car := car) (k := 1) (g := 4) rfl,
    tau_no (car := car) (k := 1) (g := 5) rfl,
    tau_yes hm (k := 1) (p := 6) (q := 4) (g := 6) (o := 2) rfl rfl rfl rfl rfl,
    tau_yes hm (k := 1) (p := 7) (q := 5) (g := 7) (o := 2) rfl rfl rfl rfl rfl,
    tau_no (car := car) (k := 1) (g := 8) rfl,
    tau_no (car := car) (k := 1) (g := 9) rfl,
    tau_yes hm (k := 1) (p := 10) (q := 8) (g := 10) (o := 2) rfl rfl rfl rfl rfl,
    tau_yes hm (k := 1) (p := 11) (q := 9) (g := 11) (o := 2) rfl rfl rfl rfl rfl,
    tau_no (car := car) (k := 1) (g := 12) rfl,
    tau_no (car := car) (k := 1) (g := 13) rfl,
    tau_yes hm (k := 1) (p := 14) (q := 12) (g := 14) (o := 2) rfl rfl rfl rfl rfl,
    tau_yes hm (k := 1) (p := 15) (q := 13) (g := 15) (o := 6) rfl rfl rfl rfl rfl]
  simp only [sig, pr, Int.zero_add, Int.add_zero, Int.add_assoc]
theorem tips_sig2 {car : Nat → Bool} (hm : Mono car) : ((rangeKs 0 16).map (tau car 2)).sum = sig 2 (fun g => ind (car g)) := by
  have e : rangeKs 0 16 = [0, 1, 2, 3, 4, 5, 6, 7, 8, 9, 10, 11, 12, 13, 14, 15] := rfl
  rw [e]
  simp only [List.map_cons, List.map_nil, List.sum_cons, List.sum_nil]
  rw [tau_no (car := car) (k := 2) (g := 0) rfl,
    tau_no (car := car) (k := 2) (g := 1) rfl,
    tau_no (car := car) (k := 2) (g := 2) rfl,
    tau_no (car := car) (k := 2) (g := 3) rfl,
    tau_yes hm (k := 2) (p := 4) (q := 0) (g := 4) (o := 6) rfl rfl rfl rfl rfl,
    tau_yes hm (k := 2) (p := 5) (q := 1) (g := 5) (o := 2) rfl rfl rfl rfl rfl,
    tau_yes hm (k := 2) (p := 6) (q := 2) (g := 6) (o := 2) rfl rfl rfl rfl rfl,
    tau_yes hm (k := 2) (p := 7) (q := 3) (g := 7) (o := 2) rfl rfl rfl rfl rfl,
    tau_no (car := car) (k := 2) (g := 8) rfl,
    tau_no (car := car) (k := 2) (g := 9) rfl,
    tau_no (car := car) (k := 2) (g := 10) rfl,
    tau_no (car := car) (k := 2) (g := 11) rfl,
    tau_yes hm (k := 2) (p := 12) (q := 8) (g := 12) (o := 2) rfl rfl rfl rfl rfl,
    tau_yes hm (k := 2) (p := 13) (q := 9) (g := 13) (o := 2) rfl rfl rfl rfl rfl,
    tau_yes hm (k := 2) (p := 14) (q := 10) (g := 14) (o := 2) rfl rfl rfl rfl rfl,
    tau_yes hm (k := 2) (p := 15) (q := 11) (g := 15) (o := 6) rfl rfl rfl rfl rfl]
  simp only [sig, pr, Int.zero_add, Int.add_zero, Int.add_assoc]
theorem tips_sig3 {car : Nat → Bool} (hm : Mono car) : ((rangeKs 0 16).map (tau car 3)).sum = sig 3 (fun g => ind (car g)) := by
  have e : rangeKs 0 16 = [0, 1, 2, 3, 4, 5, 6, 7, 8, 9, 10, 11, 12, 13, 14, 15] := rfl
  rw [e]
  simp only [List.map_cons, List.map_nil, List.sum_cons, List.sum_nil]
  rw [tau_no (car := car) (k := 3) (g := 0) rfl,
    tau_no (car := car) (k := 3) (g := 1) rfl,
    tau_no (car := car) (k := 3) (g := 2) rfl,
    tau_no (car := car) (k := 3) (g := 3) rfl,
    tau_no (car := car) (k := 3) (g := 4) rfl,
    tau_no (car := car) (k := 3) (g := 5) rfl,
    tau_no (car := car) (k := 3) (g := 6) rfl,
    tau_no (car := car) (k := 3) (g := 7) rfl,
    tau_yes hm (k := 3) (p := 8) (q := 0) (g := 8) (o := 6) rfl rfl rfl rfl rfl,
    tau_yes hm (k := 3) (p := 9) (q := 1) (g := 9) (o := 2) rfl rfl rfl rfl rfl,
    tau_yes hm (k := 3) (p := 10) (q := 2) (g := 10) (o := 2) rfl rfl rfl rfl rfl,
    tau_yes hm (k := 3) (p := 11) (q := 3) (g := 11) (o := 2) rfl rfl rfl rfl rfl,
    tau_yes hm (k := 3) (p := 12) (q := 4) (g := 12) (o := 2) rfl rfl rfl rfl rfl,
    tau_yes hm (k := 3) (p := 13) (q := 5) (g := 13) (o := 2) rfl rfl rfl rfl rfl,
    tau_yes hm (k := 3) (p := 14) (q := 6) (g := 14) (o := 2) rfl rfl rfl rfl rfl,
    tau_yes hm (k := 3) (p := 15) (q := 7) (g := 15) (o := 6) rfl rfl rfl rfl rfl]
  simp only [sig, pr, Int.zero_add, Int.add_zero, Int.add_assoc]
theorem tips_sig {car : Nat → Bool} (hm : Mono car) : tipsF car = [sig 0 fun g => ind (car g), sig 1 fun g => ind (car g), sig 2 fun g => ind (car g), sig 3 fun g => ind (car g)] := by
  rw [tips_vec, tips_sig0 hm, tips_sig1 hm, tips_sig2 hm, tips_sig3 hm]
end Mine
end

-- part Pm
section
open PySem PySem.W PySem.Calls PyProof.Rows PySem.Builtin PySem.Builtin.Str
set_option Elab.async false
set_option maxRecDepth 100000
namespace Mine
def castN (ms : List Nat) : List Int := ms.map fun (m : Nat) => (m : Int)
def dlt (ch : List Int) (k : Nat) : Int := if onesF ch (k : Int) ≠ [] then partF ch (togF ch) else 0
theorem dueK0 {c : Prop} [Decidable c] {p x0 x1 x2 x3 : Int} : (if c then dueK p [x0, x1, x2, x3] 0 else [x0, x1, x2, x3]) = [x0 + (if c then p else 0), x1, x2, x3] := by
  split
  · rfl
  · rw [Int.add_zero]
theorem dueK1 {c : Prop} [Decidable c] {p x0 x1 x2 x3 : Int} : (if c then dueK p [x0, x1, x2, x3] 1 else [x0, x1, x2, x3]) = [x0, x1 + (if c then p else 0), x2, x3] := by
  split
  · rfl
  · rw [Int.add_zero]
theorem dueK2 {c : Prop} [Decidable c] {p x0 x1 x2 x3 : Int} : (if c then dueK p [x0, x1, x2, x3] 2 else [x0, x1, x2, x3]) = [x0, x1, x2 + (if c then p else 0), x3] := by
  split
  · rfl
  · rw [Int.add_zero]
theorem dueK3 {c : Prop} [Decidable c] {p x0 x1 x2 x3 : Int} : (if c then dueK p [x0, x1, x2, x3] 3 else [x0, x1, x2, x3]) = [x0, x1, x2, x3 + (if c then p else 0)] := by
  split
  · rfl
  · rw [Int.add_zero]
theorem fold_filter_cons {p : Int → Bool} {f : List Int → Int → List Int} (k : Int) (l : List Int) (a : List Int) : ((k :: l).filter p).foldl f a = (l.filter p).foldl f (if p k = true then f a k else a) := by
  cases h : p k with
  | true => rw [List.filter_cons_of_pos h]; rfl
  | false => rw [List.filter_cons_of_neg (by rw [h]; exact Bool.false_ne_true)]; rfl
theorem due_fold4 {ch : List Int} {p x0 x1 x2 x3 : Int} : (togF ch).foldl (dueK p) [x0, x1, x2, x3] = [x0 + (if onesF ch 0 ≠ [] then p else 0), x1 + (if onesF ch 1 ≠ [] then p else 0), x2 + (if onesF ch 2 ≠ [] then p else 0), x3 + (if onesF ch 3 ≠ [] then p else 0)] := by
  unfold togF
  rw [show rangeKs 0 4 = [0, 1, 2, 3] from rfl, fold_filter_cons, fold_filter_cons, fold_filter_cons, fold_filter_cons]
  simp only [List.filter_nil, List.foldl_nil, decide_eq_true_eq]
  rw [dueK0, dueK1, dueK2, dueK3]
theorem dueC_vec {ns : List Int} {c x0 x1 x2 x3 : Int} {ch : List Int} (h : chosenF ns c = ch) : dueC ns [x0, x1, x2, x3] c = [x0 + dlt ch 0, x1 + dlt ch 1, x2 + dlt ch 2, x3 + dlt ch 3] := by
  subst h
  exact due_fold4
theorem fold_filter {c : Int → Int} : ∀ (ch acc : List Int), ch.foldl (fun l o => if c o = 1 then l ++ [o] else l) acc = acc ++ ch.filter fun o => decide (c o = 1)
  | [], acc => by simp
  | o :: r, acc => by
    rw [List.foldl_cons, fold_filter r]
    by_cases h : c o = 1 <;> simp [h]
theorem bit_test (m k : Nat) : (((m : Int).fdiv (2 ^ k)).fmod 2 = 1) ↔ m.testBit k = true := by
  rw [Nat.testBit_eq_decide_div_mod_eq, decide_eq_true_eq, Int.fdiv_eq_ediv_of_nonneg _ (Int.le_of_lt (Int.pow_pos (by decide))), Int.fmod_eq_emod_of_nonneg _ (by decide)]
  have e : ((2 : Int) ^ k) = ((2 ^ k : Nat) : Int) := by simp
  rw [e]
  omega
theorem ones_iff (ms : List Nat) (k : Nat) : onesF (castN ms) (k : Int) ≠ [] ↔ (orN ms).testBit k = true := by
  unfold onesF
  rw [fold_filter, List.nil_append, testBit_orN, List.any_eq_true]
  constructor
  · intro h
    obtain ⟨o, ho⟩ := List.exists_mem_of_ne_nil _ h
    obtain ⟨h1, h2⟩ := List.mem_filter.mp ho
    obtain ⟨m, hm, rfl⟩ := List.mem_map.mp h1
    exact ⟨m, hm, (bit_test m k).mp (by simpa using h2)⟩
  · rintro ⟨m, hm, hb⟩
    have h2 := (bit_test m k).mpr hb
    exact List.ne_nil_of_mem (List.mem_filter.mpr ⟨List.mem_map.mpr ⟨m, hm, rfl⟩, by simpa using h2⟩)
def phi (T k : Nat) (odd : Bool) : Int := if T.testBit k = true then (if odd then (24 : Int) else -24).fdiv ((rangeKs 0 4).filter fun k => T.testBit k.toNat).length else 0
theorem phi_sig : ∀ (T : Fin 16) (k : Fin 4), phi T.val k.val true = sig k.val (fun g => ind (subN T.val g)) ∧ phi T.val k.val false = - sig k.val (fun g => ind (subN T.val g)) := by decide +kernel
theorem tog_mask (ms : List Nat) : togF (castN ms) = (rangeKs 0 4).filter fun k => (orN ms).testBit k.toNat := by
  unfold togF
  apply List.filter_congr
  intro k hk
  have h0 := (mem_rangeKs hk).1
  obtain ⟨j, rfl⟩ := Int.eq_ofNat_of_zero_le h0
  rw [Bool.eq_iff_iff, decide_eq_true_eq]
  exact ones_iff ms j
theorem dlt_phi (ms : List Nat) (k : Nat) : dlt (castN ms) k = phi (orN ms) k (ms.length % 2 == 1) := by
  unfold dlt phi partF
  rw [tog_mask]
  have hl : (castN ms).length = ms.length := by simp [castN]
  rw [hl]
  have e : ((ms.length : Int).fmod 2 = 1) = ((ms.length % 2 == 1) = true) := by
    rw [Int.fmod_eq_emod_of_nonneg _ (by decide), beq_iff_eq]
    apply propext; omega
  simp only [e, ones_iff]
theorem dlt_odd {ms : List Nat} (h : ∀ m ∈ ms, m < 16) (ho : (ms.length % 2 == 1) = true) {k : Nat} (hk : k < 4) : dlt (castN ms) k = sig k (fun g => ind (ms.all (subN · g))) := by
  rw [dlt_phi, ho, (phi_sig ⟨orN ms, orN_lt h⟩ ⟨k, hk⟩).1]
  simp only [subN_orN]
theorem dlt_even {ms : List Nat} (h : ∀ m ∈ ms, m < 16) (ho : (ms.length % 2 == 1) = false) {k : Nat} (hk : k < 4) : dlt (castN ms) k = - sig k (fun g => ind (ms.all (subN · g))) := by
  rw [dlt_phi, ho, (phi_sig ⟨orN ms, orN_lt h⟩ ⟨k, hk⟩).2]
  simp only [subN_orN]
theorem pr_add {c : Int} {x y : Nat} (f h : Nat → Int) : pr c x y (fun g => f g + h g) = pr c x y f + pr c x y h := by
  unfold pr
  rw [← Int.mul_add]
  congr 1
  dsimp only
  omega
theorem pr_sub {c : Int} {x y : Nat} (f h : Nat → Int) : pr c x y (fun g => f g + - h g) = pr c x y f - pr c x y h := by
  unfold pr
  rw [← Int.mul_sub]
  congr 1
  dsimp only
  omega
theorem sig_add {k : Nat} (f h : Nat → Int) : sig k (fun g => f g + h g) = sig k f + sig k h := by
  unfold sig
  simp only [pr_add]
  split <;> omega
theorem sig_sub {k : Nat} (f h : Nat → Int) : sig k (fun g => f g + - h g) = sig k f + - sig k h := by
  unfold sig
  simp only [pr_sub]
  split <;> omega
theorem sig_congr {k : Nat} {f h : Nat → Int} (e : ∀ g, f g = h g) : sig k f = sig k h := congrArg (sig k) (funext e)
theorem incl2 (a b g : Nat) : ind ([a, b].any (subN · g)) = ind ([a].all (subN · g)) + ind ([b].all (subN · g)) + -ind ([a, b].all (subN · g)) := by
  simp only [List.any_cons, List.any_nil, List.all_cons, List.all_nil]
  generalize subN a g = xa
  generalize subN b g = xb
  revert xa xb
  decide
theorem sincl2 (a b k : Nat) : sig k (fun g => ind ([a, b].any (subN · g))) = sig k (fun g => ind ([a].all (subN · g))) + sig k (fun g => ind ([b].all (subN · g))) + -sig k (fun g => ind ([a, b].all (subN · g))) := by
  rw [sig_congr (fun g => incl2 a b g)]
  rw [sig_sub, sig_add]
theorem ch2_1 (a b : Nat) : chosenF (castN [a, b]) 1 = castN [a] := by
  unfold chosenF
  rw [show rangeKs 0 (castN [a, b]).length = [0, 1] from rfl]
  simp only [List.foldl_cons, List.foldl_nil]
  rw [if_pos (by decide : (((1 : Int)).fdiv (2 ^ ((0 : Int)).toNat)).fmod 2 = 1), if_neg (by decide : ¬ (((1 : Int)).fdiv (2 ^ ((1 : Int)).toNat)).fmod 2 = 1)]
  rfl
theorem ch2_2 (a b : Nat) : chosenF (castN [a, b]) 2 = castN [b] := by
  unfold chosenF
  rw [show rangeKs 0 (castN [a, b]).length = [0, 1] from rfl]
  simp only [List.foldl_cons, List.foldl_nil]
  rw [if_neg (by decide : ¬ (((2 : Int)).fdiv (2 ^ ((0 : Int)).toNat)).fmod 2 = 1), if_pos (by decide : (((2 : Int)).fdiv (2 ^ ((1 : Int)).toNat)).fmod 2 = 1)]
  rfl
theorem ch2_3 (a b : Nat) : chosenF (castN [a, b]) 3 = castN [a, b] := by
  unfold chosenF
  rw [show rangeKs 0 (castN [a, b]).length = [0, 1] from rfl]
  simp only [List.foldl_cons, List.foldl_nil]
  rw [if_pos (by decide : (((3 : Int)).fdiv (2 ^ ((0 : Int)).toNat)).fmod 2 = 1), if_pos (by decide : (((3 : Int)).fdiv (2 ^ ((1 : Int)).toNat)).fmod 2 = 1)]
  rfl
theorem due2 {a b : Nat} (ha : a < 16) (hb : b < 16) : dueF (castN [a, b]) = [sig 0 (fun g => ind ([a, b].any (subN · g))), sig 1 (fun g => ind ([a, b].any (subN · g))), sig 2 (fun g => ind ([a, b].any (subN · g))), sig 3 (fun g => ind ([a, b].any (subN · g)))] := by
  have e : rangeKs 1 (2 ^ (castN [a, b]).length - 1) = [1, 2, 3] := rfl
  unfold dueF
  rw [e]
  simp only [List.foldl_cons, List.foldl_nil]
  rw [dueC_vec (ch2_1 a b), dueC_vec (ch2_2 a b), dueC_vec (ch2_3 a b)]
  rw [sincl2 a b 0, sincl2 a b 1, sincl2 a b 2, sincl2 a b 3]
  have ma : ∀ m ∈ [a], m < 16 := (by simp only [List.mem_cons, List.not_mem_nil, or_false]; rintro _ rfl; assumption)
  have mb : ∀ m ∈ [b], m < 16 := (by simp only [List.mem_cons, List.not_mem_nil, or_false]; rintro _ rfl; assumption)
  have mab : ∀ m ∈ [a, b], m < 16 := (by simp only [List.mem_cons, List.not_mem_nil, or_false]; rintro _ (rfl | rfl) <;> assumption)
  rw [dlt_odd ma (by simp) (k := 0) (by decide), dlt_odd mb (by simp) (k := 0) (by decide), dlt_even mab (by simp) (k := 0) (by decide)]
  rw [dlt_odd ma (by simp) (k := 1) (by decide), dlt_odd mb (by simp) (k := 1) (by decide), dlt_even mab (by simp) (k := 1) (by decide)]
  rw [dlt_odd ma (by simp) (k := 2) (by decide), dlt_odd mb (by simp) (k := 2) (by decide), dlt_even mab (by simp) (k := 2) (by decide)]
  rw [dlt_odd ma (by simp) (k := 3) (by decide), dlt_odd mb (by simp) (k := 3) (by decide), dlt_even mab (by simp) (k := 3) (by decide)]
  simp only [Int.zero_add]
theorem incl3 (a b c g : Nat) : ind ([a, b, c].any (subN · g)) = ind ([a].all (subN · g)) + ind ([b].all (subN · g)) + -ind ([a, b].all (subN · g)) + ind ([c].all (subN · g)) + -ind ([a, c].all (subN · g)) + -ind ([b, c].all (subN · g)) + ind ([a, b, c].all (subN · g)) := by
  simp only [List.any_cons, List.any_nil, List.all_cons, List.all_nil]
  generalize subN a g = xa
  generalize subN b g = xb
  generalize subN c g = xc
  revert xa xb xc
  decide
theorem sincl3 (a b c k : Nat) : sig k (fun g => ind ([a, b, c].any (subN · g))) = sig k (fun g => ind ([a].all (subN · g))) + sig k (fun g => ind ([b].all (subN · g))) + -sig k (fun g => ind ([a, b].all (subN · g))) + sig k (fun g => ind ([c].all (subN · g))) + -sig k (fun g => ind ([a, c].all (subN · g))) + -sig k (fun g => ind ([b, c].all (subN · g))) + sig k (fun g => ind ([a, b, c].all (subN · g))) := by
  rw [sig_congr (fun g => incl3 a b c g)]
  rw [sig_add, sig_sub, sig_sub, sig_add, sig_sub, sig_add]
theorem ch3_1 (a b c : Nat) : chosenF (castN [a, b, c]) 1 = castN [a] := by
  unfold chosenF
  rw [show rangeKs 0 (castN [a, b, c]).length = [0, 1, 2] from rfl]
  simp only [List.foldl_cons, List.foldl_nil]
  rw [if_pos (by decide : (((1 : Int)).fdiv (2 ^ ((0 : Int)).toNat)).fmod 2 = 1), if_neg (by decide : ¬ (((1 : Int)).fdiv (2 ^ ((1 : Int)).toNat)).fmod 2 = 1), if_neg (by decide : ¬ (((1 : Int)).fdiv (2 ^ ((2 : Int)).toNat)).fmod 2 = 1)]
  rfl
theorem ch3_2 (a b c : Nat) : chosenF (castN [a, b, c]) 2 = castN [b] := by
  unfold chosenF
  rw [show rangeKs 0 (castN [a, b, c]).length = [0, 1, 2] from rfl]
  simp only [List.foldl_cons, List.foldl_nil]
  rw [if_neg (by decide : ¬ (((2 : Int)).fdiv (2 ^ ((0 : Int)).toNat)).fmod 2 = 1), if_pos (by decide : (((2 : Int)).fdiv (2 ^ ((1 : Int)).toNat)).fmod 2 = 1), if_neg (by decide : ¬ (((2 : Int)).fdiv (2 ^ ((2 : Int)).toNat)).fmod 2 = 1)]
  rfl
theorem ch3_3 (a b c : Nat) : chosenF (castN [a, b, c]) 3 = castN [a, b] := by
  unfold chosenF
  rw [show rangeKs 0 (castN [a, b, c]).length = [0, 1, 2] from rfl]
  simp only [List.foldl_cons, List.foldl_nil]
  rw [if_pos (by decide : (((3 : Int)).fdiv (2 ^ ((0 : Int)).toNat)).fmod 2 = 1), if_pos (by decide : (((3 : Int)).fdiv (2 ^ ((1 : Int)).toNat)).fmod 2 = 1), if_neg (by decide : ¬ (((3 : Int)).fdiv (2 ^ ((2 : Int)).toNat)).fmod 2 = 1)]
  rfl
theorem ch3_4 (a b c : Nat) : chosenF (castN [a, b, c]) 4 = castN [c] := by
  unfold chosenF
  rw [show rangeKs 0 (castN [a, b, c]).length = [0, 1, 2] from rfl]
  simp only [List.foldl_cons, List.foldl_nil]
  rw [if_neg (by decide : ¬ (((4 : Int)).fdiv (2 ^ ((0 : Int)).toNat)).fmod 2 = 1), if_neg (by decide : ¬ (((4 : Int)).fdiv (2 ^ ((1 : Int)).toNat)).fmod 2 = 1), if_pos (by decide : (((4 : Int)).fdiv (2 ^ ((2 : Int)).toNat)).fmod 2 = 1)]
  rfl
theorem ch3_5 (a b c : Nat) : chosenF (castN [a, b, c]) 5 = castN [a, c] := by
  unfold chosenF
  rw [show rangeKs 0 (castN [a, b, c]).length = [0, 1, 2] from rfl]
  simp only [List.foldl_cons, List.foldl_nil]
  rw [if_pos (by decide : (((5 : Int)).fdiv (2 ^ ((0 : Int)).toNat)).fmod 2 = 1), if_neg (by decide : ¬ (((5 : Int)).fdiv (2 ^ ((1 : Int)).toNat)).fmod 2 = 1), if_pos (by decide : (((5 : Int)).fdiv (2 ^ ((2 : Int)).toNat)).fmod 2 = 1)]
  rfl
theorem ch3_6 (a b c : Nat) : chosenF (castN [a, b, c]) 6 = castN [b, c] := by
  unfold chosenF
  rw [show rangeKs 0 (castN [a, b, c]).length = [0, 1, 2] from rfl]
  simp only [List.foldl_cons, List.foldl_nil]
  rw [if_neg (by decide : ¬ (((6 : Int)).fdiv (2 ^ ((0 : Int)).toNat)).fmod 2 = 1), if_pos (by decide : (((6 : Int)).fdiv (2 ^ ((1 : Int)).toNat)).fmod 2 = 1), if_pos (by decide : (((6 : Int)).fdiv (2 ^ ((2 : Int)).toNat)).fmod 2 = 1)]
  rfl
theorem ch3_7 (a b c : Nat) : chosenF (castN [a, b, c]) 7 = castN [a, b, c] := by
  unfold chosenF
  rw [show rangeKs 0 (castN [a, b, c]).length = [0, 1, 2] from rfl]
  simp only [List.foldl_cons, List.foldl_nil]
  rw [if_pos (by decide : (((7 : Int)).fdiv (2 ^ ((0 : Int)).toNat)).fmod 2 = 1), if_pos (by decide : (((7 : Int)).fdiv (2 ^ ((1 : Int)).toNat)).fmod 2 = 1), if_pos (by decide : (((7 : Int)).fdiv (2 ^ ((2 : Int)).toNat)).fmod 2 = 1)]
  rfl
theorem due3 {a b c : Nat} (ha : a < 16) (hb : b < 16) (hc : c < 16) : dueF (castN [a, b, c]) = [sig 0 (fun g => ind ([a, b, c].any (subN · g))), sig 1 (fun g => ind ([a, b, c].any (subN · g))), sig 2 (fun g => ind ([a, b, c].any (subN · g))), sig 3 (fun g => ind ([a, b, c].any (subN · g)))] := by
  have e : rangeKs 1 (2 ^ (castN [a, b, c]).length - 1) = [1, 2, 3, 4, 5, 6, 7] := rfl
  unfold dueF
  rw [e]
  simp only [List.foldl_cons, List.foldl_nil]
  rw [dueC_vec (ch3_1 a b c), dueC_vec (ch3_2 a b c), dueC_vec (ch3_3 a b c), dueC_vec (ch3_4 a b c), dueC_vec (ch3_5 a b c), dueC_vec (ch3_6 a b c), dueC_vec (ch3_7 a b c)]
  rw [sincl3 a b c 0, sincl3 a b c 1, sincl3 a b c 2, sincl3 a b c 3]
  have ma : ∀ m ∈ [a], m < 16 := (by simp only [List.mem_cons, List.not_mem_nil, or_false]; rintro _ rfl; assumption)
  have mb : ∀ m ∈ [b], m < 16 := (by simp only [List.mem_cons, List.not_mem_nil, or_false]; rintro _ rfl; assumption)
  have mab : ∀ m ∈ [a, b], m < 16 := (by simp only [List.mem_cons, List.not_mem_nil, or_false]; rintro _ (rfl | rfl) <;> assumption)
  have mc : ∀ m ∈ [c], m < 16 := (by simp only [List.mem_cons, List.not_mem_nil, or_false]; rintro _ rfl; assumption)
  have mac : ∀ m ∈ [a, c], m < 16 := (by simp only [List.mem_cons, List.not_mem_nil, or_false]; rintro _ (rfl | rfl) <;> assumption)
  have mbc : ∀ m ∈ [b, c], m < 16 := (by simp only [List.mem_cons, List.not_mem_nil, or_false]; rintro _ (rfl | rfl) <;> assumption)
  have mabc : ∀ m ∈ [a, b, c], m < 16 := (by simp only [List.mem_cons, List.not_mem_nil, or_false]; rintro _ (rfl | rfl | rfl) <;> assumption)
  rw [dlt_odd ma (by simp) (k := 0) (by decide), dlt_odd mb (by simp) (k := 0) (by decide), dlt_even mab (by simp) (k := 0) (by decide), dlt_odd mc (by simp) (k := 0) (by decide), dlt_even mac (by simp) (k := 0) (by decide), dlt_even mbc (by simp) (k := 0) (by decide), dlt_odd mabc (by simp) (k := 0) (by decide)]
  rw [dlt_odd ma (by simp) (k := 1) (by decide), dlt_odd mb (by simp) (k := 1) (by decide), dlt_even mab (by simp) (k := 1) (by decide), dlt_odd mc (by simp) (k := 1) (by decide), dlt_even mac (by simp) (k := 1) (by decide), dlt_even mbc (by simp) (k := 1) (by decide), dlt_odd mabc (by simp) (k := 1) (by decide)]
  rw [dlt_odd ma (by simp) (k := 2) (by decide), dlt_odd mb (by simp) (k := 2) (by decide), dlt_even mab (by simp) (k := 2) (by decide), dlt_odd mc (by simp) (k := 2) (by decide), dlt_even mac (by simp) (k := 2) (by decide), dlt_even mbc (by simp) (k := 2) (by decide), dlt_odd mabc (by simp) (k := 2) (by decide)]
  rw [dlt_odd ma (by simp) (k := 3) (by decide), dlt_odd mb (by simp) (k := 3) (by decide), dlt_even mab (by simp) (k := 3) (by decide), dlt_odd mc (by simp) (k := 3) (by decide), dlt_even mac (by simp) (k := 3) (by decide), dlt_even mbc (by simp) (k := 3) (by decide), dlt_odd mabc (by simp) (k := 3) (by decide)]
  simp only [Int.zero_add]
theorem incl4 (a b c d g : Nat) : ind ([a, b, c, d].any (subN · g)) = ind ([a].all (subN · g)) + ind ([b].all (subN · g)) + -ind ([a, b].all (subN · g)) + ind ([c].all (subN · g)) + -ind ([a, c].all (subN · g)) + -ind ([b, c].all (subN · g)) + ind ([a, b, c].all (subN · g)) + ind ([d].all (subN · g)) + -ind ([a, d].all (subN · g)) + -ind ([b, d].all (subN · g)) + ind ([a, b, d].all (subN · g)) + -ind ([c, d].all (subN · g)) + ind ([a, c, d].all (subN · g)) + ind ([b, c, d].all (subN · g)) + -ind ([a, b, c, d].all (subN · g)) := by
  simp only [List.any_cons, List.any_nil, List.all_cons, List.all_nil]
  generalize subN a g = xa
  generalize subN b g = xb
  generalize subN c g = xc
  generalize subN d g = xd
  revert xa xb xc xd
  decide
theorem sincl4 (a b c d k : Nat) : sig k (fun g => ind ([a, b, c, d].any (subN · g))) = sig k (fun g => ind ([a].all (subN · g))) + sig k (fun g => ind ([b].all (subN · g))) + -sig k (fun g => ind ([a, b].all (subN · g))) + sig k (fun g => ind ([c].all (subN · g))) + -sig k (fun g => ind ([a, c].all (subN · g))) + -sig k (fun g => ind ([b, c].all (subN · g))) + sig k (fun g => ind ([a, b, c].all (subN · g))) + sig k (fun g => ind ([d].all (subN · g))) + -sig k (fun g => ind ([a, d].all (subN · g))) + -sig k (fun g => ind ([b, d].all (subN · g))) + sig k (fun g => ind ([a, b, d].all (subN · g))) + -sig k (fun g => ind ([c, d].all (subN · g))) + sig k (fun g => ind ([a, c, d].all (subN · g))) + sig k (fun g => ind ([b, c, d].all (subN · g))) + -sig k (fun g => ind ([a, b, c, d].all (subN · g))) := by
  rw [sig_congr (fun g => incl4 a b c d g)]
  rw [sig_sub, sig_add, sig_add, sig_sub, sig_add, sig_sub, sig_sub, sig_add, sig_add, sig_sub, sig_sub, sig_add, sig_sub, sig_add]
theorem ch4_1 (a b c d : Nat) : chosenF (castN [a, b, c, d]) 1 = castN [a] := by
  unfold chosenF
  rw [show rangeKs 0 (castN [a, b, c, d]).length = [0, 1, 2, 3] from rfl]
  simp only [List.foldl_cons, List.foldl_nil]
  rw [if_pos (by decide : (((1 : Int)).fdiv (2 ^ ((0 : Int)).toNat)).fmod 2 = 1), if_neg (by decide : ¬ (((1 : Int)).fdiv (2 ^ ((1 : Int)).toNat)).fmod 2 = 1), if_neg (by decide : ¬ (((1 : Int)).fdiv (2 ^ ((2 : Int)).toNat)).fmod 2 = 1), if_neg (by decide : ¬ (((1 : Int)).fdiv (2 ^ ((3 : Int)).toNat)).fmod 2 = 1)]
  rfl
theorem ch4_2 (a b c d : Nat) : chosenF (castN [a, b, c, d]) 2 = castN [b] := by
  unfold chosenF
  rw [show rangeKs 0 (castN [a, b, c, d]).length = [0, 1, 2, 3] from rfl]
  simp only [List.foldl_cons, List.foldl_nil]
  rw [if_neg (by decide : ¬ (((2 : Int)).fdiv (2 ^ ((0 : Int)).toNat)).fmod 2 = 1), if_pos (by decide : (((2 : Int)).fdiv (2 ^ ((1 : Int)).toNat)).fmod 2 = 1), if_neg (by decide : ¬ (((2 : Int)).fdiv (2 ^ ((2 : Int)).toNat)).fmod 2 = 1), if_neg (by decide : ¬ (((2 : Int)).fdiv (2 ^ ((3 : Int)).toNat)).fmod 2 = 1)]
  rfl
theorem ch4_3 (a b c d : Nat) : chosenF (castN [a, b, c, d]) 3 = castN [a, b] := by
  unfold chosenF
  rw [show rangeKs 0 (castN [a, b, c, d]).length = [0, 1, 2, 3] from rfl]
  simp only [List.foldl_cons, List.foldl_nil]
  rw [if_pos (by decide : (((3 : Int)).fdiv (2 ^ ((0 : Int)).toNat)).fmod 2 = 1), if_pos (by decide : (((3 : Int)).fdiv (2 ^ ((1 : Int)).toNat)).fmod 2 = 1), if_neg (by decide : ¬ (((3 : Int)).fdiv (2 ^ ((2 : Int)).toNat)).fmod 2 = 1), if_neg (by decide : ¬ (((3 : Int)).fdiv (2 ^ ((3 : Int)).toNat)).fmod 2 = 1)]
  rfl
theorem ch4_4 (a b c d : Nat) : chosenF (castN [a, b, c, d]) 4 = castN [c] := by
  unfold chosenF
  rw [show rangeKs 0 (castN [a, b, c, d]).length = [0, 1, 2, 3] from rfl]
  simp only [List.foldl_cons, List.foldl_nil]
  rw [if_neg (by decide : ¬ (((4 : Int)).fdiv (2 ^ ((0 : Int)).toNat)).fmod 2 = 1), if_neg (by decide : ¬ (((4 : Int)).fdiv (2 ^ ((1 : Int)).toNat)).fmod 2 = 1), if_pos (by decide : (((4 : Int)).fdiv (2 ^ ((2 : Int)).toNat)).fmod 2 = 1), if_neg (by decide : ¬ (((4 : Int)).fdiv (2 ^ ((3 : Int)).toNat)).fmod 2 = 1)]
  rfl
theorem ch4_5 (a b c d : Nat) : chosenF (castN [a, b, c, d]) 5 = castN [a, c] := by
  unfold chosenF
  rw [show rangeKs 0 (castN [a, b, c, d]).length = [0, 1, 2, 3] from rfl]
  simp only [List.foldl_cons, List.foldl_nil]
  rw [if_pos (by decide : (((5 : Int)).fdiv (2 ^ ((0 : Int)).toNat)).fmod 2 = 1), if_neg (by decide : ¬ (((5 : Int)).fdiv (2 ^ ((1 : Int)).toNat)).fmod 2 = 1), if_pos (by decide : (((5 : Int)).fdiv (2 ^ ((2 : Int)).toNat)).fmod 2 = 1), if_neg (by decide : ¬ (((5 : Int)).fdiv (2 ^ ((3 : Int)).toNat)).fmod 2 = 1)]
  rfl
theorem ch4_6 (a b c d : Nat) : chosenF (castN [a, b, c, d]) 6 = castN [b, c] := by
  unfold chosenF
  rw [show rangeKs 0 (castN [a, b, c, d]).length = [0, 1, 2, 3] from rfl]
  simp only [List.foldl_cons, List.foldl_nil]
  rw [if_neg (by decide : ¬ (((6 : Int)).fdiv (2 ^ ((0 : Int)).toNat)).fmod 2 = 1), if_pos (by decide : (((6 : Int)).fdiv (2 ^ ((1 : Int)).toNat)).fmod 2 = 1), if_pos (by decide : (((6 : Int)).fdiv (2 ^ ((2 : Int)).toNat)).fmod 2 = 1), if_neg (by decide : ¬ (((6 : Int)).fdiv (2 ^ ((3 : Int)).toNat)).fmod 2 = 1)]
  rfl
theorem ch4_7 (a b c d : Nat) : chosenF (castN [a, b, c, d]) 7 = castN [a, b, c] := by
  unfold chosenF
  rw [show rangeKs 0 (castN [a, b, c, d]).length = [0, 1, 2, 3] from rfl]
  simp only [List.foldl_cons, List.foldl_nil]
  rw [if_pos (by decide : (((7 : Int)).fdiv (2 ^ ((0 : Int)).toNat)).fmod 2 = 1), if_pos (by decide : (((7 : Int)).fdiv (2 ^ ((1 : Int)).toNat)).fmod 2 = 1), if_pos (by decide : (((7 : Int)).fdiv (2 ^ ((2 : Int)).toNat)).fmod 2 = 1), if_neg (by decide : ¬ (((7 : Int)).fdiv (2 ^ ((3 : Int)).toNat)).fmod 2 = 1)]
  rfl
theorem ch4_8 (a b c d : Nat) : chosenF (castN [a, b, c, d]) 8 = castN [d] := by
  unfold chosenF
  rw [show rangeKs 0 (castN [a, b, c, d]).length = [0, 1, 2, 3] from rfl]
  simp only [List.foldl_cons, List.foldl_nil]
  rw [if_neg (by decide : ¬ (((8 : Int)).fdiv (2 ^ ((0 : Int)).toNat)).fmod 2 = 1), if_neg (by decide : ¬ (((8 : Int)).fdiv (2 ^ ((1 : Int)).toNat)).fmod 2 = 1), if_neg (by decide : ¬ (((8 : Int)).fdiv (2 ^ ((2 : Int)).toNat)).fmod 2 = 1), if_pos (by decide : (((8 : Int)).fdiv (2 ^ ((3 : Int)).toNat)).fmod 2 = 1)]
  rfl
theorem ch4_9 (a b c d : Nat) : chosenF (castN [a, b, c, d]) 9 = castN [a, d] := by
  unfold chosenF
  rw [show rangeKs 0 (castN [a, b, c, d]).length = [0, 1, 2, 3] from rfl]
  simp only [List.foldl_cons, List.foldl_nil]
  rw [if_pos (by decide : (((9 : Int)).fdiv (2 ^ ((0 : Int)).toNat)).fmod 2 = 1), if_neg (by decide : ¬ (((9 : Int)).fdiv (2 ^ ((1 : Int)).toNat)).fmod 2 = 1), if_neg (by decide : ¬ (((9 : Int)).fdiv (2 ^ ((2 : Int)).toNat)).fmod 2 = 1), if_pos (by decide : (((9 : Int)).fdiv (2 ^ ((3 : Int)).toNat)).fmod 2 = 1)]
  rfl
theorem ch4_10 (a b c d : Nat) : chosenF (castN [a, b, c, d]) 10 = castN [b, d] := by
  unfold chosenF
  rw [show rangeKs 0 (castN [a, b, c, d]).length = [0, 1, 2, 3] from rfl]
  simp only [List.foldl_cons, List.foldl_nil]
  rw [if_neg (by decide : ¬ (((10 : Int)).fdiv (2 ^ ((0 : Int)).toNat)).fmod 2 = 1), if_pos (by decide : (((10 : Int)).fdiv (2 ^ ((1 : Int)).toNat)).fmod 2 = 1), if_neg (by decide : ¬ (((10 : Int)).fdiv (2 ^ ((2 : Int)).toNat)).fmod 2 = 1), if_pos (by decide : (((10 : Int)).fdiv (2 ^ ((3 : Int)).toNat)).fmod 2 = 1)]
  rfl
theorem ch4_11 (a b c d : Nat) : chosenF (castN [a, b, c, d]) 11 = castN [a, b, d] := by
  unfold chosenF
  rw [show rangeKs 0 (castN [a, b, c, d]).length = [0, 1, 2, 3] from rfl]
  simp only [List.foldl_cons, List.foldl_nil]
  rw [if_pos (by decide : (((11 : Int)).fdiv (2 ^ ((0 : Int)).toNat)).fmod 2 = 1), if_pos (by decide : (((11 : Int)).fdiv (2 ^ ((1 : Int)).toNat)).fmod 2 = 1), if_neg (by decide : ¬ (((11 : Int)).fdiv (2 ^ ((2 : Int)).toNat)).fmod 2 = 1), if_pos (by decide : (((11 : Int)).fdiv (2 ^ ((3 : Int)).toNat)).fmod 2 = 1)]
  rfl
theorem ch4_12 (a b c d : Nat) : chosenF (castN [a, b, c, d]) 12 = castN [c, d] := by
  unfold chosenF
  rw [show rangeKs 0 (castN [a, b, c, d]).length = [0, 1, 2, 3] from rfl]
  simp only [List.foldl_cons, List.foldl_nil]
  rw [if_neg (by decide : ¬ (((12 : Int)).fdiv (2 ^ ((0 : Int)).toNat)).fmod 2 = 1), if_neg (by decide : ¬ (((12 : Int)).fdiv (2 ^ ((1 : Int)).toNat)).fmod 2 = 1), if_pos (by decide : (((12 : Int)).fdiv (2 ^ ((2 : Int)).toNat)).fmod 2 = 1), if_pos (by decide : (((12 : Int)).fdiv (2 ^ ((3 : Int)).toNat)).fmod 2 = 1)]
  rfl
theorem ch4_13 (a b c d : Nat) : chosenF (castN [a, b, c, d]) 13 = castN [a, c, d] := by
  unfold chosenF
  rw [show rangeKs 0 (castN [a, b, c, d]).length = [0, 1, 2, 3] from rfl]
  simp only [List.foldl_cons, List.foldl_nil]
  rw [if_pos (by decide : (((13 : Int)).fdiv (2 ^ ((0 : Int)).toNat)).fmod 2 = 1), if_neg (by decide : ¬ (((13 : Int)).fdiv (2 ^ ((1 : Int)).toNat)).fmod 2 = 1), if_pos (by decide : (((13 : Int)).fdiv (2 ^ ((2 : Int)).toNat)).fmod 2 = 1), if_pos (by decide : (((13 : Int)).fdiv (2 ^ ((3 : Int)).toNat)).fmod 2 = 1)]
  rfl
theorem ch4_14 (a b c d : Nat) : chosenF (castN [a, b, c, d]) 14 = castN [b, c, d] := by
  unfold chosenF
  rw [show rangeKs 0 (castN [a, b, c, d]).length = [0, 1, 2, 3] from rfl]
  simp only [List.foldl_cons, List.foldl_nil]
  rw [if_neg (by decide : ¬ (((14 : Int)).fdiv (2 ^ ((0 : Int)).toNat)).fmod 2 = 1), if_pos (by decide : (((14 : Int)).fdiv (2 ^ ((1 : Int)).toNat)).fmod 2 = 1), if_pos (by decide : (((14 : Int)).fdiv (2 ^ ((2 : Int)).toNat)).fmod 2 = 1), if_pos (by decide : (((14 : Int)).fdiv (2 ^ ((3 : Int)).toNat)).fmod 2 = 1)]
  rfl
theorem ch4_15 (a b c d : Nat) : chosenF (castN [a, b, c, d]) 15 = castN [a, b, c, d] := by
  unfold chosenF
  rw [show rangeKs 0 (castN [a, b, c, d]).length = [0, 1, 2, 3] from rfl]
  simp only [List.foldl_cons, List.foldl_nil]
  rw [if_pos (by decide : (((15 : Int)).fdiv (2 ^ ((0 : Int)).toNat)).fmod 2 = 1), if_pos (by decide : (((15 : Int)).fdiv (2 ^ ((1 : Int)).toNat)).fmod 2 = 1), if_pos (by decide : (((15 : Int)).fdiv (2 ^ ((2 : Int)).toNat)).fmod 2 = 1), if_pos (by decide : (((15 : Int)).fdiv (2 ^ ((3 : Int)).toNat)).fmod 2 = 1)]
  rfl
theorem due4 {a b c d : Nat} (ha : a < 16) (hb : b < 16) (hc : c < 16) (hd : d < 16) : dueF (castN [a, b, c, d]) = [sig 0 (fun g => ind ([a, b, c, d].any (subN · g))), sig 1 (fun g => ind ([a, b, c, d].any (subN · g))), sig 2 (fun g => ind ([a, b, c, d].any (subN · g))), sig 3 (fun g => ind ([a, b, c, d].any (subN · g)))] := by
  have e : rangeKs 1 (2 ^ (castN [a, b, c, d]).length - 1) = [1, 2, 3, 4, 5, 6, 7, 8, 9, 10, 11, 12, 13, 14, 15] := rfl
  unfold dueF
  rw [e]
  simp only [List.foldl_cons, List.foldl_nil]
  rw [dueC_vec (ch4_1 a b c d), dueC_vec (ch4_2 a b c d), dueC_vec (ch4_3 a b c d), dueC_vec (ch4_4 a b c d), dueC_vec (ch4_5 a b c d), dueC_vec (ch4_6 a b c d), dueC_vec (ch4_7 a b c d), dueC_vec (ch4_8 a b c d), dueC_vec (ch4_9 a b c d), dueC_vec (ch4_10 a b c d), dueC_vec (ch4_11 a b c d), dueC_vec (ch4_12 a b c d), dueC_vec (ch4_13 a b c d), dueC_vec (ch4_14 a b c d), dueC_vec (ch4_15 a b c d)]
  rw [sincl4 a b c d 0, sincl4 a b c d 1, sincl4 a b c d 2, sincl4 a b c d 3]
  have ma : ∀ m ∈ [a], m < 16 := (by simp only [List.mem_cons, List.not_mem_nil, or_false]; rintro _ rfl; assumption)
  have mb : ∀ m ∈ [b], m < 16 := (by simp only [List.mem_cons, List.not_mem_nil, or_false]; rintro _ rfl; assumption)
  have mab : ∀ m ∈ [a, b], m < 16 := (by simp only [List.mem_cons, List.not_mem_nil, or_false]; rintro _ (rfl | rfl) <;> assumption)
  have mc : ∀ m ∈ [c], m < 16 := (by simp only [List.mem_cons, List.not_mem_nil, or_false]; rintro _ rfl; assumption)
  have mac : ∀ m ∈ [a, c], m < 16 := (by simp only [List.mem_cons, List.not_mem_nil, or_false]; rintro _ (rfl | rfl) <;> assumption)
  have mbc : ∀ m ∈ [b, c], m < 16 := (by simp only [List.mem_cons, List.not_mem_nil, or_false]; rintro _ (rfl | rfl) <;> assumption)
  have mabc : ∀ m ∈ [a, b, c], m < 16 := (by simp only [List.mem_cons, List.not_mem_nil, or_false]; rintro _ (rfl | rfl | rfl) <;> assumption)
  have md : ∀ m ∈ [d], m < 16 := (by simp only [List.mem_cons, List.not_mem_nil, or_false]; rintro _ rfl; assumption)
  have mad : ∀ m ∈ [a, d], m < 16 := (by simp only [List.mem_cons, List.not_mem_nil, or_false]; rintro _ (rfl | rfl) <;> assumption)
  have mbd : ∀ m ∈ [b, d], m < 16 := (by simp only [List.mem_cons, List.not_mem_nil, or_false]; rintro _ (rfl | rfl) <;> assumption)
  have mabd : ∀ m ∈ [a, b, d], m < 16 := (by simp only [List.mem_cons, List.not_mem_nil, or_false]; rintro _ (rfl | rfl | rfl) <;> assumption)
  have mcd : ∀ m ∈ [c, d], m < 16 := (by simp only [List.mem_cons, List.not_mem_nil, or_false]; rintro _ (rfl | rfl) <;> assumption)
  have macd : ∀ m ∈ [a, c, d], m < 16 := (by simp only [List.mem_cons, List.not_mem_nil, or_false]; rintro _ (rfl | rfl | rfl) <;> assumption)
  have mbcd : ∀ m ∈ [b, c, d], m < 16 := (by simp only [List.mem_cons, List.not_mem_nil, or_false]; rintro _ (rfl | rfl | rfl) <;> assumption)
  have mabcd : ∀ m ∈ [a, b, c, d], m < 16 := (by simp only [List.mem_cons, List.not_mem_nil, or_false]; rintro _ (rfl | rfl | rfl | rfl) <;> assumption)
  rw [dlt_odd ma (by simp) (k := 0) (by decide), dlt_odd mb (by simp) (k := 0) (by decide), dlt_even mab (by simp) (k := 0) (by decide), dlt_odd mc (by simp) (k := 0) (by decide), dlt_even mac (by simp) (k := 0) (by decide), dlt_even mbc (by simp) (k := 0) (by decide), dlt_odd mabc (by simp) (k := 0) (by decide), dlt_odd md (by simp) (k := 0) (by decide), dlt_even mad (by simp) (k := 0) (by decide), dlt_even mbd (by simp) (k := 0) (by decide), dlt_odd mabd (by simp) (k := 0) (by decide), dlt_even mcd (by simp) (k := 0) (by decide), dlt_odd macd (by simp) (k := 0) (by decide), dlt_odd mbcd (by simp) (k := 0) (by decide), dlt_even mabcd (by simp) (k := 0) (by decide)]
  rw [dlt_odd ma (by simp) (k := 1) (by decide), dlt_odd mb (by simp) (k := 1) (by decide), dlt_even mab (by simp) (k := 1) (by decide), dlt_odd mc (by simp) (k := 1) (by decide), dlt_even mac (by simp) (k := 1) (by decide), dlt_even mbc (by simp) (k := 1) (by decide), dlt_odd mabc (by simp) (k := 1) (by decide), dlt_odd md (by simp) (k := 1) (by decide), dlt_even mad (by simp) (k := 1) (by decide), dlt_even mbd (by simp) (k := 1) (by decide), dlt_odd mabd (by simp) (k := 1) (by decide), dlt_even mcd (by simp) (k := 1) (by decide), dlt_odd macd (by simp) (k := 1) (by decide), dlt_odd mbcd (by simp) (k := 1) (by decide), dlt_even mabcd (by simp) (k := 1) (by decide)]
  rw [dlt_odd ma (by simp) (k := 2) (by decide), dlt_odd mb (by simp) (k := 2) (by decide), dlt_even mab (by simp) (k := 2) (by decide), dlt_odd mc (by simp) (k := 2) (by decide), dlt_even mac (by simp) (k := 2) (by decide), dlt_even mbc (by simp) (k := 2) (by decide), dlt_odd mabc (by simp) (k := 2) (by decide), dlt_odd md (by simp) (k := 2) (by decide), dlt_even mad (by simp) (k := 2) (by decide), dlt_even mbd (by simp) (k := 2) (by decide), dlt_odd mabd (by simp) (k := 2) (by decide), dlt_even mcd (by simp) (k := 2) (by decide), dlt_odd macd (by simp) (k := 2) (by decide), dlt_odd mbcd (by simp) (k := 2) (by decide), dlt_even mabcd (by simp) (k := 2) (by decide)]
  rw [dlt_odd ma (by simp) (k := 3) (by decide), dlt_odd mb (by simp) (k := 3) (by decide), dlt_even mab (by simp) (k := 3) (by decide), dlt_odd mc (by simp) (k := 3) (by decide), dlt_even mac (by simp) (k := 3) (by decide), dlt_even mbc (by simp) (k := 3) (by decide), dlt_odd mabc (by simp) (k := 3) (by decide), dlt_odd md (by simp) (k := 3) (by decide), dlt_even mad (by simp) (k := 3) (by decide), dlt_even mbd (by simp) (k := 3) (by decide), dlt_odd mabd (by simp) (k := 3) (by decide), dlt_even mcd (by simp) (k := 3) (by decide), dlt_odd macd (by simp) (k := 3) (by decide), dlt_odd mbcd (by simp) (k := 3) (by decide), dlt_even mabcd (by simp) (k := 3) (by decide)]
  simp only [Int.zero_add]
end Mine
end

-- part Px
section
open PySem PySem.W PySem.Calls PyProof.Rows PySem.Builtin PySem.Builtin.Str
set_option Elab.async false
set_option maxRecDepth 100000
namespace Mine
def preL : List Nat → List Nat → Bool
  | [], _ => true
  | c :: r, d :: s => c == d && preL r s
  | _ :: _, [] => false
theorem preL_eq : ∀ (y l : List Nat), preL y l = (l.take y.length == y)
  | [], l => by simp [preL]
  | c :: r, [] => by simp [preL]
  | c :: r, d :: s => by
    rw [preL, preL_eq r s, List.length_cons, List.take_succ_cons, List.cons_beq_cons]
    congr 1
    rw [Bool.eq_iff_iff, beq_iff_eq, beq_iff_eq]
    exact eq_comm
theorem subAt_fast (s sub : Str) (i : Nat) : subAt s sub i = preL sub.cps.toList (s.cps.toList.drop i) := by
  rw [preL_eq]
  unfold subAt
  rw [Bool.eq_iff_iff, beq_iff_eq, beq_iff_eq]
  constructor
  · intro h
    have h2 := congrArg Array.toList h
    rw [Array.toList_extract, List.extract_eq_take_drop] at h2
    have e : i + sub.length - i = sub.cps.toList.length := by rw [Nat.add_sub_cancel_left]; rfl
    rw [e] at h2
    exact h2
  · intro h
    apply Array.toList_inj.mp
    rw [Array.toList_extract, List.extract_eq_take_drop]
    have e : i + sub.length - i = sub.cps.toList.length := by rw [Nat.add_sub_cancel_left]; rfl
    rw [e]
    exact h
def occN (y : List Nat) (yl hi limit : Nat) : Nat → List Nat → Nat → Nat → Nat → List Nat
  | 0, _, _, _, _ => []
  | n + 1, suf, i, cnt, free => if Nat.blt cnt limit && (Nat.ble free i && (Nat.ble (i + yl) hi && preL y suf)) then i :: occN y yl hi limit n suf.tail (i + 1) (cnt + 1) (i + yl) else occN y yl hi limit n suf.tail (i + 1) cnt free
theorem occ_loop (s sub : Str) (hi limit : Nat) : ∀ (n i : Nat) (acc : Array Nat) (free : Nat), (forIn (List.range' i n) (acc, free) (StrLaws.occBody s sub hi limit)).run.fst.toList = acc.toList ++ occN sub.cps.toList sub.length hi limit n (s.cps.toList.drop i) i acc.size free
  | 0, i, acc, free => by simp [occN]
  | n + 1, i, acc, free => by
    rw [List.range'_succ, List.forIn_cons]
    have ed : (s.cps.toList.drop i).tail = s.cps.toList.drop (i + 1) := by simp
    rw [occN, ed]
    unfold StrLaws.occBody
    by_cases hc : ((acc.size < limit ∧ free ≤ i) ∧ i + sub.length ≤ hi) ∧ subAt s sub i = true
    · rw [if_pos hc, if_pos (by
        rw [← subAt_fast]
        simp only [Bool.and_eq_true, Nat.blt_eq, Nat.ble_eq]
        exact ⟨hc.1.1.1, hc.1.1.2, hc.1.2, hc.2⟩)]
      refine (occ_loop s sub hi limit n (i + 1) (acc.push i) (i + sub.length)).trans ?_
      simp
    · rw [if_neg hc, if_neg (by
        rw [← subAt_fast]
        simp only [Bool.and_eq_true, Nat.blt_eq, Nat.ble_eq]
        exact fun h => hc ⟨⟨⟨h.1, h.2.1⟩, h.2.2.1⟩, h.2.2.2⟩)]
      exact occ_loop s sub hi limit n (i + 1) acc free
def occF (s sub : Str) (lo hi limit : Nat) : List Nat := occN sub.cps.toList sub.length hi limit (hi + 1 - lo) (s.cps.toList.drop lo) lo 0 lo
theorem occ_fast (s sub : Str) (lo hi limit : Nat) : occurrences s sub lo hi limit = occF s sub lo hi limit := by
  rw [StrLaws.occ_eq, occ_loop]
  rfl
def dots : Str := ⟨#[46, 46, 46]⟩
theorem dots_is : Str.ofString "..." = dots := by decide
def splitF (x : Str) : List Str := if Nat.blt x.length 3 then [x] else if (occF x dots 0 x.length (x.length + 1)).isEmpty then [x] else partsBetween x (occF x dots 0 x.length (x.length + 1)) 3
theorem kind_pos (x : Str) : ¬ Builtin.Str.strKind x < 1 := by
  unfold Builtin.Str.strKind
  split
  · decide
  · split <;> decide
theorem split_fast (x : Str) : Txt.split x (Str.ofString "...") = splitF x := by
  unfold Txt.split splitF
  rw [dots_is]
  have e1 : dots.length = 3 := rfl
  have e2 : Builtin.Str.strKind dots = 1 := by decide +kernel
  have e3 : decide (Builtin.Str.strKind x < Builtin.Str.strKind dots) = false := by rw [e2]; exact decide_eq_false (kind_pos x)
  rw [e3, e1, Bool.or_false, occ_fast]
  have e4 : decide (x.length < 3) = Nat.blt x.length 3 := by
    rw [Bool.eq_iff_iff, decide_eq_true_eq, Nat.blt_eq]
  rw [e4]
def startsF (x y : Str) : Bool := Nat.ble y.length x.length && preL y.cps.toList x.cps.toList
def endsF (x y : Str) : Bool := Nat.ble y.length x.length && preL y.cps.toList (x.cps.toList.drop (x.length - y.length))
theorem starts_fast (x y : Str) : Txt.startswith x y = startsF x y := by
  unfold Txt.startswith startsF
  rw [subAt_fast, List.drop_zero, Nat.zero_add]
  congr 1
  rw [Bool.eq_iff_iff, decide_eq_true_eq, Nat.ble_eq]
theorem ends_fast (x y : Str) : Txt.endswith x y = endsF x y := by
  unfold Txt.endswith endsF
  rw [subAt_fast, Nat.zero_add]
  congr 1
  rw [Bool.eq_iff_iff, decide_eq_true_eq, Nat.ble_eq]
def findInF (x y : Str) (i j : Int) : Int := match occF x y (fromIndex x.length i) (min (fromIndex x.length j) x.length) 1 with | k :: _ => (k : Int) | [] => -1
theorem findIn_fast (x y : Str) (i j : Int) : findIn x y i j = findInF x y i j := by
  unfold findIn findInF
  rw [occ_fast]
  try rfl
def findAllF (got : Str) (e : Int) : Int → List Str → Bool
  | _, [] => true
  | p, w :: ws => if findInF got w p e < 0 then false else findAllF got e (findInF got w p e + w.length) ws
theorem findAll_fast (got : Str) (e : Int) : ∀ (ws : List Str) (p : Int), findAll got e p ws = findAllF got e p ws
  | [], p => rfl
  | w :: ws, p => by rw [findAll, findAllF, findIn_fast, findAll_fast got e ws]
def emCF (got : Str) (p e : Int) (ws : List Str) : Bool := if p > e then false else findAllF got e p ws
def emBF (got a : Str) (mid : List Str) (b : Str) : Bool :=
  if a.length ≠ 0 then
    if startsF got a then
      if b.length ≠ 0 then (if endsF got b then emCF got a.length (got.length - b.length) mid else false) else emCF got a.length got.length (mid ++ [b])
    else false
  else
    if b.length ≠ 0 then (if endsF got b then emCF got 0 (got.length - b.length) (a :: mid) else false) else emCF got 0 got.length (a :: (mid ++ [b]))
theorem emC_fast (got : Str) (p e : Int) (ws : List Str) : emC got p e ws = emCF got p e ws := by unfold emC emCF; rw [findAll_fast]
theorem emB_fast (got a : Str) (mid : List Str) (b : Str) : emB got a mid b = emBF got a mid b := by
  unfold emB emBF
  simp only [emC_fast, starts_fast, ends_fast]
def emFF (want got : Str) : Bool :=
  if (occF want dots 0 want.length 1).isEmpty then want == got else match splitF want with
    | a :: r => emBF got a r.dropLast (r.getLastD a)
    | [] => false
theorem emF_fast (want got : Str) : emF want got = emFF want got := by
  unfold emF emFF
  rw [split_fast, occ_fast, dots_is]
  congr 1
  cases splitF want with
  | nil => rfl
  | cons a r => exact emB_fast got a r.dropLast (r.getLastD a)
theorem lst_L (g : Int) (sign : Str) : lstF g sign = ofL (crlf4 (cellF g 0 sign).cps.toList (cellF g 1 sign).cps.toList (cellF g 2 sign).cps.toList (cellF g 3 sign).cps.toList) := by
  apply str_ext
  have e : (Str.ofString "\r\n").cps.toList = [13, 10] := by decide
  unfold lstF Txt.join
  rw [StrLaws.glued_eq_join]
  simp [Str.join, crlf4, app_L, e, ofL]
end Mine
end

-- part Pu
section
open PySem PySem.W PySem.Calls PyProof.Rows PySem.Builtin PySem.Builtin.Str
set_option Elab.async false
set_option maxRecDepth 100000
namespace Mine
def rowL (a b c : Nat) (k : Nat) : List Nat := (rowC (a : Int) (b : Int) ⟨#[c]⟩ k).cps.toList
def celL (g c : Nat) (k : Nat) : List Nat := (cellF (g : Int) k ⟨#[c]⟩).cps.toList
def canL (a b c : Nat) : Str := ofL (crlf4 (rowL a b c 0) (rowL a b c 1) (rowL a b c 2) (rowL a b c 3))
def lstL (g c : Nat) : Str := ofL (crlf4 (celL g c 0) (celL g c 1) (celL g c 2) (celL g c 3))
def okF (x : Str) : Bool := Nat.ble x.length 100 && ((occF x dots 0 x.length 1).isEmpty || Nat.ble 2 (splitF x).length)
theorem ok_of {x : Str} (h : okF x = true) : x.length ≤ 100 ∧ ((Builtin.Str.occurrences x (Str.ofString "...") 0 x.length 1).isEmpty = false → 2 ≤ (Txt.split x (Str.ofString "...")).length) := by
  unfold okF at h
  rw [Bool.and_eq_true, Bool.or_eq_true, Nat.ble_eq, Nat.ble_eq] at h
  refine ⟨h.1, fun he => ?_⟩
  rw [occ_fast, dots_is] at he
  rw [split_fast]
  rcases h.2 with h2 | h2
  · rw [he] at h2; cases h2
  · exact h2
theorem em_97_0 : ∀ (a : Fin 15) (g : Fin 16), emFF (canL a.val 0 97) (lstL g.val 97) = subN (1 + a.val) g.val := by decide +kernel
theorem em_97_1 : ∀ (a : Fin 15) (g : Fin 16), emFF (canL a.val 1 97) (lstL g.val 97) = subN (1 + a.val) g.val := by decide +kernel
theorem ok_97 : ∀ (a : Fin 15) (b : Fin 2), okF (canL a.val b.val 97) = true := by decide +kernel
theorem em_42_0 : ∀ (a : Fin 15) (g : Fin 16), emFF (canL a.val 0 42) (lstL g.val 42) = subN (1 + a.val) g.val := by decide +kernel
theorem em_42_1 : ∀ (a : Fin 15) (g : Fin 16), emFF (canL a.val 1 42) (lstL g.val 42) = subN (1 + a.val) g.val := by decide +kernel
theorem ok_42 : ∀ (a : Fin 15) (b : Fin 2), okF (canL a.val b.val 42) = true := by decide +kernel
theorem em_91_0 : ∀ (a : Fin 15) (g : Fin 16), emFF (canL a.val 0 91) (lstL g.val 91) = subN (1 + a.val) g.val := by decide +kernel
theorem em_91_1 : ∀ (a : Fin 15) (g : Fin 16), emFF (canL a.val 1 91) (lstL g.val 91) = subN (1 + a.val) g.val := by decide +kernel
theorem ok_91 : ∀ (a : Fin 15) (b : Fin 2), okF (canL a.val b.val 91) = true := by decide +kernel
theorem em_92_0 : ∀ (a : Fin 15) (g : Fin 16), emFF (canL a.val 0 92) (lstL g.val 92) = subN (1 + a.val) g.val := by decide +kernel
theorem em_92_1 : ∀ (a : Fin 15) (g : Fin 16), emFF (canL a.val 1 92) (lstL g.val 92) = subN (1 + a.val) g.val := by decide +kernel
theorem ok_92 : ∀ (a : Fin 15) (b : Fin 2), okF (canL a.val b.val 92) = true := by decide +kernel
end Mine
end

-- part Pv
section
open PySem PySem.W PySem.Calls PyProof.Rows PySem.Builtin PySem.Builtin.Str
set_option Elab.async false
set_option maxRecDepth 100000
namespace Mine
theorem sign_is (total : Int) : signF total = ⟨#[97]⟩ ∨ signF total = ⟨#[42]⟩ ∨ signF total = ⟨#[91]⟩ ∨ signF total = ⟨#[92]⟩ := by
  rcases sign_cases total with h | h | h | h
  · exact .inl (h.trans (by decide))
  · exact .inr (.inl (h.trans (by decide)))
  · exact .inr (.inr (.inl (h.trans (by decide))))
  · exact .inr (.inr (.inr (h.trans (by decide))))
theorem nat_of {x : Int} {n : Nat} (h0 : 0 ≤ x) (h1 : x < (n : Int)) : ∃ y : Fin n, x = (y.val : Int) := ⟨⟨x.toNat, by omega⟩, by simp only []; omega⟩
theorem fin_of (x : Int) {n : Nat} (hn : 0 < (n : Int)) : ∃ y : Fin n, x.fmod (n : Int) = (y.val : Int) := nat_of (Int.fmod_nonneg_of_pos _ hn) (Int.fmod_lt_of_pos _ hn)
theorem sign_ok (total : Int) : SignOk (signF total) := by
  rcases sign_is total with h | h | h | h <;> rw [h]
  · exact ⟨97, rfl, by decide⟩
  · exact ⟨42, rfl, by decide⟩
  · exact ⟨91, rfl, by decide⟩
  · exact ⟨92, rfl, by decide⟩
theorem pat_can (total x : Int) : patF total x = canF (x.fmod 15) ((x.fdiv 15).fmod 2) (signF total) := by
  have h := send_can (x := x) (sign_ok total)
  unfold patF
  rcases fmod2 total with e | e <;> rw [e]
  · exact h.1
  · exact h.2
theorem em_can (total : Int) (a : Fin 15) (b : Fin 2) (g : Fin 16) : emF (canF (a.val : Int) (b.val : Int) (signF total)) (lstF (g.val : Int) (signF total)) = subN (1 + a.val) g.val := by
  rw [emF_fast, can_L, lst_L]
  have hb : b = 0 ∨ b = 1 := by omega
  rcases sign_is total with h | h | h | h <;> rw [h] <;> rcases hb with rfl | rfl
  · exact em_97_0 a g
  · exact em_97_1 a g
  · exact em_42_0 a g
  · exact em_42_1 a g
  · exact em_91_0 a g
  · exact em_91_1 a g
  · exact em_92_0 a g
  · exact em_92_1 a g
theorem pat_ok (total x : Int) : PatOk (patF total x) := by
  rw [pat_can]
  obtain ⟨a, ha⟩ := fin_of x (n := 15) (by decide)
  obtain ⟨b, hb⟩ := fin_of (x.fdiv 15) (n := 2) (by decide)
  have ha' : x.fmod 15 = (a.val : Int) := ha
  have hb' : (x.fdiv 15).fmod 2 = (b.val : Int) := hb
  rw [ha', hb', can_L]
  rcases sign_is total with h | h | h | h <;> rw [h]
  · exact ok_of (ok_97 a b)
  · exact ok_of (ok_42 a b)
  · exact ok_of (ok_91 a b)
  · exact ok_of (ok_92 a b)
def maskF (x : Int) : Nat := (1 + x.fmod 15).toNat
theorem mask_lt (x : Int) : maskF x < 16 := by
  have h0 := Int.fmod_nonneg_of_pos x (by decide : (0 : Int) < 15)
  have h1 := Int.fmod_lt_of_pos x (by decide : (0 : Int) < 15)
  unfold maskF; omega
theorem mask_cast (x : Int) : (maskF x : Int) = 1 + x.fmod 15 := by
  have h0 := Int.fmod_nonneg_of_pos x (by decide : (0 : Int) < 15)
  unfold maskF; omega
theorem em_mask (total x : Int) (g : Fin 16) : emF (patF total x) (lstF (g.val : Int) (signF total)) = subN (maskF x) g.val := by
  rw [pat_can]
  obtain ⟨a, ha⟩ := fin_of x (n := 15) (by decide)
  obtain ⟨b, hb⟩ := fin_of (x.fdiv 15) (n := 2) (by decide)
  have ha' : x.fmod 15 = (a.val : Int) := ha
  have hb' : (x.fdiv 15).fmod 2 = (b.val : Int) := hb
  have hm : maskF x = 1 + a.val := by unfold maskF; rw [ha']; omega
  rw [ha', hb', hm]
  exact em_can total a b g
theorem car_mask (total : Int) {g : Nat} (hg : g < 16) : ∀ ns : List Int, carF total ns g = (ns.map maskF).any (subN · g)
  | [] => rfl
  | x :: r => by
    have ih := car_mask total hg r
    unfold carF at ih ⊢
    rw [List.map_cons, List.map_cons, List.any_cons, List.any_cons, ih]
    congr 1
    exact em_mask total x ⟨g, hg⟩
theorem tips_congr {car car' : Nat → Bool} (h : ∀ g, g < 16 → car g = car' g) : tipsF car = tipsF car' := by
  have key : ∀ (k : Nat), k < 4 → (rangeKs 0 16).map (tau car k) = (rangeKs 0 16).map (tau car' k) := fun k hk => List.map_congr_left fun g hg => by
    obtain ⟨h0, h1⟩ := mem_rangeKs hg
    have h2 := xor_in' (g := g) (k := (k : Int)) h0 h1 (by omega) (by omega)
    have h3 : (Builtin.bitXor g (1 * 2 ^ k)).toNat < 16 := by
      have : ((k : Int)).toNat = k := rfl
      rw [this] at h2
      omega
    unfold tau
    rw [h _ (by omega : g.toNat < 16), h _ h3]
  rw [tips_vec, tips_vec, key 0 (by decide), key 1 (by decide), key 2 (by decide), key 3 (by decide)]
theorem mono_any (ms : List Nat) : Mono fun g => ms.any (subN · g) := by
  intro g g' h hc
  obtain ⟨m, hm, h1⟩ := List.any_eq_true.mp hc
  exact List.any_eq_true.mpr ⟨m, hm, subN_trans h1 h⟩
theorem nam_cast : ∀ ns : List Int, namF ns = castN (ns.map maskF)
  | [] => rfl
  | x :: r => by
    show (1 + x.fmod 15) :: namF r = (maskF x : Int) :: castN (r.map maskF)
    rw [nam_cast r, mask_cast]
theorem due_all {ms : List Nat} (h : ∀ m ∈ ms, m < 16) (hl : 2 ≤ ms.length ∧ ms.length ≤ 4) : dueF (castN ms) = [sig 0 fun g => ind (ms.any (subN · g)), sig 1 fun g => ind (ms.any (subN · g)), sig 2 fun g => ind (ms.any (subN · g)), sig 3 fun g => ind (ms.any (subN · g))] := by
  match ms, h, hl with
  | [a, b], h, _ => exact due2 (h a (by simp)) (h b (by simp))
  | [a, b, c], h, _ => exact due3 (h a (by simp)) (h b (by simp)) (h c (by simp))
  | [a, b, c, d], h, _ => exact due4 (h a (by simp)) (h b (by simp)) (h c (by simp)) (h d (by simp))
  | [], _, hl => exact absurd hl.1 (by decide)
  | [_], _, hl => exact absurd hl.1 (by simp)
  | _ :: _ :: _ :: _ :: _ :: r, _, hl => exact absurd hl.2 (by simp)
theorem law_plain (w : List Int) : tipsF (carF (numsF w).sum (numsF w)) = dueF (namF (numsF w)) := by
  rw [tips_congr (fun g hg => car_mask (numsF w).sum hg (numsF w)), nam_cast, due_all (fun m hm => by obtain ⟨x, _, rfl⟩ := List.mem_map.mp hm; exact mask_lt x) (by rw [List.length_map]; exact nums_len w)]
  exact tips_sig (mono_any _)
end Mine
end

-- part W3
section
open PySem PySem.W PySem.Calls PyProof.Rows
set_option Elab.async false
set_option maxRecDepth 100000
set_option maxHeartbeats 4000000
namespace Mine
local macro_rules | `(tactic| walk_at "subscriptTail List cons Slice ref ref") => `(tactic| (k_here; k_dflt (refine' slice_menu ?FW ?NW ?lW ?_ ?sW; (case FW => k_asm); (case NW => k_asm); (case lW => k_mem); (case sW => with_unfolding_all rfl); k_whole; intro D' ws' h' F' N' l1 hI'; (try k_lt l1))))
local macro_rules | `(tactic| walk_at "binaryOp Add ref ref") => `(tactic| (k_here; k_dflt (refine' add_nums ?FW ?NW ?aW ?bW ?iW ?jW ?_; (case FW => k_asm); (case NW => k_asm); (case aW => k_mem); (case bW => k_mem); (case iW => assumption); (case jW => assumption); k_whole; intro D' ws' h' F' N' l1 hI'; (try k_lt l1))))
local macro_rules | `(tactic| walk_at "subscriptTail") => `(tactic| (k_here; (with_reducible show wpAny _ _ (subscriptTail _ _ (Value.str _ _) (Value.int _ _)) _ _ _); k_dflt (refine' sign_item ?_; k_whole)))
local macro_rules | `(tactic| walk_at "compareOp Eq ref ref") => `(tactic| (k_here; k_dflt (k_extra "compareOp Eq ref ref")))
local macro_rules | `(tactic| walk_at "eval ListComp") => `(tactic| (k_here; k_dflt (k_extra "eval ListComp")))
local macro_rules | `(tactic| walk_at "call ref") => `(tactic| (k_here; k_dflt (k_extra "call ref")))
theorem sd_lo {t : Int} : 1 ≤ 1 + t.fmod 2 := by have := Int.fmod_nonneg_of_pos t (by decide : (0 : Int) < 2); omega
theorem sd_hi {t : Int} : 1 + t.fmod 2 ≤ 2 := by have := Int.fmod_lt_of_pos t (by decide : (0 : Int) < 2); omega
local macro_rules | `(tactic| walk_at "call ref") => `(tactic| (k_here; (with_reducible show wpAny _ _ (call (Value.ref 118) [Value.int _ _, Value.str _ _, Value.int _ _]) _ _ _); k_dflt (refine' ctr_use (pat_ctr _ _ _ _ _ _ _ _ _ _ _ ?p0 ?p1 ?p2 ?p3 ?p4) ?B ?F ?K ?N ?T ?k ?d ?u ?_; (case B => k_asm); (case F => k_asm); (case K => k_asm); (case N => k_asm); (case T => k_asm); (case k => first | exact rfl | assumption); (case d => ktr_room); (case u => ktr_units); (case p0 => exact (nums_ok (by assumption)).1); (case p1 => exact (nums_ok (by assumption)).2); (case p2 => exact sign_len _); (case p3 => exact sd_lo); (case p4 => exact sd_hi); k_whole; unfold RV; intro t9 h9 tk9 F9 N9; (try dsimp only); (try k_fold))))
local macro_rules | `(tactic| walk_at "call ref") => `(tactic| (k_here; (with_reducible show wpAny _ _ (call (Value.ref 123) [Value.int _ _, Value.str _ _]) _ _ _); k_dflt (refine' ctr_use (list_ctr _ _ _ _ _ _ _ _ _ ?p0) ?B ?F ?K ?N ?T ?k ?d ?u ?_; (case B => k_asm); (case F => k_asm); (case K => k_asm); (case N => k_asm); (case T => k_asm); (case k => first | exact rfl | assumption); (case d => ktr_room); (case u => ktr_units); (case p0 => exact sign_len _); k_whole; unfold RV; intro t9 h9 tk9 F9 N9; (try dsimp only); (try k_fold))))
theorem pats_ok (total : Int) (ns : List Int) : ∀ x ∈ ns.map (patF total), PatOk x := fun x hx => by
  obtain ⟨y, _, rfl⟩ := List.mem_map.mp hx
  exact pat_ok total y
theorem eq_law {prog : Program} {w : World} {A : Around} {E : Value → Shared → Prop} {s : Shared} {h₀ : Heap} {L a b : Addr} {news : List (Addr × Obj)} {vs us : List Value} {n n' : Nat} {w0 : List Int} {Q : Value → Shared → Prop}
    (hi : IntsAre vs (tipsF (carF (numsF w0).sum (numsF w0)))) (hj : IntsAre us (dueF (namF (numsF w0)))) (N : News h₀ L s.heap news) (ha : (a, W.listOf vs.toArray n) ∈ news) (hb : (b, W.listOf us.toArray n') ∈ news) (hu : A.units + 64 < cLine) (h : Q (.bool true) s) : wpAny (model prog w) A (compareOp .Eq (.ref a) (.ref b)) Q E s :=
  ke_eq_ints ⟨_, (N _ ha).1, rfl, _, rfl⟩ ⟨_, (N _ hb).1, rfl, _, rfl⟩ hi hj hu (by rw [decide_eq_true (law_plain w0)]; exact h)
theorem due_ctrL {w : World} {loose : List Str} {mean : ExcName → Option Value} {mg mb : Str → Option Value} {l : Addr} {vs : List Value} {w0 : List Int} (hi : IntsAre vs (namF (numsF w0))) :
    C w loose mean mg mb 14 140 [.ref l] (fun h₀ L m news s Q => (l, LCg.lst vs) ∈ news ∧ ∀ T vs' n' h' tk', IntsAre vs' (dueF (namF (numsF w0))) → Fr h₀ L h' m → News h₀ L h' ((T, listOf vs'.toArray n') :: news) → Q (.ref T) { s with heap := h', toks := tk' }) :=
  due_ctr w loose mean mg mb l vs vs.length _ hi (nam_len w0)
theorem law_holds : PySem.Challenge.rw_sw0009_01.Holds := hd (by
  w_strict (k_go0; (all_goals try k_fold))
  k_with_none
  k_with "compareOp Eq ref ref" => (k_here; k_dflt (refine' eq_law iT9 iD9 ?NW ?aW ?bW ?uW ?_; (case NW => k_asm); (case aW => k_mem); (case bW => k_mem); (case uW => first | units_room | exact Nat.le_of_ble_eq_true rfl); k_whole))
  k_with "Eq bool bool" => exact car_eq
  k_with "CompSrc" => (k_here; (with_reducible show LCg.CompSrc _ _ _ _ _ _ _ (PySem.Expr.BinOp (PySem.Expr.Constant _ _ _) _ _ _) _ _ _ _ _ _); k_dflt (refine LCg.CompSrc.ledger (by rfl) (by k_asm) (by k_asm) (by k_mem) (nums_size (by assumption)) ?_; intro gS'; (refine' comp_namL (by assumption) (fun i' k9 t' I' oI' C' oC' D' m' ys' h' tk' E' hk9 hC' hx' F' N' off' ne' => ?_) (fun ysN hN9 => ?_)); all_goals (try (simp only [LCg.Off3, and_true] at off')); kcf_last))
  k_with "eval ListComp" => (k_here; (with_reducible show wpAny _ _ (eval (PySem.Expr.ListComp (PySem.Expr.BinOp (PySem.Expr.Constant _ _ _) _ _ _) _ _ _) _) _ _ _); k_dflt (refine LCg.ListComp_U (F₀ := by k_asm) (by with_unfolding_all rfl) (by decide) (by rfl) (by decide) (by rfl) ?_))
  k_with "CompSrc" => (k_here; (with_reducible show LCg.CompSrc _ _ _ _ _ _ _ (PySem.Expr.Call (PySem.Expr.Name (PySem.Str.ofString "_law_pattern") _) _ _ _) _ _ _ _ _ _); k_dflt (refine LCg.CompSrc.ledger (by rfl) (by k_asm) (by k_asm) (by k_mem) (nums_size (by assumption)) ?_; intro gS'; (refine' comp_patsL (by assumption) (fun i' k9 t' I' oI' C' oC' D' m' ys' h' tk' E' hk9 hC' hx' F' N' off' ne' => ?_) (fun ysP hP9 => ?_)); all_goals (try (simp only [LCg.Off3, and_true] at off')); kcf_last))
  k_with "CompSrc" => (k_here; (with_reducible show LCg.CompSrc _ _ _ _ _ _ _ (PySem.Expr.Call (PySem.Expr.Name (PySem.Str.ofString "_law_carried") _) _ _ _) _ _ _ _ _ _); k_dflt (refine LCg.CompSrc.range (by rfl) (by k_asm) (by k_asm) (by assumption) (by decide) (by first | exact rangeSize_nat _ _ | rfl) (by exact Nat.le_of_ble_eq_true rfl) ?_; intro gS'; (refine' comp_carL hP9 (fun i' t' I' oI' C' oC' D' m' ys' h' tk' E' hi' hC' hx' F' N' off' ne' => ?_) (fun ysC hC9 => ?_)); all_goals (try (simp only [LCg.Off3, and_true] at off')); kcf_last))
  k_with "call ref" => (k_here; (with_reducible show wpAny _ _ (call (Value.ref 130) [Value.ref _, Value.str _ _]) _ _ _); k_dflt ((refine' ctr_use (carried_ctr _ _ _ _ _ _ _ ysP.length _ _ _ hP9 (pats_ok _ _) (lst_len (sign_len _))) ?BW ?FW ?KW ?NW ?TW ?kW ?dW ?uW ?_); (case BW => k_asm); (case FW => k_asm); (case KW => k_asm); (case NW => k_asm); (case TW => k_asm); (case kW => first | exact rfl | assumption); (case dW => ktr_room); (case uW => ktr_units); (refine And.intro ?mW ?_); (case mW => k_mem); k_whole; unfold RV; intro t9 h9 tk9 F9 N9; (try dsimp only); (try k_fold)))
  k_with "call ref" => (k_here; (with_reducible show wpAny _ _ (call (Value.ref 135) [Value.ref _]) _ _ _); k_dflt ((refine' ctr_use (tips_ctr _ _ _ _ _ _ _ ysC.length _ hC9) ?BW ?FW ?KW ?NW ?TW ?kW ?dW ?uW ?_); (case BW => k_asm); (case FW => k_asm); (case KW => k_asm); (case NW => k_asm); (case TW => k_asm); (case kW => first | exact rfl | assumption); (case dW => ktr_room); (case uW => ktr_units); (refine And.intro ?mW ?_); (case mW => k_mem); k_whole; intro T9 vT9 n9 h9 tk9 iT9 F9 N9; (try dsimp only); (try k_fold)))
  k_with "call ref" => (k_here; (with_reducible show wpAny _ _ (call (Value.ref 140) [Value.ref _]) _ _ _); k_dflt ((refine' ctr_use (due_ctrL hN9) ?BW ?FW ?KW ?NW ?TW ?kW ?dW ?uW ?_); (case BW => k_asm); (case FW => k_asm); (case KW => k_asm); (case NW => k_asm); (case TW => k_asm); (case kW => first | exact rfl | assumption); (case dW => ktr_room); (case uW => ktr_units); (refine And.intro ?mW ?_); (case mW => k_mem); k_whole; intro D9 vD9 n99 h9 tk9 iD9 F9 N9; (try dsimp only); (try k_fold)))
  repeat' (first | (k_unfold; (try dsimp only)) | (k_end; wrow_close) | walk1 | (dsimp only; walk1) | (leave1; (try dsimp only))))
end Mine
end

end

theorem PySem.Challenge.cw_sw0009_01_holds : PySem.Challenge.rw_sw0009_01.Holds := by
  exact Mine.law_holds
