import PyProof.Rows.All
import Wide.All
import OpenK.AllK
import Wide.FinOn
import PySem.Sre
import PySem.Challenge.RW_tl0008_01
set_option compiler.extract_closed false
set_option Elab.async false
set_option linter.all false
open PySem PySem.W PyProof.Rows in
local macro_rules | `(tactic| walk_at $s:str) => `(tactic| k_extra $s)
section
open PySem PySem.W PyProof.Rows
set_option Elab.async false
namespace Mine
theorem keepGoal {P : Prop} (_ : True) (h : P) : P := h
section
local macro_rules | `(tactic| o_head $_) => `(tactic| refine Mine.keepGoal ?hw ?hc)
local macro_rules | `(tactic| w_witness2) => `(tactic| exact True.intro)
set_option maxRecDepth 100000 in
set_option maxHeartbeats 8000000 in
open_top h0 for PySem.Challenge.rw_tl0008_01.row
end
end Mine
end
section
open PySem PySem.W PyProof.Rows
set_option maxRecDepth 100000
namespace Mine
theorem in_sub {K K' : Frag} {h : Heap} (e : K'.map (fun p => K.lookup p.1) = K'.map (fun p => some p.2)) (X : K.In h) : K'.In h := by
  intro a o ho
  refine X a o ?_
  clear X
  induction K' with
  | nil => cases ho
  | cons p K' ih =>
    obtain ⟨e1, e2⟩ := List.cons.inj e
    rw [List.lookup_cons] at ho
    split at ho
    · cases ho
      rename_i q
      rw [eq_of_beq q]; exact e1
    · exact ih e2 ho
end Mine
end
section
set_option maxRecDepth 100000
namespace Mine
open PySem PySem.W PySem.Calls PyProof.Rows

noncomputable abbrev PG : Program := PySem.Challenge.rw_tl0008_01.row.prog
/-- the top's statements but for the rows that name the texts -/
noncomputable def view : Program := { PG with main := { PG.main with body := (((PG.main.body.eraseIdx 66).eraseIdx 14).eraseIdx 7).eraseIdx 1 } }
noncomputable abbrev LO : List Str := looseW view [Str.ofString "_twin_re_1", Str.ofString "_twin_re_2", Str.ofString "EXACT_TOKEN_TYPES"]
noncomputable abbrev TP (mean : ExcName → Option Value) (mg mb : Str → Option Value) (h : Heap) : Prop := Top view LO mean mg mb h
noncomputable abbrev AR (dp un : Nat) (fr : Option (List Env)) (gd : Option (List Code)) : Around := { handled := none, depth := dp, frames := fr, guards := gd, units := un }

/-- what is known of the world around a call -/
structure Ctxt where
  w : World
  mean : ExcName → Option Value
  mg : Str → Option Value
  mb : Str → Option Value

/-- the contract of a call: it ends, keeps all that stood, and hands back Out -/
noncomputable def Con (C : Ctxt) (f : Addr) (sz : Nat) (pre : Heap → Prop) (vs : List Value) (Out : Heap → Value → Heap → Prop) : Prop :=
  ∀ (dp un : Nat) (fr : Option (List Env)) (gd : Option (List Code)) (s : Shared) (Q E : Value → Shared → Prop),
    (h0.heap_1 C.w.params).In s.heap → TP C.mean C.mg C.mb s.heap → dp + sz < recursionLimit → un + 8 * sz < cLine → pre s.heap →
    (∀ r h' tk', s.heap.StaysIn h' → Out s.heap r h' → Q r { s with heap := h', toks := tk' }) →
    wpAny (model PG C.w) (AR dp un fr gd) (call (.ref f) vs) Q E s

theorem con_use {C : Ctxt} {f : Addr} {sz : Nat} {pre : Heap → Prop} {vs : List Value} {Out : Heap → Value → Heap → Prop} {dp un : Nat} {fr : Option (List Env)} {gd : Option (List Code)} {s : Shared} {Q E : Value → Shared → Prop}
    {h₀ : Heap} {L : Addr} {m : Str → Option Value} {news : List (Addr × Obj)}
    (H : Con C f sz pre vs Out) (F : Fr h₀ L s.heap m) (N : News h₀ L s.heap news) (X : (h0.heap_1 C.w.params).In h₀) (T : TP C.mean C.mg C.mb h₀)
    (hd : dp + sz < recursionLimit) (hu : un + 8 * sz < cLine) (hp : pre s.heap)
    (ret : ∀ r h' tk', s.heap.StaysIn h' → Fr h₀ L h' m → News h₀ L h' news → Out s.heap r h' → Q r { s with heap := h', toks := tk' }) :
    wpAny (model PG C.w) (AR dp un fr gd) (call (.ref f) vs) Q E s := by
  refine H dp un fr gd s Q E (X.keeps F.keep) (T.keeps F.keep) hd hu hp fun r h' tk' st o => ret r h' tk' st ?_ ?_ o
  · obtain ⟨oL, a1, a2, hL, a3⟩ := F.ns
    exact ⟨⟨oL, a1, a2, st _ _ hL, a3⟩, fun b o e => st _ _ (F.keep b o e), F.above⟩
  · exact fun p hp => ⟨st _ _ (N p hp).1, (N p hp).2⟩

/-- how a contract is shown: the body is walked, from a frame of its own over all that stood -/
theorem con_def {C : Ctxt} {f : Addr} {sz : Nat} {pre : Heap → Prop} {vs : List Value} {Out : Heap → Value → Heap → Prop}
    {name qual : Str} {params : Arguments} {body : List Stmt} {scope : Scope} {dV kV doc pm cdv ct oc : Value} {an od : Option Addr} {osl : Array (Option Value)} {binds : List (Str × Value)}
    (ho : (h0.heap_1 C.w.params).lookup f = some ⟨oc, od, .func (fnOf name qual params body scope dV kV doc pm an cdv ct), osl⟩) (hcd : codeIn (h0.heap_1 C.w.params) cdv qual = true)
    (hbind : bindArgs (fnOf name qual params body scope dV kV doc pm an cdv ct) ⟨vs, []⟩ = pure binds)
    (hloc : (binds.all fun x => decide (scope.names.lookup x.1 = some .local)) = true)
    (hcell : ∀ x ∈ scope.names, x.2 ≠ .cell) (hco : scope.isCoroutine = false) (hgen : scope.isGenerator = false) (hk : scope.kind = .function)
    (hsz : 0 < sz)
    (h : ∀ (dp un : Nat) (fr : Option (List Env)) (gd : Option (List Code)) (s : Shared) (Q : Value → Shared → Prop) (h₀ h₁ : Heap) (L : Addr) (tk : Nat),
      (h0.heap_1 C.w.params).In h₀ → TP C.mean C.mg C.mb h₀ → dp + sz ≤ recursionLimit → un + 8 * sz < cLine + 3 → pre h₀ →
      Fr h₀ L h₁ (fun y => binds.reverse.lookup y) → News h₀ L h₁ [] → h₀.objs.size ≤ L →
      (∀ r h' tk', h₀.StaysIn h' → Out h₀ r h' → Q r { s with heap := h', toks := tk' }) →
      wpAny (model PG C.w) (AR dp un (fr.map (envOf qual scope L f cdv :: ·)) gd) (execs body (envOf qual scope L f cdv))
        (fun fl s' => Q (match fl with | .ret v => v | _ => .none) s') (fun _ _ => False)
        { s with heap := h₁, toks := tk }) :
    Con C f sz pre vs Out := by
  intro dp un fr gd s Q E X T hd hu hp hret
  refine wpAny_call ?_
  refine codeAny_call_def (fd := fnOf name qual params body scope dV kV doc pm an cdv ct) (body := body) (binds := binds) (by show dp < recursionLimit; omega) (X _ _ ho) rfl T.nolimit (codeRec_of X hcd) rfl (BindsTo.of_eq hbind) hcell (locs hloc) (fun h₁ hns hk₁ => ?_) hco hgen hk
  refine wpAny_mono (h (dp + 1) (un + 3) fr gd s Q s.heap h₁ s.heap.objs.size (s.toks + binds.length) X T (by omega) (by omega) hp ⟨hns, hk₁, Nat.le_refl _⟩ News.nil (Nat.le_refl _) hret) (fun _ _ x => x) (fun _ _ x => x.elim)

theorem stays_of_fr {h₀ h : Heap} {L : Addr} {m : Str → Option Value} (F : Fr h₀ L h m) : h₀.StaysIn h := F.keep

noncomputable def OutInt (x : Int) : Heap → Value → Heap → Prop := fun _ r _ => ∃ t, r = .int x t
noncomputable def OutStr (x : Str) : Heap → Value → Heap → Prop := fun _ r _ => ∃ t, r = .str x t
noncomputable def OutBool (b : Bool) : Heap → Value → Heap → Prop := fun _ r _ => r = .bool b
noncomputable def Any (_ : Heap) : Prop := True

end Mine
end
section
set_option maxRecDepth 10000
namespace Mine
open PySem PySem.Sre

noncomputable def code1 : Array Nat := #[14, 4, 0, 1, 1, 6, 1, 16, 46, 1]
noncomputable def code2 : Array Nat := #[14, 9, 4, 1, 2, 16, 10, 16, 13, 0, 7, 7, 16, 13, 16, 10, 15, 18, 5, 16, 10, 15, 13, 11, 16, 13, 5, 5, 0, 16, 10, 1, 15, 2, 0, 1]

noncomputable def st1 (text : Array Nat) (s : Nat) (first must : Bool) (seen : Seen) : M :=
  { code := code1, text, lim := text.size, start := s, lastStart := text.size, mustAdvance := must, pc := 5, pos := s, handed := s, outermost := first, marks := #[],
    frames := [{ wait := .nextStart, pc := 5, pos := s, outermost := first }], weight := 1, seen }

theorem runFor_succ (n : Nat) (m : M) (h : m.outcome = none) : M.runFor (n + 1) m = M.runFor n m.step := by
  simp [M.runFor, h]
theorem runFor_done (n : Nat) (m : M) (h : m.outcome.isSome = true) : M.runFor n m = m := by
  cases n with
  | zero => rfl
  | succ n => simp [M.runFor, h]
theorem runFor_add (a b : Nat) (m : M) : M.runFor (a + b) m = M.runFor b (M.runFor a m) := by
  induction a generalizing m with
  | zero => simp [M.runFor]
  | succ a ih =>
    by_cases h : m.outcome.isSome = true
    · rw [runFor_done _ m h, runFor_done _ m h, runFor_done _ m h]
    · have h' : m.outcome = none := by cases e : m.outcome <;> simp_all
      rw [Nat.succ_add, runFor_succ _ _ h', runFor_succ _ _ h', ih]

theorem search1 (text : Array Nat) (s : Nat) (must : Bool) (h : s < text.size) : forSearch code1 text 0 s text.size must = st1 text s true must (({} : Seen).add 14) := by
  unfold forSearch
  have e : (decide (s > text.size) || decide (text.size - s < 1)) = false := by
    simp; omega
  show (if (decide (s > text.size) || decide (text.size - s < 1)) = true then _ else _) = _
  rw [e, if_neg Bool.false_ne_true]
  rfl

theorem search1_end (text : Array Nat) (s : Nat) (must : Bool) (h : text.size ≤ s) : (M.runFor 1 (forSearch code1 text 0 s text.size must)).outcome = some .failed := by
  unfold forSearch
  have e : (decide (s > text.size) || decide (text.size - s < 1)) = true := by
    simp; omega
  show (M.runFor 1 (if (decide (s > text.size) || decide (text.size - s < 1)) = true then _ else _)).outcome = _
  rw [e, if_pos rfl]
  rfl

/-- a row begins at s -/
noncomputable def begins (text : Array Nat) (s : Nat) : Bool := s == 0 || text.getD (s - 1) 0 == 10

theorem st1_yes (text : Array Nat) (s : Nat) (f must : Bool) (seen : Seen) (h : s < text.size) (hb : begins text s = true) (hd : (text.getD s 0 == 46) = true) :
    (M.runFor 5 (st1 text s f must seen)).outcome = some .matched ∧ (M.runFor 5 (st1 text s f must seen)).start = s ∧ (M.runFor 5 (st1 text s f must seen)).handed = s + 1 := by
  have e1 : (st1 text s f must seen).step = { st1 text s f must ((seen.add 6).add 44) with pc := 7 } := by
    show (if begins text s = true then _ else _) = _
    rw [if_pos hb]; rfl
  have e2 : ({ st1 text s f must ((seen.add 6).add 44) with pc := 7 } : M).step = { st1 text s f must (((seen.add 6).add 44).add 16) with pc := 9, pos := s + 1 } := by
    show (if s ≥ text.size then _ else match (.ok (text.getD s 0 == 46, ((seen.add 6).add 44).add 16) : Except String (Bool × Seen)) with | .error why => _ | .ok (false, seen) => _ | .ok (true, seen) => _) = _
    rw [if_neg (by omega), hd]; rfl
  have e3 : ({ st1 text s f must (((seen.add 6).add 44).add 16) with pc := 9, pos := s + 1 } : M).step = { st1 text s f must ((((seen.add 6).add 44).add 16).add 1) with pc := 9, pos := s + 1, handed := s + 1, answer := some true } := by
    show (if (f && ((false && s + 1 != text.size) || (must && s + 1 == s))) = true then _ else _) = _
    rw [if_neg (by simp)]; rfl
  rw [runFor_succ 4 _ rfl, e1, runFor_succ 3 _ rfl, e2, runFor_succ 2 _ rfl, e3]
  exact ⟨rfl, rfl, rfl⟩

theorem st1_no (text : Array Nat) (s : Nat) (f must : Bool) (seen : Seen) (h : s < text.size) (hn : (begins text s && text.getD s 0 == 46) = false) :
    ∃ k seen', 0 < k ∧ k ≤ 3 ∧ M.runFor k (st1 text s f must seen) = st1 text (s + 1) false false seen' := by
  cases hb : begins text s with
  | false =>
    have e1 : (st1 text s f must seen).step = { st1 text s f must ((seen.add 6).add 44) with answer := some false } := by
      show (if begins text s = true then _ else _) = _
      rw [hb]; rfl
    have e2 : ({ st1 text s f must ((seen.add 6).add 44) with answer := some false } : M).step = st1 text (s + 1) false false ((seen.add 6).add 44) := by
      show (if s < text.size then _ else _) = _
      rw [if_pos h]; rfl
    exact ⟨2, _, by omega, by omega, by rw [runFor_succ 1 _ rfl, e1, runFor_succ 0 _ rfl, e2]; rfl⟩
  | true =>
    have hd : (text.getD s 0 == 46) = false := by rw [hb] at hn; simpa using hn
    have e1 : (st1 text s f must seen).step = { st1 text s f must ((seen.add 6).add 44) with pc := 7 } := by
      show (if begins text s = true then _ else _) = _
      rw [if_pos hb]; rfl
    have e2 : ({ st1 text s f must ((seen.add 6).add 44) with pc := 7 } : M).step = { st1 text s f must (((seen.add 6).add 44).add 16) with pc := 7, answer := some false } := by
      show (if s ≥ text.size then _ else match (.ok (text.getD s 0 == 46, ((seen.add 6).add 44).add 16) : Except String (Bool × Seen)) with | .error why => _ | .ok (false, seen) => _ | .ok (true, seen) => _) = _
      rw [if_neg (by omega), hd]; rfl
    have e3 : ({ st1 text s f must (((seen.add 6).add 44).add 16) with pc := 7, answer := some false } : M).step = st1 text (s + 1) false false (((seen.add 6).add 44).add 16) := by
      show (if s < text.size then _ else _) = _
      rw [if_pos h]; rfl
    exact ⟨3, _, by omega, by omega, by rw [runFor_succ 2 _ rfl, e1, runFor_succ 1 _ rfl, e2, runFor_succ 0 _ rfl, e3]; rfl⟩

theorem st1_end (text : Array Nat) (f must : Bool) (seen : Seen) : (M.runFor 4 (st1 text text.size f must seen)).outcome = some .failed := by
  cases hb : begins text text.size with
  | false =>
    have e1 : (st1 text text.size f must seen).step = { st1 text text.size f must ((seen.add 6).add 44) with answer := some false } := by
      show (if begins text text.size = true then _ else _) = _
      rw [hb]; rfl
    have e2 : ({ st1 text text.size f must ((seen.add 6).add 44) with answer := some false } : M).step = { st1 text text.size f must ((seen.add 6).add 44) with frames := [], weight := 0, answer := some false } := by
      show (if text.size < text.size then _ else _) = _
      rw [if_neg (Nat.lt_irrefl _)]; rfl
    rw [runFor_succ 3 _ rfl, e1, runFor_succ 2 _ rfl, e2]; rfl
  | true =>
    have e1 : (st1 text text.size f must seen).step = { st1 text text.size f must ((seen.add 6).add 44) with pc := 7 } := by
      show (if begins text text.size = true then _ else _) = _
      rw [if_pos hb]; rfl
    have e2 : ({ st1 text text.size f must ((seen.add 6).add 44) with pc := 7 } : M).step = { st1 text text.size f must (((seen.add 6).add 44).add 16) with pc := 7, answer := some false } := by
      show (if text.size ≥ text.size then _ else _) = _
      rw [if_pos (Nat.le_refl _)]; rfl
    have e3 : ({ st1 text text.size f must (((seen.add 6).add 44).add 16) with pc := 7, answer := some false } : M).step = { st1 text text.size f must (((seen.add 6).add 44).add 16) with frames := [], weight := 0, answer := some false } := by
      show (if text.size < text.size then _ else _) = _
      rw [if_neg (Nat.lt_irrefl _)]; rfl
    rw [runFor_succ 3 _ rfl, e1, runFor_succ 2 _ rfl, e2, runFor_succ 1 _ rfl, e3]; rfl

end Mine
end
section
set_option maxRecDepth 10000
namespace Mine
open PySem PySem.Sre

noncomputable def nl (c : Nat) : Bool := c == 10 || c == 13
noncomputable def nextNl (text : Array Nat) : (fuel s : Nat) → Option Nat
  | 0, _ => none
  | f + 1, s => if s ≥ text.size then none else if nl (text.getD s 0) then some s else nextNl text f (s + 1)

/-- a state of the second pattern's machine -/
noncomputable def st2 (text : Array Nat) (s : Nat) (pc pos : Nat) (out : Bool) (fs : List Sre.Frame) (wt : Nat) (ans : Option Bool) (hd : Nat) (seen : Seen) : M :=
  { code := code2, text, lim := text.size, start := s, lastStart := text.size, mustAdvance := false, pc, pos, handed := hd, outermost := out, marks := #[],
    frames := fs, weight := wt, answer := ans, seen }
noncomputable def fS (s : Nat) : Sre.Frame := { wait := .nextStart, pc := 10, pos := s, outermost := true }
noncomputable def fB (s pc : Nat) : Sre.Frame := { wait := .nextBranch, pc, pos := s, outermost := true, kept := {} }
noncomputable def fN (p : Nat) : Sre.Frame := { wait := .lookNot, pc := 26, pos := p, outermost := true, kept := {} }

theorem inSet2 (c : Nat) (seen : Seen) : ∃ seen', inSet code2 c 36 5 true seen = .ok (nl c, seen') := by
  have a : inSet code2 c 36 5 true seen = (if (c == 10) = true then .ok (true, seen.add 16) else inSet code2 c 35 7 true (seen.add 16)) := rfl
  have b : inSet code2 c 35 7 true (seen.add 16) = (if (c == 13) = true then .ok (true, (seen.add 16).add 16) else inSet code2 c 34 9 true ((seen.add 16).add 16)) := rfl
  have d : inSet code2 c 34 9 true ((seen.add 16).add 16) = .ok (false, ((seen.add 16).add 16).add 0) := rfl
  rw [a, b, d]
  unfold nl
  cases h1 : c == 10 with
  | true => exact ⟨_, rfl⟩
  | false => cases h2 : c == 13 with
    | true => exact ⟨_, rfl⟩
    | false => exact ⟨_, rfl⟩

theorem admitted2 (m : M) (hc : m.code = code2) (hl : m.lim = m.text.size) : ∀ (fuel s : Nat) (seen : Seen), ∃ seen', m.admitted fuel s seen = .ok (nextNl m.text fuel s, seen')
  | 0, _, seen => ⟨seen, rfl⟩
  | f + 1, s, seen => by
    unfold M.admitted nextNl
    rw [hl]
    by_cases h : s ≥ m.text.size
    · exact ⟨seen, by rw [if_pos h, if_pos h]⟩
    · rw [if_neg h, if_neg h, hc]
      obtain ⟨s1, e1⟩ := inSet2 (m.text.getD s 0) seen
      have e2 : inSet code2 (m.text.getD s 0) code2.size 5 true seen = .ok (nl (m.text.getD s 0), s1) := e1
      rw [e2]
      cases hn : nl (m.text.getD s 0) with
      | true => exact ⟨s1, rfl⟩
      | false =>
        obtain ⟨s2, e3⟩ := admitted2 m hc hl f (s + 1) s1
        exact ⟨s2, e3⟩

theorem search2 (text : Array Nat) (s : Nat) (must : Bool) (h : s < text.size) : ∃ seen, forSearch code2 text 0 s text.size must = match nextNl text (text.size + 1 - s) s with
    | some i => st2 text i 10 i true [fS i] 1 none i seen
    | none => { st2 text s 10 s true [] 0 (some false) s seen with mustAdvance := must } := by
  unfold forSearch
  have e : (decide (s > text.size) || decide (text.size - s < 1)) = false := by
    simp; omega
  obtain ⟨s1, e1⟩ := admitted2 { st2 text s 10 s true [] 0 none s (({} : Seen).add 14) with mustAdvance := must } rfl rfl (text.size + 1 - s) s (({} : Seen).add 14)
  have e1' : M.admitted { st2 text s 10 s true [] 0 none s (({} : Seen).add 14) with mustAdvance := must } (text.size + 1 - s) s (({} : Seen).add 14) = .ok (nextNl text (text.size + 1 - s) s, s1) := e1
  refine ⟨s1, ?_⟩
  show (if (decide (s > text.size) || decide (text.size - s < 1)) = true then _ else M.attemptFrom { st2 text s 10 s true [] 0 none s (({} : Seen).add 14) with mustAdvance := must } s true) = _
  rw [e, if_neg Bool.false_ne_true]
  show (match M.admitted { st2 text s 10 s true [] 0 none s (({} : Seen).add 14) with mustAdvance := must } (text.size + 1 - s) s (({} : Seen).add 14) with | .ok (some s, seen) => _ | .ok (none, seen) => _ | .error why => _) = _
  rw [e1']
  cases nextNl text (text.size + 1 - s) s with
  | none => rfl
  | some i => rfl

theorem search2_end (text : Array Nat) (s : Nat) (must : Bool) (h : text.size ≤ s) : (M.runFor 1 (forSearch code2 text 0 s text.size must)).outcome = some .failed := by
  unfold forSearch
  have e : (decide (s > text.size) || decide (text.size - s < 1)) = true := by
    simp; omega
  show (M.runFor 1 (if (decide (s > text.size) || decide (text.size - s < 1)) = true then _ else _)).outcome = _
  rw [e, if_pos rfl]
  rfl

theorem lit_no (text : Array Nat) (s pc pos : Nat) (out : Bool) (fs : List Sre.Frame) (wt hd : Nat) (seen : Seen) (w : Nat)
    (h : pos ≥ text.size ∨ (text.getD pos 0 == w) = false)
    (e : (st2 text s pc pos out fs wt none hd seen).step = if pos ≥ text.size then { st2 text s pc pos out fs wt none hd (seen.add 16) with answer := some false } else
      match (.ok (text.getD pos 0 == w, seen.add 16) : Except String (Bool × Seen)) with | .error why => M.stick (st2 text s pc pos out fs wt none hd (seen.add 16)) why | .ok (false, sn) => { st2 text s pc pos out fs wt none hd sn with answer := some false } | .ok (true, sn) => { st2 text s pc pos out fs wt none hd sn with pc := pc + 2, pos := pos + 1 }) :
    (st2 text s pc pos out fs wt none hd seen).step = st2 text s pc pos out fs wt (some false) hd (seen.add 16) := by
  rw [e]
  by_cases h1 : pos ≥ text.size
  · rw [if_pos h1]; rfl
  · rw [if_neg h1, h.resolve_left h1]; rfl
theorem lit_yes (text : Array Nat) (s pc pos : Nat) (out : Bool) (fs : List Sre.Frame) (wt hd : Nat) (seen : Seen) (w : Nat)
    (h1 : pos < text.size) (h2 : (text.getD pos 0 == w) = true)
    (e : (st2 text s pc pos out fs wt none hd seen).step = if pos ≥ text.size then { st2 text s pc pos out fs wt none hd (seen.add 16) with answer := some false } else
      match (.ok (text.getD pos 0 == w, seen.add 16) : Except String (Bool × Seen)) with | .error why => M.stick (st2 text s pc pos out fs wt none hd (seen.add 16)) why | .ok (false, sn) => { st2 text s pc pos out fs wt none hd sn with answer := some false } | .ok (true, sn) => { st2 text s pc pos out fs wt none hd sn with pc := pc + 2, pos := pos + 1 }) :
    (st2 text s pc pos out fs wt none hd seen).step = st2 text s (pc + 2) (pos + 1) out fs wt none hd (seen.add 16) := by
  rw [e, if_neg (Nat.not_le.mpr h1), h2]; rfl

noncomputable def Ends (k : Nat) (m : M) (a b : Nat) : Prop := (M.runFor k m).outcome = some .matched ∧ (M.runFor k m).start = a ∧ (M.runFor k m).handed = b

theorem end2 (text : Array Nat) (s p pc : Nat) (hd : Nat) (seen : Seen) : Ends 4 (st2 text s 35 p true [fB s pc, fS s] 2 none hd seen) s p := by
  have e : (st2 text s 35 p true [fB s pc, fS s] 2 none hd seen).step = st2 text s 35 p true [fB s pc, fS s] 2 (some true) p (seen.add 1) := rfl
  have e2 : (st2 text s 35 p true [fB s pc, fS s] 2 (some true) p (seen.add 1)).step = st2 text s pc s true [fS s] 1 (some true) p (seen.add 1) := rfl
  have e3 : (st2 text s pc s true [fS s] 1 (some true) p (seen.add 1)).step = st2 text s 10 s true [] 0 (some true) p (seen.add 1) := rfl
  unfold Ends
  rw [runFor_succ 3 _ rfl, e, runFor_succ 2 _ rfl, e2, runFor_succ 1 _ rfl, e3]
  exact ⟨rfl, rfl, rfl⟩

theorem ends_step {k : Nat} {m m' : M} {a b : Nat} (ho : m.outcome = none) (e : m.step = m') (h : Ends k m' a b) : Ends (k + 1) m a b := by
  unfold Ends at h ⊢
  rw [runFor_succ _ _ ho, e]; exact h

theorem st2_crlf (text : Array Nat) (s : Nat) (seen : Seen) (h0 : (text.getD s 0 == 13) = true) (hl : s + 1 < text.size) (h1 : (text.getD (s + 1) 0 == 10) = true) :
    Ends 8 (st2 text s 10 s true [fS s] 1 none s seen) s (s + 2) := by
  refine ends_step rfl (show _ = st2 text s 12 s true [fB s 11, fS s] 2 none s (seen.add 7) from rfl) ?_
  refine ends_step rfl (lit_yes text s 12 s true _ 2 s _ 13 (by omega) h0 rfl) ?_
  refine ends_step rfl (lit_yes text s 14 (s + 1) true _ 2 s _ 10 hl h1 rfl) ?_
  refine ends_step rfl (show _ = st2 text s 35 (s + 2) true [fB s 11, fS s] 2 none s _ from rfl) ?_
  exact end2 ..

theorem st2_cr (text : Array Nat) (s : Nat) (seen : Seen) (hs : s < text.size) (h0 : (text.getD s 0 == 13) = true) (h1 : s + 1 ≥ text.size ∨ (text.getD (s + 1) 0 == 10) = false) :
    Ends 15 (st2 text s 10 s true [fS s] 1 none s seen) s (s + 1) := by
  have h10 : (text.getD s 0 == 10) = false := by
    rw [beq_iff_eq.mp h0]; rfl
  refine ends_step rfl (show _ = st2 text s 12 s true [fB s 11, fS s] 2 none s (seen.add 7) from rfl) ?_
  refine ends_step rfl (lit_yes text s 12 s true _ 2 s _ 13 hs h0 rfl) ?_
  refine ends_step rfl (lit_no text s 14 (s + 1) true _ 2 s _ 10 h1 rfl) ?_
  refine ends_step rfl (show _ = st2 text s 19 s true [fB s 18, fS s] 2 none s _ from rfl) ?_
  refine ends_step rfl (lit_no text s 19 s true _ 2 s _ 10 (.inr h10) rfl) ?_
  refine ends_step rfl (show _ = st2 text s 24 s true [fB s 23, fS s] 2 none s _ from rfl) ?_
  refine ends_step rfl (lit_yes text s 24 s true _ 2 s _ 13 hs h0 rfl) ?_
  refine ends_step rfl (show _ = st2 text s 29 (s + 1) false [fN (s + 1), fB s 23, fS s] 3 none (s + 1) _ from rfl) ?_
  refine ends_step rfl (lit_no text s 29 (s + 1) false _ 3 (s + 1) _ 10 h1 rfl) ?_
  refine ends_step rfl (show _ = st2 text s 32 (s + 1) true [fB s 23, fS s] 2 none (s + 1) _ from rfl) ?_
  refine ends_step rfl (show _ = st2 text s 35 (s + 1) true [fB s 23, fS s] 2 none (s + 1) _ from rfl) ?_
  exact end2 ..

theorem st2_lf (text : Array Nat) (s : Nat) (seen : Seen) (hs : s < text.size) (h0 : (text.getD s 0 == 10) = true) :
    Ends 9 (st2 text s 10 s true [fS s] 1 none s seen) s (s + 1) := by
  have h13 : (text.getD s 0 == 13) = false := by
    rw [beq_iff_eq.mp h0]; rfl
  refine ends_step rfl (show _ = st2 text s 12 s true [fB s 11, fS s] 2 none s (seen.add 7) from rfl) ?_
  refine ends_step rfl (lit_no text s 12 s true _ 2 s _ 13 (.inr h13) rfl) ?_
  refine ends_step rfl (show _ = st2 text s 19 s true [fB s 18, fS s] 2 none s _ from rfl) ?_
  refine ends_step rfl (lit_yes text s 19 s true _ 2 s _ 10 hs h0 rfl) ?_
  refine ends_step rfl (show _ = st2 text s 35 (s + 1) true [fB s 18, fS s] 2 none s _ from rfl) ?_
  exact end2 ..

end Mine
end
section
set_option maxRecDepth 100000
namespace Mine
open PySem PySem.Builtin PySem.Builtin.Re PySem.Calls

theorem plainAttrs_pat : PlainAttrs "re.Pattern" :=
  ⟨⟨"object.__getattribute__", by rw [typeLookup_type, builtinLookup_eq_fast]; kernel_rfl, by decide +kernel⟩, by rw [typeLookup_type, builtinLookup_eq_fast]; kernel_rfl⟩
theorem owner_pat : Manifest.owners.lookup (String.ofList ['n', 'r', 'e', 't', 't', 'a', 'P', '.', 'e', 'r'].reverse) = some Manifest.sig_re_Pattern := by kernel_rfl
theorem slot_pat_sub : Slot "re.Pattern" "sub" "re.Pattern.sub" :=
  .of (owner := "re.Pattern") (n := "sub") (by rw [typeLookup_type, builtinLookup_eq_fast]; kernel_rfl) (by decide +kernel) (by decide +kernel) (by decide +kernel)
    (by first | exact .inl (by decide +kernel) | exact .inr (by decide +kernel)) (by rw [isSubtype_type]; kernel_rfl)
theorem type_pat_sub : typeOf (.builtin "re.Pattern.sub") = pure (.type "method_descriptor") := by show builtinType _ = _; rw [builtinType_eq_fast]; kernel_rfl
theorem entry_pat_sub : entryFor table "re.Pattern.sub" = some «re.Pattern.sub» := entryFor_of_tree (by kernel_rfl)
theorem entry_pat_loop : entryFor table "re.Pattern.sub.loop" = some «re.Pattern.sub.loop» := entryFor_of_tree (by kernel_rfl)
theorem args_pat_sub_3 (a b c : Value) : argsOk "re.Pattern.sub" ⟨[a, b, c], []⟩ := by
  unfold argsOk; rw [signature?_of (id := "re.Pattern.sub") (n := ['b', 'u', 's']) (o := ['n', 'r', 'e', 't', 't', 'a', 'P', '.', 'e', 'r']) (by kernel_rfl) owner_pat]; kernel_rfl
theorem str_no_call : typeLookup (.type "str") "__call__" = pure none := by rw [typeLookup_type, builtinLookup_eq_fast]; kernel_rfl

end Mine
end
section
set_option maxRecDepth 100000
namespace Mine
open PySem PySem.Builtin PySem.Builtin.Re PySem.Calls

section
variable {M : Model} {A : Around} {E : Value → Shared → Prop} {s : Shared}

theorem runFor_stop {k j : Nat} {m : Sre.M} (h : (Sre.M.runFor k m).outcome.isSome = true) (hj : k ≤ j) : Sre.M.runFor j m = Sre.M.runFor k m := by
  obtain ⟨d, rfl⟩ := Nat.exists_eq_add_of_le hj
  rw [runFor_add, runFor_done _ _ h]

theorem drive {Q : Sre.M → Shared → Prop} : ∀ (turns k : Nat) (m : Sre.M), (Sre.M.runFor k m).outcome.isSome = true → k ≤ 4 * turns → 0 < turns → Q (Sre.M.runFor k m) s → wpAny M A (reDrive turns m) Q E s
  | 0, _, _, _, _, h, _ => absurd h (Nat.lt_irrefl 0)
  | turns + 1, k, m, h, hk, _, hQ => by
    unfold reDrive
    show wpAny M A (if (Sre.M.runFor 4 m).outcome.isSome = true then pure (Sre.M.runFor 4 m) else do rule "sre.turn"; reDrive turns (Sre.M.runFor 4 m)) Q E s
    by_cases h4 : (Sre.M.runFor 4 m).outcome.isSome = true
    · rw [if_pos h4]
      have e : Sre.M.runFor 4 m = Sre.M.runFor k m := by
        by_cases hk4 : k ≤ 4
        · exact runFor_stop h hk4
        · exact (runFor_stop h4 (by omega)).symm
      rw [e]; exact wpAny_pure hQ
    · rw [if_neg h4]
      have hk4 : 4 < k := by
        by_cases hk4 : k ≤ 4
        · exact absurd (by rw [runFor_stop h hk4]; exact h) h4
        · omega
      have e : Sre.M.runFor (k - 4) (Sre.M.runFor 4 m) = Sre.M.runFor k m := by
        rw [← runFor_add]; congr 1; omega
      exact wpAny_bind (wpAny_rule (drive turns (k - 4) _ (by rw [e]; exact h) (by omega) (by omega) (by rw [e]; exact hQ)))

theorem rules_over {Q : PUnit → Shared → Prop} (f : Nat → PUnit → Sem (ForInStep PUnit)) (hf : ∀ i (Q' : ForInStep PUnit → Shared → Prop), Q' (.yield ⟨⟩) s → wpAny M A (f i ⟨⟩) Q' E s) (hQ : Q ⟨⟩ s) : ∀ l : List Nat, wpAny M A (forIn l PUnit.unit f) Q E s
  | [] => by
    rw [List.forIn_nil]; exact wpAny_pure hQ
  | i :: l => by
    rw [List.forIn_cons]
    exact wpAny_bind (hf i _ (rules_over f hf hQ l))

theorem toEnd {Q : Option Sre.M → Shared → Prop} {m : Sre.M} {k : Nat} (hk : k ≤ 2 ^ 32) (h : (Sre.M.runFor k m).outcome = some .matched ∧ Q (some (Sre.M.runFor k m)) s ∨ (Sre.M.runFor k m).outcome = some .failed ∧ Q none s) :
    wpAny M A (reRunToEnd m) Q E s := by
  unfold reRunToEnd
  refine wpAny_bind (drive (2 ^ 64) k m (by rcases h with h | h <;> rw [h.1] <;> rfl) (Nat.le_trans hk (by decide)) (by decide) ?_)
  refine wpAny_bind (rules_over _ (fun i Q' hQ' => ?_) ?_ _)
  · split
    · exact wpAny_bind (wpAny_rule (wpAny_pure hQ'))
    · exact wpAny_bind (wpAny_pure (wpAny_pure hQ'))
  · rcases h with h | h
    · rw [h.1]; exact wpAny_pure h.2
    · rw [h.1]; exact wpAny_pure h.2

theorem asStr_str {x : Str} {t : Tok} {Q : Option Str → Shared → Prop} (h : Q (some x) s) : wpAny M A (asStr? (.str x t)) Q E s := wpAny_pure h

/-- a pattern object that stands -/
structure PatAt (h : Heap) (P : Addr) (code : Array Nat) : Prop where
  at' : ∃ po fs C co cv n, h.get? P = some po ∧ po.cls = .type "re.Pattern" ∧ po.dict = none ∧ po.data = .fields fs ∧ fs.getD 5 .none = .ref C ∧ fs.getD 6 .none = .int 0 0 ∧ fs.getD 2 .none = .int 0 0 ∧
    h.get? C = some co ∧ co.data = .seq cv n ∧ (cv.map reRawOf).map (·.toNat) = code
theorem PatAt.keeps {h h' : Heap} {P : Addr} {code : Array Nat} (p : PatAt h P code) (k : h.StaysIn h') : PatAt h' P code := by
  obtain ⟨po, fs, C, co, cv, n, a, b, b', c, d, e, f, g, i, j⟩ := p
  exact ⟨po, fs, C, co, cv, n, k _ _ a, b, b', c, d, e, f, k _ _ g, i, j⟩
theorem PatAt.typeIs {s : Shared} {P : Addr} {code : Array Nat} (p : PatAt s.heap P code) : s.TypeIs (.ref P) "re.Pattern" := by
  obtain ⟨po, _, _, _, _, _, a, b, _⟩ := p
  exact ⟨po, a, b⟩

theorem whole {P : Addr} {code : Array Nat} {x : Str} {t : Tok} {Q : ReTarget → Shared → Prop} (p : PatAt s.heap P code)
    (h : Q { pattern := .ref P, string := .str x t, code, text := x.cps, kind := 0, groups := 0, pos := 0, lim := x.cps.size } s) : wpAny M A (reWholeTarget (.ref P) (.str x t)) Q E s := by
  obtain ⟨po, fs, C, co, cv, n, a, b, b', c, d, e, f, g, i, j⟩ := p
  unfold reWholeTarget
  refine wpAny_bind (wpAny_fieldsOf a c ?_)
  refine wpAny_bind (wpAny_of_eq (show reTextOf (.str x t) = pure (x.cps, 0) from rfl) ?_)
  dsimp only
  rw [f, e]
  show wpAny M A (do reNoCollectionInside (.str x t) 0; _) Q E s
  refine wpAny_bind (wpAny_of_eq (show reNoCollectionInside (.str x t) 0 = pure () from rfl) ?_)
  rw [d]
  refine wpAny_bind (wpAny_bind (wpAny_seqItems g i (wpAny_pure ?_)))
  refine wpAny_pure ?_
  have e : Array.map (fun x : Int => x.toNat) (Array.map reRawOf ((some cv).getD #[])) = code := j
  rw [e]
  exact h

/-- what a search finds, as a plain fact of the machine -/
noncomputable def Finds (code text : Array Nat) (find : Nat → Option (Nat × Nat)) : Prop :=
  ∀ (s : Nat) (must : Bool), s ≤ text.size → ∃ k, k ≤ 2 ^ 32 ∧ match find s with
    | some (a, b) => s ≤ a ∧ a < b ∧ b ≤ text.size ∧ Ends k (Sre.forSearch code text 0 s text.size must) a b
    | none => (Sre.M.runFor k (Sre.forSearch code text 0 s text.size must)).outcome = some .failed

theorem nextFound {t : ReTarget} {find : Nat → Option (Nat × Nat)} {start : Nat} {must : Bool} {Q : Option Sre.M → Shared → Prop} (F : Finds t.code t.text find) (hg : t.groups = 0) (hl : t.lim = t.text.size) (hs : start ≤ t.text.size)
    (h : match find start with
      | some (a, b) => ∀ m : Sre.M, m.start = a → m.handed = b → start ≤ a → a < b → b ≤ t.text.size → Q (some m) s
      | none => Q none s) : wpAny M A (reNextFound t start must) Q E s := by
  unfold reNextFound
  rw [hg, hl]
  obtain ⟨k, hk, hf⟩ := F start must hs
  cases hfd : find start with
  | none =>
    rw [hfd] at h hf
    exact toEnd hk (.inr ⟨hf, h⟩)
  | some ab =>
    obtain ⟨a, b⟩ := ab
    rw [hfd] at h hf
    obtain ⟨h1, h2, h3, h4⟩ := hf
    exact toEnd hk (.inl ⟨h4.1, h _ h4.2.1 h4.2.2 h1 h2 h3⟩)

theorem slice0 {text : Array Nat} {b e : Nat} {Q : Value → Shared → Prop} (h : Q (.str ⟨text.extract b e⟩ s.toks) { s with toks := s.toks + 1 }) (hz : text.size ≤ sizeLine) : wpAny M A (reSlice text 0 b e) Q E s := by
  show wpAny M A (mkStr ⟨text.extract b e⟩) Q E s
  refine wpAny_mkStr h ?_
  show (text.extract b e).size ≤ sizeLine
  rw [Array.size_extract]; omega
end

/-- the pieces that a sub writes -/
noncomputable def pieces (find : Nat → Option (Nat × Nat)) (text : Array Nat) (repl : Str) : (fuel d : Nat) → List Str
  | 0, _ => []
  | f + 1, d => match find d with
    | some (a, b) => (if d < a then [⟨text.extract d a⟩] else []) ++ repl :: pieces find text repl f b
    | none => if d < text.size then [⟨text.extract d text.size⟩] else []

noncomputable def joinAll (l : List Str) : Str := ⟨(l.flatMap (·.cps.toList)).toArray⟩

theorem str_ext {x y : Str} (h : x.cps.toList = y.cps.toList) : x = y := by
  cases x with | mk a => cases y with | mk b =>
  exact congrArg Str.mk (Array.toList_inj.mp h)
theorem glue_fold (sep : Array Nat) : ∀ (l : List Str) (acc : Array Nat), (l.foldl (fun acc p => acc ++ sep ++ p.cps) acc).toList = acc.toList ++ l.flatMap (fun p => sep.toList ++ p.cps.toList)
  | [], acc => by simp
  | p :: l, acc => by
    rw [List.foldl_cons, glue_fold sep l]
    simp [Array.toList_append, List.append_assoc]
theorem join_all (l : List Str) : Txt.join ⟨#[]⟩ l = joinAll l := by
  refine str_ext ?_
  show ((l.drop 1).foldl (fun acc p => acc ++ #[] ++ p.cps) (l.headD Str.empty).cps).toList = _
  rw [glue_fold]
  cases l with
  | nil => rfl
  | cons p r => simp [joinAll]

theorem isList_push {h h₀ : Heap} {D : Addr} {items : Array Value} {v : Value} (hD : h.IsList D items) (st : h₀.StaysIn h) (hDn : h₀.objs.size ≤ D) :
    (h.update D (Obj.mapSeq (·.push v))).IsList D (items.push v) ∧ h₀.StaysIn (h.update D (Obj.mapSeq (·.push v))) := by
  obtain ⟨o, ho, hc, n, hd⟩ := hD
  obtain ⟨c, d, dt, sl⟩ := o
  simp only at hc hd
  subst hc; subst hd
  refine ⟨⟨_, Heap.get?_update_self _ ho rfl, rfl, _, rfl⟩, fun b o e => ?_⟩
  rw [Heap.get?_update_ne]
  · exact st b o e
  · intro q
    have h1 := Heap.lt_size e
    rw [q] at h1
    exact absurd hDn (Nat.not_le.mpr h1)

theorem push_val {M : Model} {A : Around} {E : Value → Shared → Prop} {s : Shared} {h₀ : Heap} {D : Addr} {items : Array Value} {v : Value} {Q : Unit → Shared → Prop} (hD : s.heap.IsList D items) (st : h₀.StaysIn s.heap) (hDn : h₀.objs.size ≤ D) (hz : items.size < sizeLine)
    (h : ∀ h', h'.IsList D (items.push v) → h₀.StaysIn h' → Q () { s with heap := h' }) : wpAny M A (updateSeq D (·.push v)) Q E s := by
  have hp := isList_push (v := v) hD st hDn
  obtain ⟨o, ho, hc, n, hd⟩ := hD
  exact wpAny_updateSeq ho hd (h _ hp.1 hp.2) (Nat.le_of_lt hz) (by rw [Array.size_push]; omega)

theorem strValues_push (l : List (Str × Tok)) (y : Str) (t : Tok) : (strValues l).toArray.push (.str y t) = (strValues (l ++ [(y, t)])).toArray := by
  simp [strValues]
theorem strValues_len (l : List (Str × Tok)) : (strValues l).toArray.size = l.length := by simp [strValues]

section
variable {w : World} {A : Around} {E : Value → Shared → Prop}
open PySem.Spec

theorem sz : sizeLine = 16777216 := by decide

theorem loop_ok {P : Addr} {code : Array Nat} {x repl : Str} {t u : Tok} {D : Addr} {find : Nat → Option (Nat × Nat)} {h₀ : Heap} (F : Finds code x.cps find) (hx : x.cps.size ≤ 2 ^ 20) (hr : repl.length ≤ 2)
    (hP : PatAt h₀ P code) (hDn : h₀.objs.size ≤ D) :
    ∀ (fuel d : Nat) (n : Int) (must : Bool) (l : List (Str × Tok)) (s : Shared) (R : Result → Shared → Prop),
      x.cps.size - d < fuel → d ≤ x.cps.size → s.heap.IsList D (strValues l).toArray → h₀.StaysIn s.heap →
      l.length ≤ 2 * d → (l.map (·.1.length)).sum ≤ 2 * d →
      (∀ tk h' tk', h₀.StaysIn h' → R (.ok (.ret (.str (joinAll (l.map (·.1) ++ pieces find x.cps repl fuel d)) tk))) { s with heap := h', toks := tk' }) →
      codeAny (model PG w) A (.builtin "re.Pattern.sub.loop" ⟨[.ref P, .str x t, .str repl u, rawInt 0, rawInt 0, rawInt n, rawInt d, rawInt d, .bool must, .ref D, .bool false], []⟩) R s := by
  intro fuel
  induction fuel with
  | zero => intro d n must l s R hf; omega
  | succ fuel ih =>
    intro d n must l s R hf hd hD hst hlen hsum hR
    refine codeAny_builtin entry_pat_loop ?_
    rw [Around.under_plainId (by decide +kernel)]
    unfold «re.Pattern.sub.loop»
    dsimp only
    refine wpAny_bind (whole (hP.keeps hst) ?_)
    rw [if_pos (show ((0 : Int) == 0) = true from rfl)]
    refine wpAny_bind (wpAny_of_eq (show reLiteralCannotBeTurned (.str repl u) = pure () from rfl) ?_)
    dsimp only
    have hb : ((0 : Int) != 0 && decide (n ≥ 0)) = false := rfl
    rw [hb, if_neg Bool.false_ne_true]
    simp only [Int.toNat_natCast]
    refine wpAny_bind (nextFound F rfl rfl hd ?_)
    have hz := sz
    cases hfd : find d with
    | none =>
      dsimp only
      have hpc : pieces find x.cps repl (fuel + 1) d = if d < x.cps.size then [⟨x.cps.extract d x.cps.size⟩] else [] := by
        unfold pieces; rw [hfd]
      rw [hpc] at hR
      have fin : ∀ (l' : List (Str × Tok)) (s' : Shared), s'.heap.IsList D (strValues l').toArray → h₀.StaysIn s'.heap → (l'.map (·.1.length)).sum ≤ 2 ^ 22 →
          (∀ tk h' tk', h₀.StaysIn h' → R (.ok (.ret (.str (joinAll (l'.map (·.1))) tk))) { s' with heap := h', toks := tk' }) →
          wpAny (model PG w) A.in1 (do
            let joiner ← reSlice x.cps 0 0 0
            let text ← if ((← seqItems? (.ref D)).getD #[]).isEmpty then pure joiner else call (.builtin "str.join") [joiner, .ref D]
            ret text) (fun fin s' => match fin with | .done f => R (.ok f) s' | .again c' => c'.quiet = true ∧ codeAny (model PG w) A c' R s') (fun e s' => R (.error e) s') s' := by
        intro l' s' hD' hst' hsum' hR'
        refine wpAny_bind (slice0 (text := x.cps) ?_ (by omega))
        have hD2 := hD'
        obtain ⟨o, ho, hc, n', hdt⟩ := hD'
        refine wpAny_bind (wpAny_seqItems (s := { s' with toks := s'.toks + 1 }) ho hdt ?_)
        have e0 : (⟨x.cps.extract 0 0⟩ : Str) = ⟨#[]⟩ := by simp
        rw [e0]
        cases l' with
        | nil =>
          rw [if_pos (show (((some (strValues []).toArray).getD #[]).isEmpty) = true from rfl)]
          exact wpAny_bind (wpAny_pure (wpAny_pure (hR' _ _ _ hst')))
        | cons p r =>
          rw [if_neg (by simp [strValues])]
          refine wpAny_bind (SC.join (s := { s' with toks := s'.toks + 1 }) (l := p :: r) hD2 rfl ?_ fun t' k => wpAny_pure ?_)
          · unfold JoinOk
            rw [StrLaws.joinTotal]
            have : ((p :: r).map (·.1.length)).sum = (((p :: r).map (·.1)).map (·.length)).sum := by rw [List.map_map]; rfl
            rw [this] at hsum'
            have hl0 : ((⟨#[]⟩ : Str).length) = 0 := rfl
            rw [hl0, Nat.mul_zero, Nat.add_zero]
            unfold Builtin.Str.tooLong
            rw [decide_eq_false (by omega)]; rfl
          · rw [join_all]
            exact hR' _ _ _ hst'
      by_cases hlt : d < x.cps.size
      · rw [if_pos hlt] at hR
        rw [if_pos (show d < x.cps.size from hlt)]
        refine wpAny_bind (slice0 (text := x.cps) ?_ (by omega))
        refine wpAny_bind (push_val (s := { s with toks := s.toks + 1 }) hD hst hDn (by rw [strValues_len]; omega) fun h' hD' hst' => ?_)
        rw [strValues_push] at hD'
        refine fin _ { s with toks := s.toks + 1, heap := h' } hD' hst' ?_ fun tk h'' tk' hs'' => ?_
        · simp only [List.map_append, List.map_cons, List.map_nil, List.sum_append, List.sum_cons, List.sum_nil]
          have : (⟨x.cps.extract d x.cps.size⟩ : Str).length ≤ x.cps.size := by
            show (x.cps.extract _ _).size ≤ _
            rw [Array.size_extract]; omega
          omega
        · have := hR tk h'' tk' hs''
          simp only [List.map_append, List.map_cons, List.map_nil]
          exact this
      · rw [if_neg hlt] at hR
        rw [if_neg (show ¬ d < x.cps.size from hlt)]
        refine fin _ s hD hst (by omega) fun tk h'' tk' hs'' => ?_
        have := hR tk h'' tk' hs''
        rwa [List.append_nil] at this
    | some ab =>
      obtain ⟨a, b⟩ := ab
      dsimp only
      intro m hm1 hm2 h1 h2 h3
      have hpc : pieces find x.cps repl (fuel + 1) d = (if d < a then [⟨x.cps.extract d a⟩] else []) ++ repl :: pieces find x.cps repl fuel b := by
        conv => lhs; unfold pieces
        rw [hfd]
      rw [hpc] at hR
      rw [hm1, hm2]
      have fin : ∀ (l' : List (Str × Tok)) (s' : Shared), s'.heap.IsList D (strValues l').toArray → h₀.StaysIn s'.heap → l'.length + 1 ≤ 2 * b → (l'.map (·.1.length)).sum + 2 ≤ 2 * b →
          (∀ tk h' tk', h₀.StaysIn h' → R (.ok (.ret (.str (joinAll (l'.map (·.1) ++ repl :: pieces find x.cps repl fuel b)) tk))) { s' with heap := h', toks := tk' }) →
          wpAny (model PG w) A.in1 (do
            let item ← pure (Value.str repl u)
            if item != .none then do
              updateSeq D (·.push item)
              again (.builtin "re.Pattern.sub.loop" ⟨[.ref P, .str x t, .str repl u, rawInt 0, rawInt 0, rawInt (n + 1), rawInt b, rawInt b, .bool (b == a), .ref D, .bool false], []⟩)
            else again (.builtin "re.Pattern.sub.loop" ⟨[.ref P, .str x t, .str repl u, rawInt 0, rawInt 0, rawInt (n + 1), rawInt b, rawInt b, .bool (b == a), .ref D, .bool false], []⟩))
            (fun fin s' => match fin with | .done f => R (.ok f) s' | .again c' => c'.quiet = true ∧ codeAny (model PG w) A c' R s') (fun e s' => R (.error e) s') s' := by
        intro l' s' hD' hst' hl' hsum' hR'
        refine wpAny_bind (wpAny_pure ?_)
        rw [if_pos (show (Value.str repl u != Value.none) = true from by simp)]
        refine wpAny_bind (push_val hD' hst' hDn (by rw [strValues_len]; omega) fun h' hD2 hst2 => wpAny_pure ⟨plainId_quiet (by decide +kernel) _, ?_⟩)
        rw [strValues_push] at hD2
        refine ih b (n + 1) (b == a) (l' ++ [(repl, u)]) { s' with heap := h' } R (by omega) h3 hD2 hst2 (by rw [List.length_append, List.length_singleton]; omega) ?_ fun tk h'' tk' hs'' => ?_
        · simp only [List.map_append, List.map_cons, List.map_nil, List.sum_append, List.sum_cons, List.sum_nil]
          omega
        · have := hR' tk h'' tk' hs''
          simp only [List.map_append, List.map_cons, List.map_nil, List.append_assoc, List.cons_append, List.nil_append]
          exact this
      by_cases hlt : d < a
      · rw [if_pos hlt] at hR
        rw [if_pos (show d < a from hlt)]
        refine wpAny_bind (slice0 (text := x.cps) ?_ (by omega))
        refine wpAny_bind (push_val (s := { s with toks := s.toks + 1 }) hD hst hDn (by rw [strValues_len]; omega) fun h' hD' hst' => ?_)
        rw [strValues_push] at hD'
        refine fin _ { s with toks := s.toks + 1, heap := h' } hD' hst' (by rw [List.length_append, List.length_singleton]; omega) ?_ fun tk h'' tk' hs'' => ?_
        · simp only [List.map_append, List.map_cons, List.map_nil, List.sum_append, List.sum_cons, List.sum_nil]
          have : (⟨x.cps.extract d a⟩ : Str).length ≤ a - d := by
            show (x.cps.extract _ _).size ≤ _
            rw [Array.size_extract]
            omega
          omega
        · have := hR tk h'' tk' hs''
          simp only [List.map_append, List.map_cons, List.map_nil, List.append_assoc, List.cons_append, List.nil_append] at this ⊢
          exact this
      · rw [if_neg hlt] at hR
        rw [if_neg (show ¬ d < a from hlt)]
        exact fin _ s hD hst (by omega) (by omega) fun tk h'' tk' hs'' => hR tk h'' tk' hs''
end
end Mine
end
section
set_option maxRecDepth 100000
namespace Mine
open PySem PySem.Builtin PySem.Builtin.Re PySem.Calls PySem.Spec
section
variable {w : World} {A : Around} {E : Value → Shared → Prop} {s : Shared}

theorem named3 (a b : Value) : reNamed "re.Pattern.sub" "sub" ["repl", "string", "count"] 2 [a, b] [] = pure [some a, some b, none] := rfl

theorem sub_call {P : Addr} {code : Array Nat} {x repl : Str} {t u : Tok} {find : Nat → Option (Nat × Nat)} {Q : Value → Shared → Prop} (F : Finds code x.cps find) (hx : x.cps.size ≤ 2 ^ 20) (hr : repl.length ≤ 2)
    (h92 : repl.cps.contains 92 = false) (hP : PatAt s.heap P code)
    (hQ : ∀ tk h' tk', s.heap.StaysIn h' → Q (.str (joinAll (pieces find x.cps repl (x.cps.size + 1) 0)) tk) { s with heap := h', toks := tk' }) :
    wpAny (model PG w) A (call (.builtin "re.Pattern.sub") [.ref P, .str repl u, .str x t]) Q E s := by
  refine wpAny_call (codeAny_call_builtin slot_pat_sub.plain entry_pat_sub (slot_pat_sub.check _ _ _ _ _ _ _ _ hP.typeIs (args_pat_sub_3 _ _ _) ?_))
  unfold «re.Pattern.sub» reSubstitute
  dsimp only
  refine wpAny_bind (wpAny_of_eq (named3 _ _) ?_)
  dsimp only
  refine wpAny_bind (wpAny_pure ?_)
  refine wpAny_bind (wpAny_specialOf (s := s) (v := .str repl u) (typeIs_str _ _ _) str_no_call ?_)
  simp only [Option.isSome_none, Bool.false_eq_true, if_false]
  refine wpAny_bind (wpAny_of_eq (show asStr? (.str repl u) = pure (some repl) from rfl) ?_)
  dsimp only
  refine wpAny_bind (wpAny_pure ?_)
  rw [h92]
  simp only [Bool.not_false, if_true]
  refine wpAny_bind (wpAny_pure ?_)
  dsimp only
  refine wpAny_bind (wpAny_holding (whole hP ?_))
  rw [if_neg (show ¬ ((0 : Int) == 1) = true from by decide)]
  refine wpAny_bind (wpAny_newList ?_)
  refine wpAny_pure ⟨plainId_quiet (by decide +kernel) _, ?_⟩
  have hst : s.heap.StaysIn (s.heap.push { cls := .type "list", data := .seq #[] }) := fun b o e => Heap.get?_push_of_some _ e
  exact loop_ok (h₀ := s.heap) F hx hr hP (Nat.le_refl _) (x.cps.size + 1) 0 0 false [] { s with heap := s.heap.push { cls := .type "list", data := .seq #[] } } _ (by omega) (Nat.zero_le _)
    ⟨_, Heap.get?_push_size _ rfl, rfl, _, rfl⟩ hst (Nat.zero_le _) (Nat.zero_le _) fun tk h' tk' st => hQ tk h' tk' st
end
end Mine
end
section
set_option maxRecDepth 100000
namespace Mine
open PySem PySem.Sre

noncomputable def nextDot (text : Array Nat) : (fuel s : Nat) → Option Nat
  | 0, _ => none
  | f + 1, s => if s ≥ text.size then none else if (begins text s && text.getD s 0 == 46) = true then some s else nextDot text f (s + 1)
noncomputable def find1 (text : Array Nat) (s : Nat) : Option (Nat × Nat) := (nextDot text (text.size + 1 - s) s).map fun i => (i, i + 1)
noncomputable def past (text : Array Nat) (i : Nat) : Nat := if (text.getD i 0 == 13 && (decide (i + 1 < text.size) && text.getD (i + 1) 0 == 10)) = true then i + 2 else i + 1
noncomputable def find2 (text : Array Nat) (s : Nat) : Option (Nat × Nat) := (nextNl text (text.size + 1 - s) s).map fun i => (i, past text i)

theorem runs1 (text : Array Nat) : ∀ (n s : Nat) (f must : Bool) (seen : Seen), s ≤ text.size → text.size - s = n → ∃ k, k ≤ 3 * n + 5 ∧ match nextDot text (n + 1) s with
    | some i => s ≤ i ∧ i < text.size ∧ Ends k (st1 text s f must seen) i (i + 1)
    | none => (M.runFor k (st1 text s f must seen)).outcome = some .failed
  | 0, s, f, must, seen, hs, hn => by
    have e : s = text.size := by omega
    subst e
    refine ⟨4, by omega, ?_⟩
    unfold nextDot
    rw [if_pos (Nat.le_refl _)]
    exact st1_end ..
  | n + 1, s, f, must, seen, hs, hn => by
    have hlt : s < text.size := by omega
    unfold nextDot
    rw [if_neg (by omega)]
    cases hc : (begins text s && text.getD s 0 == 46) with
    | true =>
      rw [if_pos rfl]
      obtain ⟨h1, h2⟩ := Bool.and_eq_true_iff.mp hc
      exact ⟨5, by omega, Nat.le_refl _, hlt, st1_yes text s f must seen hlt h1 h2⟩
    | false =>
      rw [if_neg Bool.false_ne_true]
      obtain ⟨k, seen', hk0, hk, e⟩ := st1_no text s f must seen hlt hc
      obtain ⟨k', hk', h⟩ := runs1 text n (s + 1) false false seen' (by omega) (by omega)
      refine ⟨k + k', by omega, ?_⟩
      cases hd : nextDot text (n + 1) (s + 1) with
      | none =>
        rw [hd] at h
        show (M.runFor (k + k') _).outcome = _
        rw [runFor_add, e]; exact h
      | some i =>
        rw [hd] at h
        obtain ⟨a, b, c⟩ := h
        refine ⟨by omega, b, ?_⟩
        unfold Ends
        rw [runFor_add, e]; exact c

theorem finds1 (text : Array Nat) (hx : text.size ≤ 2 ^ 20) : Finds code1 text (find1 text) := by
  intro s must hs
  by_cases hlt : s < text.size
  · rw [search1 text s must hlt]
    obtain ⟨k, hk, h⟩ := runs1 text (text.size - s) s true must (({} : Seen).add 14) hs rfl
    refine ⟨k, by omega, ?_⟩
    unfold find1
    have e : text.size + 1 - s = text.size - s + 1 := by omega
    rw [e]
    cases hd : nextDot text (text.size - s + 1) s with
    | none => rw [hd] at h; exact h
    | some i =>
      rw [hd] at h
      exact ⟨h.1, Nat.lt_succ_self _, h.2.1, h.2.2⟩
  · have e : s = text.size := by omega
    refine ⟨1, by decide, ?_⟩
    unfold find1
    have e2 : nextDot text (text.size + 1 - s) s = none := by
      rw [show text.size + 1 - s = 0 + 1 from by omega]
      unfold nextDot
      rw [if_pos (by omega)]
    rw [e2]
    exact search1_end text s must (by omega)

theorem nextNl_spec (text : Array Nat) : ∀ (fuel s : Nat), match nextNl text fuel s with
    | some i => s ≤ i ∧ i < text.size ∧ nl (text.getD i 0) = true
    | none => True
  | 0, s => trivial
  | f + 1, s => by
    unfold nextNl
    by_cases h : s ≥ text.size
    · rw [if_pos h]; trivial
    · rw [if_neg h]
      cases hn : nl (text.getD s 0) with
      | true => rw [if_pos rfl]; exact ⟨Nat.le_refl _, by omega, hn⟩
      | false =>
        rw [if_neg Bool.false_ne_true]
        have := nextNl_spec text f (s + 1)
        cases hd : nextNl text f (s + 1) with
        | none => trivial
        | some i => rw [hd] at this; exact ⟨by omega, this.2⟩

theorem finds2 (text : Array Nat) (hx : text.size ≤ 2 ^ 20) : Finds code2 text (find2 text) := by
  intro s must hs
  by_cases hlt : s < text.size
  · obtain ⟨seen, e⟩ := search2 text s must hlt
    have sp := nextNl_spec text (text.size + 1 - s) s
    unfold find2
    cases hd : nextNl text (text.size + 1 - s) s with
    | none =>
      rw [hd] at e
      refine ⟨1, by decide, ?_⟩
      rw [e]; rfl
    | some i =>
      rw [hd] at e sp
      obtain ⟨h1, h2, h3⟩ := sp
      have hp : past text i ≤ text.size ∧ i < past text i := by
        by_cases h : (text.getD i 0 == 13 && (decide (i + 1 < text.size) && text.getD (i + 1) 0 == 10)) = true
        · have e : past text i = i + 2 := if_pos h
          have h' := of_decide_eq_true (Bool.and_eq_true_iff.mp (Bool.and_eq_true_iff.mp h).2).1
          rw [e]; exact ⟨by omega, by omega⟩
        · have e : past text i = i + 1 := if_neg h
          rw [e]; exact ⟨by omega, by omega⟩
      suffices h : ∃ k, k ≤ 2 ^ 32 ∧ Ends k (st2 text i 10 i true [fS i] 1 none i seen) i (past text i) by
        obtain ⟨k, hk, h⟩ := h
        refine ⟨k, hk, h1, hp.2, hp.1, ?_⟩
        rw [e]; exact h
      cases h13 : text.getD i 0 == 13 with
      | true =>
        cases hl : (decide (i + 1 < text.size) && text.getD (i + 1) 0 == 10) with
        | true =>
          obtain ⟨a, b⟩ := Bool.and_eq_true_iff.mp hl
          refine ⟨8, by decide, ?_⟩
          have : past text i = i + 2 := by unfold past; rw [h13, hl]; rfl
          rw [this]
          exact st2_crlf text i seen h13 (of_decide_eq_true a) b
        | false =>
          refine ⟨15, by decide, ?_⟩
          have : past text i = i + 1 := by unfold past; rw [h13, hl]; rfl
          rw [this]
          refine st2_cr text i seen h2 h13 ?_
          rcases Bool.and_eq_false_iff.mp hl with a | a
          · exact .inl (Nat.not_lt.mp (of_decide_eq_false a))
          · exact .inr a
      | false =>
        have h10 : (text.getD i 0 == 10) = true := by
          unfold nl at h3
          rw [h13, Bool.or_false] at h3; exact h3
        refine ⟨9, by decide, ?_⟩
        have : past text i = i + 1 := by unfold past; rw [h13]; rfl
        rw [this]
        exact st2_lf text i seen h2 h10
  · refine ⟨1, by decide, ?_⟩
    unfold find2
    have e2 : nextNl text (text.size + 1 - s) s = none := by
      rw [show text.size + 1 - s = 0 + 1 from by omega]
      unfold nextNl
      rw [if_pos (by omega)]
    rw [e2]
    exact search2_end text s must (by omega)

/-- a dot more to each dot that begins a row -/
noncomputable def qd : Bool → List Nat → List Nat
  | _, [] => []
  | b, c :: r => if (b && c == 46) = true then 46 :: 46 :: qd false r else c :: qd (c == 10) r
theorem qd_cons (b : Bool) (c : Nat) (r : List Nat) : qd b (c :: r) = if (b && c == 46) = true then 46 :: 46 :: qd false r else c :: qd (c == 10) r := rfl
/-- each end of a row becomes both signs -/
noncomputable def fx : List Nat → List Nat
  | [] => []
  | c :: r => if c == 13 then 13 :: 10 :: (match r with | [] => [] | d :: r' => if d == 10 then fx r' else fx (d :: r')) else if c == 10 then 13 :: 10 :: fx r else c :: fx r

theorem drop_step {text : Array Nat} {d : Nat} (h : d < text.size) : text.toList.drop d = text.getD d 0 :: text.toList.drop (d + 1) := by
  rw [List.drop_eq_getElem_cons (by simpa using h)]
  congr 1
  simp [Array.getD, h]
theorem begins_succ (text : Array Nat) (d : Nat) : begins text (d + 1) = (text.getD d 0 == 10) := by
  unfold begins
  simp

theorem qd_next (text : Array Nat) : ∀ (fuel d : Nat), text.size - d < fuel → d ≤ text.size → qd (begins text d) (text.toList.drop d) = match nextDot text fuel d with
    | none => text.toList.drop d
    | some i => (text.toList.drop d).take (i - d) ++ 46 :: 46 :: qd (begins text (i + 1)) (text.toList.drop (i + 1))
  | 0, d, h, _ => by omega
  | f + 1, d, h, hd => by
    unfold nextDot
    by_cases hlt : d ≥ text.size
    · rw [if_pos hlt]
      have : text.toList.drop d = [] := List.drop_eq_nil_of_le (by simpa using hlt)
      simp only [this]; rfl
    · rw [if_neg hlt]
      have hs := drop_step (text := text) (d := d) (by omega)
      cases hc : (begins text d && text.getD d 0 == 46) with
      | true =>
        rw [if_pos rfl]
        dsimp only
        rw [hs, qd_cons, if_pos hc, begins_succ]
        have h46 := (Bool.and_eq_true_iff.mp hc).2
        rw [beq_iff_eq.mp h46]
        simp
      | false =>
        rw [if_neg Bool.false_ne_true]
        rw [hs, qd_cons, hc, if_neg Bool.false_ne_true, ← begins_succ, qd_next text f (d + 1) (by omega) (by omega)]
        cases hn : nextDot text f (d + 1) with
        | none => rfl
        | some i =>
          dsimp only
          have hi : d + 1 ≤ i := by
            have : ∀ (f s : Nat), match nextDot text f s with | some i => s ≤ i | none => True := by
              intro f
              induction f with
              | zero => intro s; trivial
              | succ f ih =>
                intro s
                unfold nextDot
                split
                · rename_i h; split at h
                  · cases h
                  · split at h
                    · cases h; exact Nat.le_refl _
                    · have := ih (s + 1); rw [h] at this; exact Nat.le_of_succ_le this
                · trivial
            have := this f (d + 1); rw [hn] at this; exact this
          rw [show i - d = (i - (d + 1)) + 1 from by omega, List.take_succ_cons]
          rfl

theorem ext_list (text : Array Nat) (d a : Nat) (h : a ≤ text.size) : (text.extract d a).toList = (text.toList.drop d).take (a - d) := by
  rw [Array.toList_extract]

theorem pieces1 (text : Array Nat) (repl : Str) (hr : repl.cps.toList = [46, 46]) : ∀ (fuel d : Nat), text.size - d < fuel → d ≤ text.size →
    (pieces (find1 text) text repl fuel d).flatMap (·.cps.toList) = qd (begins text d) (text.toList.drop d)
  | 0, d, h, _ => by omega
  | f + 1, d, h, hd => by
    have hf : find1 text d = (nextDot text (text.size + 1 - d) d).map fun i => (i, i + 1) := rfl
    unfold pieces
    rw [hf, qd_next text (text.size + 1 - d) d (by omega) hd]
    cases hn : nextDot text (text.size + 1 - d) d with
    | none =>
      dsimp only [Option.map]
      by_cases hlt : d < text.size
      · rw [if_pos hlt]
        simp only [List.flatMap_cons, List.flatMap_nil, List.append_nil]
        rw [ext_list _ _ _ (Nat.le_refl _)]
        exact List.take_of_length_le (by simp)
      · rw [if_neg hlt]
        have : text.toList.drop d = [] := List.drop_eq_nil_of_le (by simp; omega)
        rw [this]; rfl
    | some i =>
      dsimp only [Option.map]
      have hi := runs1 text (text.size - d) d true true {} hd rfl
      have e : text.size - d + 1 = text.size + 1 - d := by omega
      rw [e, hn] at hi
      obtain ⟨_, _, hi1, hi2, _⟩ := hi
      rw [List.flatMap_append, List.flatMap_cons, pieces1 text repl hr f (i + 1) (by omega) (by omega), hr]
      by_cases hlt : d < i
      · rw [if_pos hlt]
        simp only [List.flatMap_cons, List.flatMap_nil, List.append_nil]
        rw [ext_list _ _ _ (by omega)]
        rfl
      · rw [if_neg hlt, show i - d = 0 from by omega]
        rfl

theorem fx_cons (c : Nat) (r : List Nat) : fx (c :: r) = if c == 13 then 13 :: 10 :: (match r with | [] => [] | d :: r' => if d == 10 then fx r' else fx (d :: r')) else if c == 10 then 13 :: 10 :: fx r else c :: fx r := by
  conv => lhs; unfold fx

theorem fx_next (text : Array Nat) : ∀ (fuel d : Nat), text.size - d < fuel → d ≤ text.size → fx (text.toList.drop d) = match nextNl text fuel d with
    | none => text.toList.drop d
    | some i => (text.toList.drop d).take (i - d) ++ 13 :: 10 :: fx (text.toList.drop (past text i))
  | 0, d, h, _ => by omega
  | f + 1, d, h, hd => by
    unfold nextNl
    by_cases hlt : d ≥ text.size
    · rw [if_pos hlt]
      have : text.toList.drop d = [] := List.drop_eq_nil_of_le (by simpa using hlt)
      simp only [this]; unfold fx; rfl
    · rw [if_neg hlt]
      have hs := drop_step (text := text) (d := d) (by omega)
      cases hc : nl (text.getD d 0) with
      | true =>
        rw [if_pos rfl]
        dsimp only
        rw [hs, fx_cons]
        simp only [Nat.sub_self, List.take_zero, List.nil_append]
        cases h13 : text.getD d 0 == 13 with
        | true =>
          rw [if_pos rfl]
          congr 2
          by_cases hl : d + 1 < text.size
          · have hs2 := drop_step (text := text) (d := d + 1) hl
            rw [hs2]
            dsimp only
            cases h10 : text.getD (d + 1) 0 == 10 with
            | true =>
              rw [if_pos rfl]
              have : past text d = d + 2 := by unfold past; rw [h13, h10, decide_eq_true hl]; rfl
              rw [this]
            | false =>
              rw [if_neg Bool.false_ne_true, ← hs2]
              have : past text d = d + 1 := by unfold past; rw [h13, h10, decide_eq_true hl]; rfl
              rw [this]
          · have : text.toList.drop (d + 1) = [] := List.drop_eq_nil_of_le (by simp; omega)
            have hp : past text d = d + 1 := by unfold past; rw [h13, decide_eq_false hl]; rfl
            rw [hp, this]; unfold fx; rfl
        | false =>
          have h10 : (text.getD d 0 == 10) = true := by
            unfold nl at hc
            rw [h13, Bool.or_false] at hc; exact hc
          rw [if_neg Bool.false_ne_true, h10, if_pos rfl]
          have hp : past text d = d + 1 := by unfold past; rw [h13]; rfl
          rw [hp]
      | false =>
        rw [if_neg Bool.false_ne_true]
        obtain ⟨h10, h13⟩ := Bool.or_eq_false_iff.mp hc
        rw [hs, fx_cons, h13, h10, if_neg Bool.false_ne_true, if_neg Bool.false_ne_true, fx_next text f (d + 1) (by omega) (by omega)]
        have sp := nextNl_spec text f (d + 1)
        cases hn : nextNl text f (d + 1) with
        | none => rfl
        | some i =>
          rw [hn] at sp
          dsimp only
          rw [show i - d = (i - (d + 1)) + 1 from by omega, List.take_succ_cons]
          rfl

theorem past_le (text : Array Nat) (i : Nat) (h : i < text.size) : past text i ≤ text.size ∧ i < past text i := by
  by_cases h : (text.getD i 0 == 13 && (decide (i + 1 < text.size) && text.getD (i + 1) 0 == 10)) = true
  · have e : past text i = i + 2 := if_pos h
    have h' := of_decide_eq_true (Bool.and_eq_true_iff.mp (Bool.and_eq_true_iff.mp h).2).1
    rw [e]; exact ⟨by omega, by omega⟩
  · have e : past text i = i + 1 := if_neg h
    rw [e]; exact ⟨by omega, by omega⟩

theorem pieces2 (text : Array Nat) (repl : Str) (hr : repl.cps.toList = [13, 10]) : ∀ (fuel d : Nat), text.size - d < fuel → d ≤ text.size →
    (pieces (find2 text) text repl fuel d).flatMap (·.cps.toList) = fx (text.toList.drop d)
  | 0, d, h, _ => by omega
  | f + 1, d, h, hd => by
    have hf : find2 text d = (nextNl text (text.size + 1 - d) d).map fun i => (i, past text i) := rfl
    unfold pieces
    rw [hf, fx_next text (text.size + 1 - d) d (by omega) hd]
    have sp := nextNl_spec text (text.size + 1 - d) d
    cases hn : nextNl text (text.size + 1 - d) d with
    | none =>
      dsimp only [Option.map]
      by_cases hlt : d < text.size
      · rw [if_pos hlt]
        simp only [List.flatMap_cons, List.flatMap_nil, List.append_nil]
        rw [ext_list _ _ _ (Nat.le_refl _)]
        exact List.take_of_length_le (by simp)
      · rw [if_neg hlt]
        have : text.toList.drop d = [] := List.drop_eq_nil_of_le (by simp; omega)
        rw [this]; rfl
    | some i =>
      rw [hn] at sp
      dsimp only [Option.map]
      have hp := past_le text i sp.2.1
      rw [List.flatMap_append, List.flatMap_cons, pieces2 text repl hr f (past text i) (by omega) hp.1, hr]
      by_cases hlt : d < i
      · rw [if_pos hlt]
        simp only [List.flatMap_cons, List.flatMap_nil, List.append_nil]
        rw [ext_list _ _ _ (by omega)]
        rfl
      · rw [if_neg hlt, show i - d = 0 from by omega]
        rfl

/-- a text by its signs -/
noncomputable def S (l : List Nat) : Str := ⟨l.toArray⟩
theorem sub1_text (l : List Nat) (repl : Str) (hr : repl.cps.toList = [46, 46]) : joinAll (pieces (find1 (S l).cps) (S l).cps repl ((S l).cps.size + 1) 0) = S (qd true l) := by
  refine congrArg (fun l : List Nat => (⟨l.toArray⟩ : Str)) ?_
  rw [pieces1 _ _ hr _ _ (by omega) (Nat.zero_le _)]
  simp [S, begins]
theorem sub2_text (l : List Nat) (repl : Str) (hr : repl.cps.toList = [13, 10]) : joinAll (pieces (find2 (S l).cps) (S l).cps repl ((S l).cps.size + 1) 0) = S (fx l) := by
  refine congrArg (fun l : List Nat => (⟨l.toArray⟩ : Str)) ?_
  rw [pieces2 _ _ hr _ _ (by omega) (Nat.zero_le _)]
  simp [S]
end Mine
end
section
set_option maxRecDepth 100000
open PySem PySem.W PySem.Calls PyProof.Rows
set_option Elab.async false
namespace Mine

theorem pat_of {K : Frag} {h : Heap} {P B : Addr} {fs cv : Array Value} {n : Nat} {sl sl' : Array (Option Value)} {cl : Value} {dd : Option Addr} {code : Array Nat} (X : K.In h) (a : K.lookup P = some ⟨.type "re.Pattern", none, .fields fs, sl⟩)
    (b : K.lookup B = some ⟨cl, dd, .seq cv n, sl'⟩) (h5 : fs.getD 5 .none = .ref B) (h6 : fs.getD 6 .none = .int 0 0) (h2 : fs.getD 2 .none = .int 0 0) (hc : (cv.map Builtin.Re.reRawOf).map (·.toNat) = code) : PatAt h P code :=
  ⟨_, fs, B, _, cv, n, X _ _ a, rfl, rfl, rfl, h5, h6, h2, X _ _ b, rfl, hc⟩
theorem pat1_at {C : Ctxt} {h : Heap} (X : (h0.heap_1 C.w.params).In h) : PatAt h 36 code1 := by
  refine' pat_of (B := 35) X ?a ?b ?h5 ?h6 ?h2 ?hc
  case a => k_is
  case b => k_is
  case hc => decide +kernel
  all_goals exact rfl
theorem pat2_at {C : Ctxt} {h : Heap} (X : (h0.heap_1 C.w.params).In h) : PatAt h 41 code2 := by
  refine' pat_of (B := 40) X ?a ?b ?h5 ?h6 ?h2 ?hc
  case a => k_is
  case b => k_is
  case hc => decide +kernel
  all_goals exact rfl
theorem pat_method {M : Model} {A : Around} {E : Value → Shared → Prop} {s : Shared} {P : Addr} {code : Array Nat} {pl : Sem Bool} {Q : Value × List Value → Shared → Prop} (p : PatAt s.heap P code)
    (h : Q (.builtin "re.Pattern.sub", [.ref P]) s) : wpAny M A (getMethod (.ref P) (Str.ofString "sub") pl) Q E s := by
  refine getMethod_builtin p.typeIs plainAttrs_pat slot_pat_sub type_pat_sub (fun a e => ?_) h
  cases e
  obtain ⟨po, fs, C, co, cv, n, a, b, b', r⟩ := p.at'
  exact ⟨po, a, b'⟩
theorem sub1_call {w : World} {A : Around} {E : Value → Shared → Prop} {s : Shared} {h₀ : Heap} {L : Addr} {m : Str → Option Value} {l : List Nat} {t u : Tok} {Q : Value → Shared → Prop} (F : Fr h₀ L s.heap m) (hP : PatAt h₀ 36 code1) (hl : l.length ≤ 2 ^ 20)
    (hQ : ∀ tk h' tk', Fr h₀ L h' m → Q (.str (S (qd true l)) tk) { s with heap := h', toks := tk' }) : wpAny (model PG w) A (call (.builtin "re.Pattern.sub") [.ref 36, .str (Str.ofString "..") u, .str (S l) t]) Q E s := by
  refine sub_call (finds1 _ (by simpa [S] using hl)) (by simpa [S] using hl) (by decide) (by decide +kernel) (hP.keeps F.keep) fun tk h' tk' st => ?_
  rw [sub1_text l _ (by decide)]
  obtain ⟨oL, a1, a2, hL, a3⟩ := F.ns
  exact hQ tk h' tk' ⟨⟨oL, a1, a2, st _ _ hL, a3⟩, fun b o e => st _ _ (F.keep b o e), F.above⟩
theorem sub2_call {w : World} {A : Around} {E : Value → Shared → Prop} {s : Shared} {h₀ : Heap} {L : Addr} {m : Str → Option Value} {l : List Nat} {t u : Tok} {Q : Value → Shared → Prop} (F : Fr h₀ L s.heap m) (hP : PatAt h₀ 41 code2) (hl : l.length ≤ 2 ^ 20)
    (hQ : ∀ tk h' tk', Fr h₀ L h' m → Q (.str (S (fx l)) tk) { s with heap := h', toks := tk' }) : wpAny (model PG w) A (call (.builtin "re.Pattern.sub") [.ref 41, .str (Str.ofString "\r\n") u, .str (S l) t]) Q E s := by
  refine sub_call (finds2 _ (by simpa [S] using hl)) (by simpa [S] using hl) (by decide) (by decide +kernel) (hP.keeps F.keep) fun tk h' tk' st => ?_
  rw [sub2_text l _ (by decide)]
  obtain ⟨oL, a1, a2, hL, a3⟩ := F.ns
  exact hQ tk h' tk' ⟨⟨oL, a1, a2, st _ _ hL, a3⟩, fun b o e => st _ _ (F.keep b o e), F.above⟩
set_option maxHeartbeats 4000000 in
theorem c_fix (C : Ctxt) (l : List Nat) (t : Tok) (hl : l.length ≤ 2 ^ 18) : Con C 55 1 Any [.str (S l) t] (OutStr (S (fx l))) := by
  k_with_none
  k_with "con_enter" => (w_top off; (case k6 => k_is); (case k7 => k_is); (case k9 => exact rfl); (case kB => exact rfl); (case c5 => decide); (case c2 => exact rfl); (case c3 => exact rfl); (case c4 => exact rfl); (case sz => decide))
  k_with "getMethod ref" => (k_here; k_dflt (first | (refine' pat_method (P := 36) (code := code1) ?zqp ?_; (case zqp => exact (pat1_at (by assumption)).keeps (Fr.keep (by assumption)))) | (refine' pat_method (P := 41) (code := code2) ?zqp ?_; (case zqp => exact (pat2_at (by assumption)).keeps (Fr.keep (by assumption))))))
  k_with "call builtin:re.Pattern.sub" => (k_here; k_dflt (first | (refine' sub1_call ?zqF ?zqP ?zql ?_; (case zqF => assumption); (case zqP => exact pat1_at (by assumption)); (case zql => omega)) | (refine' sub2_call ?zqF ?zqP ?zql ?_; (case zqF => assumption); (case zqP => exact pat2_at (by assumption)); (case zql => omega))); intro tk8 h8 tk9 F8)
  refine' con_def (binds := [(Str.ofString "data", .str (S l) t)]) ?k6 ?k7 ?k9 ?kB ?c5 ?c2 ?c3 ?c4 ?sz ?_
  walk_at "con_enter"
  intro dp un fr gd s Q h₀ h₁ L tk X T hd hu hp F N hL hret
  try dsimp only
  k_steps
  all_goals (refine hret _ _ _ (Fr.keep (by assumption)) ⟨_, rfl⟩)
theorem fx_len : ∀ l : List Nat, (fx l).length ≤ 2 * l.length
  | [] => by unfold fx; exact Nat.zero_le _
  | c :: r => by
    rw [fx_cons]
    have ih := fx_len r
    split
    · cases r with
      | nil => simp
      | cons d r' =>
        have ih' := fx_len r'
        dsimp only
        split
        · simp only [List.length_cons]; omega
        · simp only [List.length_cons] at ih ⊢; omega
    · split
      · simp only [List.length_cons]; omega
      · simp only [List.length_cons]; omega
set_option maxHeartbeats 4000000 in
theorem c_quote (C : Ctxt) (l : List Nat) (t : Tok) (hl : l.length ≤ 2 ^ 18) : Con C 48 1 Any [.str (S l) t] (OutStr (S (qd true (fx l)))) := by
  refine' con_def (binds := [(Str.ofString "data", .str (S l) t)]) ?k6 ?k7 ?k9 ?kB ?c5 ?c2 ?c3 ?c4 ?sz ?_
  walk_at "con_enter"
  intro dp un fr gd s Q h₀ h₁ L tk X T hd hu hp F N hL hret
  have hl2 := fx_len l
  try dsimp only
  k_steps
  all_goals (refine hret _ _ _ (Fr.keep (by assumption)) ⟨_, rfl⟩)
end Mine
end
section
set_option maxRecDepth 100000
namespace Mine
open PySem PySem.W PySem.Calls PyProof.Rows PySem.Builtin PySem.Builtin.Str

noncomputable def dots (n : Nat) : List Nat := List.replicate n 46
theorem S_len (l : List Nat) : (S l).length = l.length := rfl
theorem S_app (a b : List Nat) : S a ++ S b = S (a ++ b) := by
  refine str_ext ?_
  rw [Str.cps_append]
  simp [S]
theorem S_inj {a b : List Nat} (h : S a = S b) : a = b := by
  have := congrArg (fun x : Str => x.cps.toList) h
  simpa [S] using this
theorem S_of (x : Str) : x = S x.cps.toList := by
  cases x with | mk a => simp [S]

theorem l_empty : Str.ofString "" = S [] := by decide +kernel
theorem l_dot : Str.ofString "." = S [46] := by decide +kernel
theorem l_nl : Str.ofString "\n" = S [10] := by decide +kernel
theorem l_cr : Str.ofString "\r" = S [13] := by decide +kernel
theorem l_crnl : Str.ofString "\r\n" = S [13, 10] := by decide +kernel
theorem l_open : Str.ofString "**(" = S [42, 42, 40] := by decide +kernel
theorem l_minus : Str.ofString "-." = S [45, 46] := by decide +kernel
theorem l_close : Str.ofString ")*" = S [41, 42] := by decide +kernel
theorem l_plus : Str.ofString "+\n" = S [43, 10] := by decide +kernel
theorem l_nought : Str.ofString "\n(.-.)" = S [10, 40, 46, 45, 46, 41] := by decide +kernel
theorem l_dots : Str.ofString "..." = S [46, 46, 46] := by decide +kernel

theorem foldl_rep (a : Array Nat) (n : Nat) (acc : Array Nat) : ((List.replicate n a).foldl (· ++ ·) acc).toList = acc.toList ++ (List.replicate n a.toList).flatten := by
  induction n generalizing acc with
  | zero => simp
  | succ n ih =>
    rw [List.replicate_succ, List.foldl_cons, ih]
    simp [List.replicate_succ, List.append_assoc]
theorem mul_dots (i : Int) (h : 0 ≤ i) : Txt.mul (S [46]) i = S (dots i.toNat) := by
  unfold Txt.mul
  split
  · have : i.toNat = 0 := by omega
    rw [this]; rfl
  · split
    · rename_i h1 h2
      have : i = 1 := by simpa [S_len] using h2
      subst this; rfl
    · refine str_ext ?_
      rw [foldl_rep]
      show [] ++ (List.replicate i.toNat [46]).flatten = dots i.toNat
      unfold dots
      rw [List.nil_append]
      generalize i.toNat = n
      induction n with
      | zero => rfl
      | succ n ih => rw [List.replicate_succ, List.flatten_cons, ih]; rfl

section
variable {prog : Program} {w : World} {A : Around} {E : Value → Shared → Prop} {s : Shared} {x y : Str} {t u : Tok} {a b : List Nat} {i : Int} {Q : Value → Shared → Prop}
theorem w_add (hx : x = S a) (hy : y = S b) (hz : a.length + b.length ≤ 16777216) (h : ∀ t' k, Q (.str (S (a ++ b)) t') { s with toks := k }) :
    wpAny (model prog w) A (binaryOp .Add (.str x t) (.str y u)) Q E s := by
  subst hx; subst hy
  refine add_str (fun t' k => ?_) (by rw [S_len, S_len, sz]; exact hz)
  rw [S_app]; exact h t' k
theorem w_iadd (hx : x = S a) (hy : y = S b) (hz : a.length + b.length ≤ 16777216) (h : ∀ t' k, Q (.str (S (a ++ b)) t') { s with toks := k }) :
    wpAny (model prog w) A (inplaceOp .Add (.str x t) (.str y u)) Q E s := by
  subst hx; subst hy
  refine iadd_str (fun t' k => ?_) (by rw [S_len, S_len, sz]; exact hz)
  rw [S_app]; exact h t' k
theorem w_dots (h0 : 0 ≤ i) (h1 : i ≤ ((1048576 : Nat) : Int)) (h : ∀ t' k, Q (.str (S (dots i.toNat)) t') { s with toks := k }) :
    wpAny (model prog w) A (binaryOp .Mult (.str (Str.ofString ".") t) (.int i u)) Q E s := by
  rw [l_dot]
  refine SB.mul (mulOk_of 16 1048576 (by rw [S_len]; decide) h1 (by omega) (by decide) (by decide)) fun t' k => ?_
  rw [mul_dots i h0]; exact h t' k
end
end Mine
end
section
set_option maxRecDepth 100000
namespace Mine
open PySem

/-- towers of twos: how deep a number's exponents reach -/
noncomputable def tow : Nat → Nat
  | 0 => 1
  | k + 1 => 2 ^ tow k

noncomputable def term (rec : Nat → List Nat) (b sh p d : Nat) : List Nat := [10] ++ dots sh ++ [42, 42, 40] ++ (if p < b then dots (p + 1) ++ [45, 46] else rec p) ++ [41, 42] ++ dots d
noncomputable def items (rec : Nat → List Nat) (b sh : Nat) : Nat → Nat → Nat → List (List Nat)
  | 0, _, _ => []
  | f + 1, n, p => if n = 0 then [] else (if n % b = 0 then [] else [term rec b sh p (n % b)]) ++ items rec b sh f (n / b) (p + 1)
noncomputable def glue : List (List Nat) → List Nat
  | [] => []
  | x :: r => x ++ r.flatMap fun y => [43, 10] ++ y
noncomputable def terms : Nat → Nat → Nat → Nat → List Nat
  | 0, _, _, _ => []
  | k + 1, b, sh, n => glue (items (terms k b sh) b sh n n 0)

theorem glue_len (l : List (List Nat)) : ∀ x ∈ l, x.length ≤ (glue l).length := by
  intro x hx
  cases l with
  | nil => cases hx
  | cons y r =>
    unfold glue
    rw [List.length_append]
    rcases List.mem_cons.mp hx with rfl | h
    · omega
    · have : x.length ≤ (r.flatMap fun y => [43, 10] ++ y).length := by
        clear hx
        induction r with
        | nil => cases h
        | cons z r ih =>
          rw [List.flatMap_cons, List.length_append, List.length_append]
          rcases List.mem_cons.mp h with rfl | h
          · omega
          · have := ih h; omega
      omega
theorem glue_sum (l : List (List Nat)) : (l.map List.length).sum + 2 * l.length ≤ (glue l).length + 2 := by
  cases l with
  | nil => simp [glue]
  | cons x r =>
    unfold glue
    rw [List.length_append, List.map_cons, List.sum_cons, List.length_cons]
    have : ∀ r : List (List Nat), (r.flatMap fun y => [43, 10] ++ y).length = (r.map List.length).sum + 2 * r.length := by
      intro r
      induction r with
      | nil => rfl
      | cons y r ih =>
        rw [List.flatMap_cons, List.length_append, ih, List.map_cons, List.sum_cons, List.length_append, List.length_cons]
        simp only [List.length_cons, List.length_nil]; omega
    rw [this]; omega
theorem tow_pos : ∀ k, 1 ≤ tow k
  | 0 => Nat.le_refl _
  | k + 1 => Nat.pos_of_ne_zero (by unfold tow; exact Nat.ne_of_gt (Nat.two_pow_pos _))
end Mine
end
section
set_option maxRecDepth 100000
namespace Mine
open PySem PySem.W PySem.Calls PyProof.Rows PySem.Builtin PySem.Builtin.Str
section
variable {prog : Program} {w : World} {A : Around} {E : Value → Shared → Prop} {s : Shared} {t u : Tok} {a b : Nat} {Q : Value → Shared → Prop}
theorem fmod_nat (a b : Nat) : (a : Int).fmod (b : Int) = ((a % b : Nat) : Int) := by
  rw [Int.fmod_eq_emod_of_nonneg _ (Int.natCast_nonneg b)]; rfl
theorem fdiv_nat (a b : Nat) : (a : Int).fdiv (b : Int) = ((a / b : Nat) : Int) := by
  rw [Int.fdiv_eq_ediv_of_nonneg _ (Int.natCast_nonneg b)]; rfl
theorem w_mod (hb : 0 < b) (h : Q (.int ((a % b : Nat) : Int) s.toks) { s with toks := s.toks + 1 }) : wpAny (model prog w) A (binaryOp .Mod (.int (a : Int) t) (.int (b : Int) u)) Q E s := by
  refine mod_int' (by omega) ?_
  rw [fmod_nat]; exact h
theorem w_idiv (hb : 0 < b) (hz : b < 1073741824) (h : Q (.int ((a / b : Nat) : Int) s.toks) { s with toks := s.toks + 1 }) : wpAny (model prog w) A (inplaceOp .FloorDiv (.int (a : Int) t) (.int (b : Int) u)) Q E s := by
  refine ifloordiv_int (by omega) ?_ (Or.inl (PyProof.noPylong_small (by omega)))
  rw [fdiv_nat]; exact h
theorem w_add1 (h : Q (.int ((a + 1 : Nat) : Int) s.toks) { s with toks := s.toks + 1 }) : wpAny (model prog w) A (binaryOp .Add (.int (a : Int) t) (.int 1 u)) Q E s := add_int h
theorem w_iadd1 (h : Q (.int ((a + 1 : Nat) : Int) s.toks) { s with toks := s.toks + 1 }) : wpAny (model prog w) A (inplaceOp .Add (.int (a : Int) t) (.int 1 u)) Q E s := iadd_int h
theorem w_dotsN (h1 : a ≤ 1048576) (h : ∀ t' k, Q (.str (S (dots a)) t') { s with toks := k }) :
    wpAny (model prog w) A (binaryOp .Mult (.str (Str.ofString ".") t) (.int (a : Int) u)) Q E s := w_dots (by omega) (by omega) h
end
theorem nat_lt_of {a b : Nat} (h : (a : Int) < b) : a < b := by omega
end Mine
namespace Mine
open PySem PySem.W PySem.Calls PyProof.Rows PySem.Builtin PySem.Builtin.Str
/-- a list of texts as it stands in the ledger -/
noncomputable def txts (ts : List (List Nat × Tok)) : List Value := strValues (ts.map fun p => (S p.1, p.2))
theorem txts_push (ts : List (List Nat × Tok)) (l : List Nat) (t : Tok) : (txts ts).toArray.push (.str (S l) t) = (txts (ts ++ [(l, t)])).toArray := by
  simp [txts, strValues]
theorem txts_len (ts : List (List Nat × Tok)) : (txts ts).length = ts.length := by simp [txts, strValues]
theorem join_glue (ls : List (List Nat)) : Txt.join (S [43, 10]) (ls.map S) = S (glue ls) := by
  refine str_ext ?_
  show (((ls.map S).drop 1).foldl (fun acc p => acc ++ (S [43, 10]).cps ++ p.cps) ((ls.map S).headD Str.empty).cps).toList = _
  rw [glue_fold]
  cases ls with
  | nil => rfl
  | cons x r =>
    simp only [List.map_cons, List.drop_succ_cons, List.drop_zero, List.headD_cons, glue, S, List.flatMap_map]
theorem w_glue {prog : Program} {w : World} {A : Around} {E : Value → Shared → Prop} {s : Shared} {t : Tok} {D : Addr} {ts : List (List Nat × Tok)} {Q : Value → Shared → Prop} (hD : s.heap.IsList D (txts ts).toArray) (hl : (glue (ts.map (·.1))).length ≤ 2 ^ 20)
    (hQ : ∀ t' k, Q (.str (S (glue (ts.map (·.1)))) t') { s with toks := k }) : wpAny (model prog w) A (call (.builtin "str.join") [.str (Str.ofString "+\n") t, .ref D]) Q E s := by
  rw [l_plus]
  refine SC.join (l := ts.map fun p : List Nat × Tok => (S p.1, p.2)) (texts := (ts.map (·.1)).map S) hD (by simp) ?_ fun t' k => ?_
  · unfold JoinOk
    rw [StrLaws.joinTotal]
    have h := glue_sum (ts.map (·.1))
    have e : (((ts.map (·.1)).map S).map (·.length)).sum = ((ts.map (·.1)).map List.length).sum := by
      rw [List.map_map]; rfl
    rw [e, S_len]
    unfold tooLong
    rw [sz, decide_eq_false]
    · rfl
    · simp only [List.length_map, List.length_cons, List.length_nil] at h ⊢
      omega
  · rw [join_glue]; exact hQ t' k
end Mine
namespace Mine
open PySem PySem.W PySem.Calls PyProof.Rows PySem.Builtin PySem.Builtin.Str
theorem w_append {prog : Program} {w : World} {A : Around} {E : Value → Shared → Prop} {s : Shared} {h₀ : Heap} {L D : Addr} {m : Str → Option Value} {news news' : List (Addr × Obj)} {ts : List (List Nat × Tok)} {cnt : Nat} {l : List Nat} {t : Tok} {Q : Value → Shared → Prop}
    (F : Fr h₀ L s.heap m) (N : News h₀ L s.heap news) (U : Upd D (listOf (txts ts).toArray cnt) (listOf (txts (ts ++ [(l, t)])).toArray (cnt + 1)) news news') (hz : ts.length ≤ 1048576)
    (h : ∀ h', Fr h₀ L h' m → News h₀ L h' news' → Q .none { s with heap := h' }) : wpAny (model prog w) A (call (.builtin "list.append") [.ref D, .str (S l) t]) Q E s := by
  rw [← txts_push] at U
  exact append_K F N U h (by rw [List.size_toArray, txts_len, sz]; omega)
end Mine
end
section
set_option maxRecDepth 100000
namespace Mine
open PySem PySem.W PySem.Calls PyProof.Rows PySem.Builtin PySem.Builtin.Str
section
variable {prog : Program} {w : World} {A : Around} {E : Value → Shared → Prop} {s : Shared} {t u : Tok} {a b : Nat} {Q : Value → Shared → Prop}
theorem w_pow (ha : a < 1099511627776) (hn : b ≤ 1000000) (h : Q (.int ((a ^ b : Nat) : Int) s.toks) { s with toks := s.toks + 1 }) : wpAny (model prog w) A (binaryOp .Pow (.int (a : Int) t) (.int (b : Int) u)) Q E s := by
  refine pow_int_small (by omega) (by omega) (by omega) ?_
  rw [Int.toNat_natCast, ← Int.natCast_pow]; exact h
theorem w_mulN (ha : a < 1099511627776) (h : Q (.int ((a * b : Nat) : Int) s.toks) { s with toks := s.toks + 1 }) : wpAny (model prog w) A (binaryOp .Mult (.int (a : Int) t) (.int (b : Int) u)) Q E s :=
  mul_int (by rw [← Int.natCast_mul]; exact h) (PySem.IntMulOk.of_left (PySem.intBits_le_64 (by omega) (by omega)))
theorem w_addN (h : Q (.int ((a + b : Nat) : Int) s.toks) { s with toks := s.toks + 1 }) : wpAny (model prog w) A (binaryOp .Add (.int (a : Int) t) (.int (b : Int) u)) Q E s := add_int h
theorem w_iaddN (h : Q (.int ((a + b : Nat) : Int) s.toks) { s with toks := s.toks + 1 }) : wpAny (model prog w) A (inplaceOp .Add (.int (a : Int) t) (.int (b : Int) u)) Q E s := iadd_int h
end
noncomputable def sumI (rec : Nat → Nat) (b w : Nat) : Nat → Nat → Nat → Nat
  | 0, _, _ => 0
  | f + 1, n, p => if n = 0 then 0 else (if n % b = 0 then 0 else n % b * w ^ rec p) + sumI rec b w f (n / b) (p + 1)
noncomputable def bump : Nat → Nat → Nat → Nat → Nat
  | 0, _, _, _ => 0
  | k + 1, b, w, n => sumI (bump k b w) b w n n 0
theorem sumI_step (rec : Nat → Nat) (b w n c p : Nat) (hc : 0 < c) (h : c * 2 ^ p ≤ n) : sumI rec b w (n - p) c p = (if c % b = 0 then 0 else c % b * w ^ rec p) + sumI rec b w (n - (p + 1)) (c / b) (p + 1) := by
  have h1 : p < 2 ^ p := Nat.lt_two_pow_self
  have h2 : 1 * 2 ^ p ≤ c * 2 ^ p := Nat.mul_le_mul_right _ hc
  have e : n - p = (n - (p + 1)) + 1 := by omega
  rw [e]
  conv => lhs; unfold sumI
  rw [if_neg (by omega)]
theorem sumI_done (rec : Nat → Nat) (b w f p : Nat) : sumI rec b w f 0 p = 0 := by
  cases f with
  | zero => rfl
  | succ f => unfold sumI; rw [if_pos rfl]
end Mine
namespace Mine
open PySem PySem.W PySem.Calls PyProof.Rows
section
variable {C : Ctxt} {f : Addr} {sz : Nat} {vs : List Value} {dp un : Nat} {fr : Option (List Env)} {gd : Option (List Code)} {s : Shared} {Q E : Value → Shared → Prop}
    {h₀ : Heap} {L : Addr} {m : Str → Option Value} {news : List (Addr × Obj)}
theorem con_useI {x : Int} (H : Con C f sz Any vs (OutInt x)) (F : Fr h₀ L s.heap m) (N : News h₀ L s.heap news) (X : (h0.heap_1 C.w.params).In h₀) (T : TP C.mean C.mg C.mb h₀)
    (hd : dp + sz < recursionLimit) (hu : un + 8 * sz < cLine) (ret : ∀ t h' tk', Fr h₀ L h' m → News h₀ L h' news → Q (.int x t) { s with heap := h', toks := tk' }) :
    wpAny (model PG C.w) (AR dp un fr gd) (call (.ref f) vs) Q E s :=
  con_use H F N X T hd hu trivial fun _ h' tk' _ F' N' o => by obtain ⟨t, rfl⟩ := o; exact ret t h' tk' F' N'
theorem con_useS {x : Str} (H : Con C f sz Any vs (OutStr x)) (F : Fr h₀ L s.heap m) (N : News h₀ L s.heap news) (X : (h0.heap_1 C.w.params).In h₀) (T : TP C.mean C.mg C.mb h₀)
    (hd : dp + sz < recursionLimit) (hu : un + 8 * sz < cLine) (ret : ∀ t h' tk', Fr h₀ L h' m → News h₀ L h' news → Q (.str x t) { s with heap := h', toks := tk' }) :
    wpAny (model PG C.w) (AR dp un fr gd) (call (.ref f) vs) Q E s :=
  con_use H F N X T hd hu trivial fun _ h' tk' _ F' N' o => by obtain ⟨t, rfl⟩ := o; exact ret t h' tk' F' N'
theorem con_useB {x : Bool} (H : Con C f sz Any vs (OutBool x)) (F : Fr h₀ L s.heap m) (N : News h₀ L s.heap news) (X : (h0.heap_1 C.w.params).In h₀) (T : TP C.mean C.mg C.mb h₀)
    (hd : dp + sz < recursionLimit) (hu : un + 8 * sz < cLine) (ret : ∀ h' tk', Fr h₀ L h' m → News h₀ L h' news → Q (.bool x) { s with heap := h', toks := tk' }) :
    wpAny (model PG C.w) (AR dp un fr gd) (call (.ref f) vs) Q E s :=
  con_use H F N X T hd hu trivial fun _ h' tk' _ F' N' o => by cases o; exact ret h' tk' F' N'
end
end Mine
end
section
set_option maxRecDepth 100000
namespace Mine
open PySem

theorem runs_toks {M : Model} {Γ : Ctx} {p : Pos} {t : Sem PySem.Fin} {fs : List Frame} {s s' : Shared} {e : End} (h : Runs M Γ p t fs s e s') : s.toks ≤ s'.toks := by
  induction h with
  | done | raise | yield => exact Nat.le_refl _
  | fresh _ ih => exact Nat.le_trans (Nat.le_succ _) ih
  | call _ _ i1 i2 => exact Nat.le_trans i1 i2
  | resumeFresh _ _ _ _ i1 i2 => exact Nat.le_trans i1 i2
  | resumeSuspended _ _ _ _ i1 i2 => exact Nat.le_trans i1 i2
  | segRet _ _ i1 i2 => exact Nat.le_trans i1 i2
  | segGen _ _ i1 i2 => exact Nat.le_trans i1 i2
  | segSuspGen _ _ _ _ i1 i2 => exact Nat.le_trans i1 i2
  | _ => assumption

theorem wp_toks {α : Type} {M : Model} {Γ : Ctx} {E : Value → Pos → Shared → Prop} (t : Sem α) : ∀ {Q : α → Pos → Shared → Prop} {p : Pos} {s : Shared} {n : Nat}, n ≤ s.toks → Sem.wp M Γ t Q E p s → Sem.wp M Γ t (fun a p' s' => n ≤ s'.toks ∧ Q a p' s') E p s := by
  induction t with
  | pure a => intro Q p s n hn h; exact ⟨hn, h⟩
  | raise e => intro Q p s n hn h; exact h
  | unsupported w => intro Q p s n hn h; exact h
  | finish w => intro Q p s n hn h; exact h
  | rule tg k ih => intro Q p s n hn h; exact ih () hn h
  | «at» q k ih => intro Q p s n hn h; exact ih () hn h
  | load a pt k ih => intro Q p s n hn h; obtain ⟨o, h1, h2⟩ := h; exact ⟨o, h1, ih o hn h2⟩
  | update a pt f k ih => intro Q p s n hn h; exact ⟨h.1, ih () (s := { s with heap := s.heap.update a f }) hn h.2⟩
  | alloc o k ih => intro Q p s n hn h; exact ih _ (s := { s with heap := s.heap.push o }) hn h
  | loadIfAlive a k ih => intro Q p s n hn h; exact ih _ hn h
  | point l k ih => intro Q p s n hn h; exact ih () hn h
  | register a k ih => intro Q p s n hn h; exact h
  | fresh k ih => intro Q p s n hn h; exact ih _ (s := { s with toks := s.toks + 1 }) (Nat.le_succ_of_le hn) h
  | ask k ih => intro Q p s n hn h; exact ih _ hn h
  | choose src m k ih => intro Q p s n hn h; exact ⟨h.1, ih _ (s := { s with drawn := s.drawn.bump src }) hn h.2⟩
  | os q l k ih => intro Q p s n hn h; exact ih _ (s := { s with os := (Os.step s.os q).1 }) hn h
  | call c hd g l k ih =>
    intro Q p s n hn h
    obtain ⟨r, s1, h1, h2⟩ := h
    exact ⟨r, s1, h1, ih r (Nat.le_trans hn (runs_toks h1)) h2⟩
  | handled o k ih => intro Q p s n hn h; exact ih _ hn h
  | newGen c k ih => intro Q p s n hn h; exact ih _ (s := { s with gens := s.gens.push (.fresh c) }) hn h
  | genState g k ih => intro Q p s n hn h; obtain ⟨st, h1, h2⟩ := h; exact ⟨st, h1, ih _ hn h2⟩
  | resume g r l k ih =>
    intro Q p s n hn h
    obtain ⟨res, s1, h1, h2⟩ := h
    refine ⟨res, s1, h1, ih _ (Nat.le_trans hn ?_) h2⟩
    unfold Wakes at h1
    split at h1
    · exact h1.elim
    · split at h1
      · obtain ⟨e1, s2, a, _, _, rfl⟩ := h1; have := runs_toks a; exact this
      · rw [h1.2]; exact Nat.le_refl _
      · rw [h1.2]; exact Nat.le_refl _
    · obtain ⟨e1, s2, a, _, _, rfl⟩ := h1; have := runs_toks a; exact this
    · rw [h1.2]; exact Nat.le_refl _
    · rw [h1.2]; exact Nat.le_refl _
  | yield v g l k ih => intro Q p s n hn h; exact h
  | stack k ih => intro Q p s n hn h; exact ih _ hn h
  | fork c k ih => intro Q p s n hn h; exact h
  | thread k ih => intro Q p s n hn h; exact ih _ hn h
  | await a f b l k ih => intro Q p s n hn h; exact h

/-- what runs counts no token back -/
theorem wpAny_toks {α : Type} {M : Model} {A : Around} {E : Value → Shared → Prop} {s : Shared} {t : Sem α} {Q : α → Shared → Prop}
    (h : wpAny M A t (fun a s' => s.toks ≤ s'.toks → Q a s') E s) : wpAny M A t Q E s := fun Γ p hΓ =>
  Sem.wp_mono M Γ t (fun _ _ _ x => x.2 x.1) (fun _ _ _ x => x) p s (wp_toks t (Nat.le_refl _) (h Γ p hΓ))
end Mine
end
section
set_option maxRecDepth 100000
namespace Mine
open PySem PySem.Builtin PySem.Builtin.Str PySem.StrLaws

noncomputable def occL (sub : List Nat) : List Nat → Nat → Nat → List Nat
  | [], _, _ => []
  | c :: r, i, 0 => if ((c :: r).take sub.length == sub) = true then i :: occL sub r (i + 1) (sub.length - 1) else occL sub r (i + 1) 0
  | _ :: r, i, k + 1 => occL sub r (i + 1) k

theorem occ_run (x sub : Str) (limit : Nat) (hs : 1 ≤ sub.length) (hl : x.length < limit) : ∀ (n i : Nat) (found : Array Nat) (free : Nat), i + n = x.length + 1 → found.size ≤ i →
    (forIn (List.range' i n) (found, free) (occBody x sub x.length limit)).run.fst.toList = found.toList ++ occL sub.cps.toList (x.cps.toList.drop i) i (free - i)
  | 0, i, found, free, hi, hf => by
    have : x.cps.toList.drop i = [] := List.drop_eq_nil_of_le (by simp [Str.length] at hi ⊢; omega)
    rw [this]
    simp [occL]
  | n + 1, i, found, free, hi, hf => by
    rw [List.range'_succ, List.forIn_cons]
    have hsub : sub.cps.toList.length = sub.length := by simp [Str.length]
    unfold occBody
    by_cases hend : i = x.length
    · have hnil : x.cps.toList.drop i = [] := List.drop_eq_nil_of_le (by simp [Str.length] at hend ⊢; omega)
      rw [if_neg (by omega), hnil]
      have ih := occ_run x sub limit hs hl n (i + 1) found free (by omega) (by omega)
      have hnil2 : x.cps.toList.drop (i + 1) = [] := List.drop_eq_nil_of_le (by simp [Str.length] at hend ⊢; omega)
      rw [hnil2] at ih
      simp only [occL, List.append_nil] at ih ⊢
      exact ih
    · have hlt : i < x.cps.toList.length := by simp [Str.length] at hend hi ⊢; omega
      have hdr : x.cps.toList.drop i = x.cps.toList[i] :: x.cps.toList.drop (i + 1) := List.drop_eq_getElem_cons hlt
      by_cases hfree : free ≤ i
      · have e0 : free - i = 0 := by omega
        rw [e0]
        by_cases hm : ((x.cps.toList.drop i).take sub.length == sub.cps.toList) = true
        · have hfit : i + sub.length ≤ x.length := by
            have := congrArg List.length (beq_iff_eq.mp hm)
            rw [List.length_take, List.length_drop, hsub] at this
            simp [Str.length] at this hend hi ⊢; omega
          rw [if_pos ⟨⟨⟨by show found.size < limit; omega, hfree⟩, hfit⟩, by rw [subAt_eq]; exact hm⟩]
          have ih := occ_run x sub limit hs hl n (i + 1) (found.push i) (i + sub.length) (by omega) (by rw [Array.size_push]; omega)
          have e1 : i + sub.length - (i + 1) = sub.length - 1 := by omega
          rw [e1] at ih
          refine ih.trans ?_
          rw [hdr] at hm ⊢
          conv => rhs; unfold occL
          rw [hsub, if_pos hm]
          simp
        · rw [if_neg (fun h => hm (by rw [← subAt_eq]; exact h.2))]
          have ih := occ_run x sub limit hs hl n (i + 1) found free (by omega) (by omega)
          have e1 : free - (i + 1) = 0 := by omega
          rw [e1] at ih
          refine ih.trans ?_
          rw [hdr] at hm ⊢
          conv => rhs; unfold occL
          rw [hsub, if_neg hm]
      · rw [if_neg (by omega)]
        have ih := occ_run x sub limit hs hl n (i + 1) found free (by omega) (by omega)
        refine ih.trans ?_
        rw [hdr, show free - i = (free - (i + 1)) + 1 from by omega]
        rfl
theorem occ_list (x sub : Str) (limit : Nat) (hs : 1 ≤ sub.length) (hl : x.length < limit) : occurrences x sub 0 x.length limit = occL sub.cps.toList x.cps.toList 0 0 := by
  rw [occ_eq, Nat.sub_zero, occ_run x sub limit hs hl (x.length + 1) 0 #[] 0 (by omega) (Nat.le_refl _)]
  simp

noncomputable def partsL (full : List Nat) (w : Nat) : Nat → List Nat → List (List Nat)
  | a, [] => [full.drop a]
  | a, c :: r => (full.drop a).take (c - a) :: partsL full w (c + w) r
theorem parts_list (l : List Nat) (w : Nat) : ∀ (cuts : List Nat) (a : Nat), ((a :: cuts.map (· + w)).zip (cuts ++ [(S l).length])).map (fun (i, j) => strSub (S l) i j) = (partsL l w a cuts).map S
  | [], a => by
    simp only [List.map_nil, List.nil_append, List.zip_cons_cons, List.zip_nil_right, List.map_cons, partsL]
    congr 1
    refine str_ext ?_
    rw [strSub_toList]
    have : (S l).cps.toList = l := by simp [S]
    rw [this, S_len]
    show _ = l.drop a
    exact List.take_of_length_le (by simp)
  | c :: r, a => by
    have ih := parts_list l w r (c + w)
    simp only [List.map_cons, List.cons_append, List.zip_cons_cons, partsL] at ih ⊢
    rw [ih]
    congr 1
    refine str_ext ?_
    rw [strSub_toList]
    simp [S]
theorem partsBetween_list (l : List Nat) (cuts : List Nat) (w : Nat) : partsBetween (S l) cuts w = (partsL l w 0 cuts).map S := parts_list l w cuts 0

noncomputable def spl1 (c : Nat) : List Nat → List (List Nat)
  | [] => [[]]
  | a :: r => if a = c then [] :: spl1 c r else (a :: (spl1 c r).headD []) :: (spl1 c r).tail
noncomputable def spl2 : List Nat → List (List Nat)
  | [] => [[]]
  | [a] => [[a]]
  | a :: d :: r => if a = 13 ∧ d = 10 then [] :: spl2 r else (a :: (spl2 (d :: r)).headD []) :: (spl2 (d :: r)).tail
theorem spl1_cons (c a : Nat) (r : List Nat) : spl1 c (a :: r) = if a = c then [] :: spl1 c r else (a :: (spl1 c r).headD []) :: (spl1 c r).tail := rfl
theorem spl1_ne (c : Nat) (l : List Nat) : spl1 c l ≠ [] := by
  cases l with
  | nil => simp [spl1]
  | cons a r => unfold spl1; split <;> simp
theorem spl2_ne : ∀ l : List Nat, spl2 l ≠ []
  | [] => by simp [spl2]
  | [a] => by simp [spl2]
  | a :: d :: r => by unfold spl2; split <;> simp
theorem headD_tail {α : Type} (l : List α) (d : α) (h : l ≠ []) : l.headD d :: l.tail = l := by
  cases l with
  | nil => exact absurd rfl h
  | cons a r => rfl

theorem parts_spl1 (c : Nat) (full : List Nat) : ∀ (l pre : List Nat) (a i : Nat), full.drop a = pre ++ l → i = a + pre.length →
    partsL full 1 a (occL [c] l i 0) = (pre ++ (spl1 c l).headD []) :: (spl1 c l).tail
  | [], pre, a, i, h, hi => by
    simp only [occL, partsL, spl1, List.headD_cons, List.tail_cons]
    rw [h]
  | b :: l, pre, a, i, h, hi => by
    unfold occL
    by_cases hb : b = c
    · subst hb
      rw [if_pos (by simp)]
      have hd : full.drop (i + 1) = [] ++ l := by
        have : full.drop (a + (pre.length + 1)) = (full.drop a).drop (pre.length + 1) := by rw [List.drop_drop]
        rw [hi, Nat.add_assoc, this, h]
        simp
      have ih := parts_spl1 b full l [] (i + 1) (i + 1) hd (by simp)
      show (full.drop a).take (i - a) :: partsL full 1 (i + 1) (occL [b] l (i + 1) 0) = _
      rw [ih, h, spl1_cons, if_pos rfl]
      simp only [List.headD_cons, List.tail_cons, List.append_nil, List.nil_append]
      rw [headD_tail _ _ (spl1_ne b l)]
      congr 1
      rw [show i - a = pre.length from by omega]
      simp
    · rw [if_neg (by simp [hb])]
      rw [parts_spl1 c full l (pre ++ [b]) a (i + 1) (by rw [h]; simp) (by simp; omega)]
      rw [spl1_cons, if_neg hb]
      simp
theorem strKind_pos (x : Str) : 1 ≤ PySem.Builtin.Str.strKind x := by unfold PySem.Builtin.Str.strKind; split <;> (try split) <;> omega
theorem t_split1 (c : Nat) (hc : c < 256) (l : List Nat) : Txt.split (S l) (S [c]) = (spl1 c l).map S := by
  have hk : PySem.Builtin.Str.strKind (S [c]) = 1 := by
    unfold PySem.Builtin.Str.strKind
    rw [if_pos]
    simp [S, hc]
  have h1 := strKind_pos (S l)
  have ho := occ_list (S l) (S [c]) ((S l).length + 1) (Nat.le_refl _) (Nat.lt_succ_self _)
  have hp := parts_spl1 c l l [] 0 0 rfl rfl
  have e1 : (S [c]).cps.toList = [c] := by simp [S]
  have e2 : (S l).cps.toList = l := by simp [S]
  rw [e1, e2] at ho
  rw [List.nil_append, headD_tail _ _ (spl1_ne c l)] at hp
  have whole : (partsL l 1 0 (occL [c] l 0 0)).map S = (spl1 c l).map S := by rw [hp]
  unfold Txt.split
  rw [hk, ho, S_len]
  by_cases hlt : l.length < 1
  · have : l = [] := by cases l with | nil => rfl | cons a r => simp at hlt
    subst this
    rw [if_pos (by rw [S_len]; rfl)]
    rfl
  · have hc2 : (decide (l.length < (S [c]).length) || decide (PySem.Builtin.Str.strKind (S l) < 1)) = false := by
      rw [S_len]
      have a1 : ¬ l.length < [c].length := by simpa using hlt
      have a2 : ¬ PySem.Builtin.Str.strKind (S l) < 1 := by omega
      simp only [a1, a2, decide_false, Bool.or_false]
    rw [hc2, if_neg Bool.false_ne_true]
    by_cases he : (occL [c] l 0 0).isEmpty = true
    · rw [if_pos he]
      have : occL [c] l 0 0 = [] := List.isEmpty_iff.mp he
      rw [← whole, this]
      simp [partsL]
    · rw [if_neg he, partsBetween_list]
      exact whole

noncomputable def crlf : List Nat → List Nat
  | [] => []
  | a :: r => if a = 10 then 13 :: 10 :: crlf r else a :: crlf r
noncomputable def joinL (sep : List Nat) : List (List Nat) → List Nat
  | [] => []
  | x :: r => x ++ r.flatMap fun y => sep ++ y
theorem glued_list (sep : List Nat) (ls : List (List Nat)) : glued (S sep) (ls.map S) = S (joinL sep ls) := by
  refine str_ext ?_
  show (((ls.map S).drop 1).foldl (fun acc p => acc ++ (S sep).cps ++ p.cps) ((ls.map S).headD Str.empty).cps).toList = _
  rw [glue_fold]
  cases ls with
  | nil => rfl
  | cons x r => simp only [List.map_cons, List.drop_succ_cons, List.drop_zero, List.headD_cons, joinL, S, List.flatMap_map]
theorem joinL_cons (sep x : List Nat) (ls : List (List Nat)) (h : ls ≠ []) : joinL sep (x :: ls) = x ++ sep ++ joinL sep ls := by
  cases ls with
  | nil => exact absurd rfl h
  | cons y r => simp [joinL]
theorem join_spl1 : ∀ l : List Nat, joinL [13, 10] (spl1 10 l) = crlf l
  | [] => rfl
  | a :: r => by
    have ih := join_spl1 r
    unfold spl1 crlf
    by_cases h : a = 10
    · rw [if_pos h, if_pos h, joinL_cons _ _ _ (spl1_ne 10 r), ih]; rfl
    · rw [if_neg h, if_neg h, ← ih]
      cases hs : spl1 10 r with
      | nil => exact absurd hs (spl1_ne 10 r)
      | cons x t => simp [joinL]
theorem t_replace (l : List Nat) : Txt.replace (S l) (S [10]) (S [13, 10]) = S (crlf l) := by
  have ho := occ_list (S l) (S [10]) ((S l).length + 1) (Nat.le_refl _) (Nat.lt_succ_self _)
  have hp := parts_spl1 10 l l [] 0 0 rfl rfl
  have e1 : (S [10]).cps.toList = [10] := by simp [S]
  have e2 : (S l).cps.toList = l := by simp [S]
  rw [e1, e2] at ho
  rw [List.nil_append, headD_tail _ _ (spl1_ne 10 l)] at hp
  unfold Txt.replace
  rw [ho]
  by_cases he : (occL [10] l 0 0).isEmpty = true
  · rw [if_pos (by simp [he])]
    have : occL [10] l 0 0 = [] := List.isEmpty_iff.mp he
    rw [this] at hp
    rw [← join_spl1, ← hp]
    simp [partsL, joinL]
  · rw [if_neg (by simp [he, S_len]), partsBetween_list, glued_list]
    show S (joinL [13, 10] (partsL l 1 0 (occL [10] l 0 0))) = _
    rw [hp, join_spl1]
end Mine
end
section
set_option maxRecDepth 100000
namespace Mine
open PySem PySem.W PySem.Calls PyProof.Rows PySem.Builtin PySem.Builtin.Str
section
variable {prog : Program} {w : World} {A : Around} {E : Value → Shared → Prop} {s : Shared} {t u v : Tok} {l : List Nat} {h₀ : Heap} {L D : Addr} {m : Str → Option Value} {news : List (Addr × Obj)} {Q : Value → Shared → Prop}
theorem untag (ts : List (Str × Tok)) (ls : List (List Nat)) (h : ts.map (·.1) = ls.map S) : ∃ us : List (List Nat × Tok), us.map (·.1) = ls ∧ strValues ts = txts us := by
  refine ⟨ts.map fun p => (p.1.cps.toList, p.2), ?_, ?_⟩
  · rw [List.map_map]
    have : ((fun x : List Nat × Tok => x.1) ∘ fun p : Str × Tok => (p.1.cps.toList, p.2)) = (fun x : Str => x.cps.toList) ∘ fun p : Str × Tok => p.1 := rfl
    rw [this, ← List.map_map, h, List.map_map]
    have e : (fun x : Str => x.cps.toList) ∘ S = _root_.id := by
      funext x; simp [S]
    rw [e, List.map_id]
  · unfold txts
    rw [List.map_map]
    congr 1
    have : ((fun p : List Nat × Tok => (S p.1, p.2)) ∘ fun p : Str × Tok => (p.1.cps.toList, p.2)) = _root_.id := by
      funext p
      show (S p.1.cps.toList, p.2) = p
      rw [← S_of]
    rw [this, List.map_id]
theorem w_split (F : Fr h₀ L s.heap m) (N : News h₀ L s.heap news) {y : Str} {sep : List Nat} {ls : List (List Nat)} (hy : y = S sep) (hs : 1 ≤ sep.length) (he : Txt.split (S l) (S sep) = ls.map S) (hl : l.length ≤ 1048576)
    (h : ∀ ts D h' k, ts.map (·.1) = ls → Fr h₀ L h' m → News h₀ L h' ((D, listOf (txts ts).toArray 0) :: news) → (∀ p ∈ news, p.1 < D) → h₀.objs.size ≤ D → Q (.ref D) { s with heap := h', toks := k }) :
    wpAny (model prog w) A (call (.builtin "str.split") [.str (S l) t, .str y u]) Q E s := by
  subst hy
  refine splitN1 (hsz := by rw [S_len, sz]; omega) F N (by rw [S_len]; exact beq_eq_false_iff_ne.mpr (by omega)) fun ts h' k e F' N' => ?_
  obtain ⟨us, e1, e2⟩ := untag ts ls (e.trans he)
  rw [e2] at N'
  refine h us _ h' k e1 F' N' (fun p hp => Heap.lt_size (N p hp).1) ?_
  obtain ⟨oL, _, _, hL, _⟩ := F.ns
  have h1 := Heap.lt_size hL
  have h2 := F.above
  exact Nat.le_trans h2 (Nat.le_of_lt h1)
theorem w_replace (hu : u ≠ 0) (hv : v ≠ 0) (huv : u ≠ v) (hl : l.length ≤ 1048576) (h : ∀ t' k, Q (.str (S (crlf l)) t') { s with toks := k }) :
    wpAny (model prog w) A (call (.builtin "str.replace") [.str (S l) t, .str (Str.ofString "\n") u, .str (Str.ofString "\r\n") v]) Q E s := by
  rw [l_nl, l_crnl]
  refine SC.replaceW hu hv huv (by decide +kernel) (by rw [S_len]; exact hl) (by rw [S_len]; decide) fun t' k => ?_
  rw [t_replace]; exact h t' k
theorem w_item {value slice : Expr} {ts : List (List Nat × Tok)} {cnt j : Nat} {i : Int} {x : List Nat} {tx : Tok} (N : News h₀ L s.heap news) (hm : (D, listOf (txts ts).toArray cnt) ∈ news) (hi : i = (j : Int)) (hj : ts[j]? = some (x, tx)) (hz : j < 4611686018427387904) (h : Q (.str (S x) tx) s)
    (hs : subscripted slice false (.ref D) (.int i u) = operate [.ref D, .int i u] (getItem (.ref D) (.int i u)) := by with_unfolding_all rfl) :
    wpAny (model prog w) A (subscriptTail value slice (.ref D) (.int i u)) Q E s := by
  have hL : s.heap.IsList D (txts ts).toArray := N.isList hm
  subst hi
  refine tail_any hL.typeIs slot_list_getitem.lookup (wpAny_getItem_list hL (by omega) (by omega) ?_ h) hs
  simp [txts, strValues, hj]
end
section
variable {prog : Program} {w : World} {A : Around} {E : Value → Shared → Prop} {s : Shared} {env : Env} {h₀ : Heap} {x : Str} {body : List Stmt} {Q : Flow → Shared → Prop}
/-- what holds between the turns of a loop over a list that stood before the call -/
noncomputable def ForJ {σ : Type} (Led : σ → List (Addr × Obj)) (ps : σ → List (Str × Value)) (stored : List Str) (x : Str) (m₀ : Str → Option Value) (P : Nat → σ → Prop) (i : Nat) (m : Str → Option Value) (nx : List (Addr × Obj)) : Prop :=
  ∃ c : σ, nx = Led c ∧ (∀ p ∈ ps c, m p.1 = some p.2) ∧ (∀ z, z ≠ x → (∀ p ∈ ps c, z ≠ p.1) → stored.contains z = false → m z = m₀ z) ∧ P i c
theorem for_list {σ : Type} {l : Addr} {vs : List Value} {m₀ : Str → Option Value} (Led : σ → List (Addr × Obj)) (ps : σ → List (Str × Value)) (stored : List Str) (P : Nat → σ → Prop) (c₀ : σ)
    (hh : A.handled = none) (hl : h₀.IsList l vs.toArray) (F : Fr h₀ env.locals s.heap m₀) (N : News h₀ env.locals s.heap (Led c₀)) (hk : ∀ p ∈ ps c₀, m₀ p.1 = some p.2) (hp : P 0 c₀)
    (turn : ∀ (c : σ) i v (u : Str → Option Value) h tk own, vs[i]? = some v → OwnOff own ((Led c₀).map (·.1)) → (Led c).map (·.1) = (Led c₀).map (·.1) → P i c →
      Fr h₀ env.locals h (fun y => if y = x then some v else kstB (fun z => if stored.contains z then u z else m₀ z) (ps c) y) → News h₀ env.locals h (Led c ++ own) →
      wpAny (model prog w) A (execs body env) (InvPostN h₀ env.locals (ForJ Led ps stored x m₀ P (i + 1)) own ((Led c₀).map (·.1)) { s with heap := h, toks := tk } Q) E { s with heap := h, toks := tk })
    (done : ∀ (c : σ) (u : Str → Option Value) h tk, P vs.length c → Fr h₀ env.locals h (fun y => if y = x then u y else kstB (fun z => if stored.contains z then u z else m₀ z) (ps c) y) → News h₀ env.locals h (Led c) → Q .next { s with heap := h, toks := tk }) :
    wpAny (model prog w) A (pyIter (.ref l)) (fun it s₂ => LoopAtV prog w A h₀ env x body Q E it s₂) E s := by
  have hls : s.heap.IsList l vs.toArray := hl.at fun o e => F.keep l o e
  obtain ⟨ol, hol, _⟩ := _root_.id hl
  have hlt : l < h₀.objs.size := Heap.lt_size hol
  have hne : l ≠ s.heap.objs.size := Nat.ne_of_lt (Nat.lt_trans (Nat.lt_of_lt_of_le hlt F.above) F.ns.lt)
  refine wpAny_pyIter_list hls ?_
  have W := Walks.list (prog := prog) (w := w) hh s.heap.objs.size l hne vs.toArray
  rw [List.size_toArray] at W
  refine loop_invN (ForJ Led ps stored x m₀ P) W ?_ ?_ ?_ ?_ ⟨⟨_, Heap.get?_push_size _ rfl, rfl, rfl⟩, hls.at fun o e => Heap.get?_push_of_some _ e⟩ (F.push _) (fun p hp => ⟨Heap.get?_push_of_some _ (N p hp).1, (N p hp).2⟩) ⟨c₀, rfl, hk, fun _ _ _ _ => rfl, hp⟩ ?_ ?_
  · intro hm
    rcases List.mem_cons.mp hm with e | hm
    · exact absurd F.ns.lt (e ▸ Nat.lt_irrefl _)
    · exact absurd (Nat.lt_of_lt_of_le hlt F.above) ((List.mem_singleton.mp hm) ▸ Nat.lt_irrefl _)
  · intro b hb
    rw [List.mem_singleton.mp hb]
    exact next_is_new F
  · intro p hp hI
    exact absurd (Heap.lt_size (N p hp).1) ((List.mem_singleton.mp hI) ▸ Nat.lt_irrefl _)
  · intro q hq hI
    rcases List.mem_cons.mp hI with e | e
    · exact absurd (Heap.lt_size (N q hq).1) (e ▸ Nat.lt_irrefl _)
    · have h1 := (N q hq).2.2
      rw [List.mem_singleton.mp e, hol] at h1
      cases h1
  · rintro i v m₁ nx h tk own hi hv hadr hoff ⟨c, rfl, h1, h2, hp'⟩ F₁ N₁
    exact turn c i v m₁ h tk own (by simpa using hv) hoff hadr hp' (kst_fr h1 h2 F₁) N₁
  · rintro m₁ nx h tk ⟨c, rfl, h1, h2, hp'⟩ F₁ N₁
    exact done c m₁ h tk hp' (kst_frOut h1 h2 F₁) N₁
theorem for_end {σ : Type} {Led : σ → List (Addr × Obj)} {ps : σ → List (Str × Value)} {stored : List Str} {m₀ : Str → Option Value} {P : Nat → σ → Prop} {i : Nat} (c : σ) {L : Addr} {m' : Str → Option Value} {own news' : List (Addr × Obj)} {adr : List Addr} {s₁ : Shared} {h' : Heap} {tk : Nat}
    (F : Fr h₀ L h' m') (N : News h₀ L h' news') (hn : ∀ p ∈ Led c, p ∈ news') (ho : ∀ p ∈ own, p ∈ news') (ha : (Led c).map (·.1) = adr) (hk : ∀ p ∈ ps c, m' p.1 = some p.2) (hr : ∀ z, z ≠ x → (∀ p ∈ ps c, z ≠ p.1) → stored.contains z = false → m' z = m₀ z) (hp : P i c) :
    InvEndN h₀ L (ForJ Led ps stored x m₀ P i) own adr s₁ { s₁ with heap := h', toks := tk } :=
  InvEndN.intro F N ⟨c, rfl, hk, hr, hp⟩ ha hn ho
end
end Mine
namespace Mine
open PySem PySem.W PySem.Calls PyProof.Rows PySem.Builtin PySem.Builtin.Str
section
variable {prog : Program} {w : World} {A : Around} {E : Value → Shared → Prop} {s : Shared} {h₀ : Heap} {L D : Addr} {news : List (Addr × Obj)} {Q : Value → Shared → Prop}
theorem w_len {ts : List (List Nat × Tok)} {cnt : Nat} (N : News h₀ L s.heap news) (hm : (D, listOf (txts ts).toArray cnt) ∈ news) (hz : ts.length < 4611686018427387904) (h : Q (.int (ts.length : Int) (s.toks + 1)) { s with toks := s.toks + 1 + 1 }) :
    wpAny (model prog w) A (call (.builtin "len") [.ref D]) Q E s := by
  refine kst_len N hm (txts_len ts) (by omega) ?_
  exact h
end
end Mine
namespace Mine
open PySem PySem.W PySem.Calls PyProof.Rows PySem.Builtin PySem.Builtin.Str
section
variable {prog : Program} {w : World} {A : Around} {E : Value → Shared → Prop} {s : Shared} {t u : Tok} {a : Nat} {b : Int} {Q : Value → Shared → Prop}
theorem w_modL (hb : 0 < b) (h : Q (.int ((a % b.toNat : Nat) : Int) s.toks) { s with toks := s.toks + 1 }) : wpAny (model prog w) A (binaryOp .Mod (.int (a : Int) t) (.int b u)) Q E s := by
  obtain ⟨n, rfl⟩ := Int.eq_ofNat_of_zero_le (Int.le_of_lt hb)
  exact w_mod (by omega) h
end
end Mine
end
section
set_option maxRecDepth 100000
namespace Mine
open PySem PySem.W PySem.Calls PyProof.Rows PySem.Builtin PySem.Builtin.Str PySem.StrLaws
theorem idx_clamp (i j : Int) (n : Nat) (hi : 0 ≤ i) (hj : 0 ≤ j) : strSliceIndices (some i) (some j) 1 n = strSliceIndices (some (min i n)) (some (min j n)) 1 n := by
  have h1 : ¬ i < 0 := by omega
  have h2 : ¬ j < 0 := by omega
  have h3 : ¬ min i (n : Int) < 0 := by omega
  have h4 : ¬ min j (n : Int) < 0 := by omega
  have e1 : max 0 (min (min i (n : Int)) n) = max 0 (min i (n : Int)) := by omega
  have e2 : max 0 (min (min j (n : Int)) n) = max 0 (min j (n : Int)) := by omega
  have hp : (1 : Int) > 0 := by decide
  simp only [strSliceIndices, sliceRange, h1, h2, h3, h4, if_false, hp, if_true, e1, e2]
theorem slice_ij (l : List Nat) (i j : Nat) (h : i ≤ j) : sliceText (S l) (some (i : Int)) (some (j : Int)) = S ((l.drop i).take (j - i)) := by
  have hl : (S l).length = l.length := rfl
  have hc : (S l).cps.toList = l := by simp [S]
  have e : sliceText (S l) (some (i : Int)) (some (j : Int)) = sliceText (S l) (some ((min i l.length : Nat) : Int)) (some ((min j l.length : Nat) : Int)) := by
    unfold sliceText
    rw [idx_clamp _ _ _ (by omega) (by omega), hl]
    have a1 : min (i : Int) (l.length : Int) = ((min i l.length : Nat) : Int) := by omega
    have a2 : min (j : Int) (l.length : Int) = ((min j l.length : Nat) : Int) := by omega
    rw [a1, a2]
  rw [e, sliceText_nat _ (by omega) (by rw [hl]; omega), hc]
  show S _ = S _
  congr 1
  by_cases hi : i ≤ l.length
  · rw [Nat.min_eq_left hi]
    by_cases hj : j ≤ l.length
    · rw [Nat.min_eq_left hj]
    · rw [Nat.min_eq_right (by omega), List.take_of_length_le (by simp), List.take_of_length_le (by simp; omega)]
  · rw [List.drop_eq_nil_of_le (by omega : l.length ≤ min i l.length), List.drop_eq_nil_of_le (by omega : l.length ≤ i)]
    simp
theorem slice_to (l : List Nat) (j : Nat) : Txt.slice (S l) none (some (j : Int)) = S (l.take j) := by
  have e : Txt.slice (S l) none (some (j : Int)) = sliceText (S l) (some ((0 : Nat) : Int)) (some (j : Int)) := by
    show sliceText (S l) none (some (j : Int)) = _
    unfold sliceText; rw [sliceIdx_none_lo]; rfl
  rw [e, slice_ij l 0 j (Nat.zero_le _)]; rfl
theorem slice_from (l : List Nat) (i : Nat) : Txt.slice (S l) (some (i : Int)) none = S (l.drop i) := by
  have e : Txt.slice (S l) (some (i : Int)) none = sliceText (S l) (some (i : Int)) (some (l.length : Int)) := by
    show sliceText (S l) (some (i : Int)) none = _
    unfold sliceText; rw [sliceIdx_none_hi]; rfl
  have e2 : sliceText (S l) (some (i : Int)) (some (l.length : Int)) = sliceText (S l) (some ((min i l.length : Nat) : Int)) (some (l.length : Int)) := by
    have hl : (S l).length = l.length := rfl
    unfold sliceText
    rw [idx_clamp _ _ _ (by omega) (by omega), hl]
    have a1 : min (i : Int) (l.length : Int) = ((min i l.length : Nat) : Int) := by omega
    have a2 : min (l.length : Int) (l.length : Int) = (l.length : Int) := by omega
    rw [a1, a2]
  rw [e, e2, slice_ij l (min i l.length) l.length (Nat.min_le_right _ _), List.take_of_length_le (by simp)]
  by_cases hi : i ≤ l.length
  · rw [Nat.min_eq_left hi]
  · rw [Nat.min_eq_right (by omega), List.drop_eq_nil_of_le (Nat.le_refl _), List.drop_eq_nil_of_le (by omega)]
section
variable {prog : Program} {w : World} {A : Around} {E : Value → Shared → Prop} {s : Shared} {t u : Tok} {l a b : List Nat} {h₀ : Heap} {L D : Addr} {m : Str → Option Value} {news news' : List (Addr × Obj)} {Q : Value → Shared → Prop}
theorem w_ne {x y : Str} (hx : x = S a) (hy : y = S b) (h : Q (.bool (decide (a ≠ b))) s) : wpAny (model prog w) A (compareOp .NotEq (.str x t) (.str y u)) Q E s := by
  subst hx; subst hy
  refine P.ne_str ?_
  have e : ((S a).cps.toList != (S b).cps.toList) = decide (a ≠ b) := by
    have e1 : (S a).cps.toList = a := by simp [S]
    have e2 : (S b).cps.toList = b := by simp [S]
    rw [e1, e2]
    by_cases q : a = b
    · subst q; simp
    · simp [q]
  rw [e]; exact h
theorem w_slice_to {value slice : Expr} (j : Nat) {i : Int} {uj : Tok} (hi : i = (j : Int)) (hF : Fr h₀ L s.heap m) (hN : News h₀ L s.heap news) (hz : l.length ≤ 1048576) (h : ∀ h' t' k, Fr h₀ L h' m → News h₀ L h' news → Q (.str (S (l.take j)) t') { s with heap := h', toks := k })
    (hs : subscripted slice false (.str (S l) t) (.ref s.heap.objs.size) = operate [.ref s.heap.objs.size, .str (S l) t] (getItem (.str (S l) t) (.ref s.heap.objs.size)) := by with_unfolding_all rfl)
    (ht : ∀ r, letTemporaryGo value (.str (S l) t) r = pure () := by intro _; with_unfolding_all rfl) :
    wpAny (model prog w) A (subscriptTail value slice (.str (S l) t) (.ref s.heap.objs.size)) Q E { s with heap := s.heap.push { cls := .type "slice", data := .fields #[.none, .int i uj, .none] } } := by
  subst hi
  exact slice_strN_ns hF hN (fun h' t' k F N => by rw [slice_to]; exact h h' t' k F N) hs ht (by rw [S_len, sz]; omega)
theorem w_slice_from {value slice : Expr} (j : Nat) {i : Int} {uj : Tok} (hi : i = (j : Int)) (hF : Fr h₀ L s.heap m) (hN : News h₀ L s.heap news) (hz : l.length ≤ 1048576) (h : ∀ h' t' k, Fr h₀ L h' m → News h₀ L h' news → Q (.str (S (l.drop j)) t') { s with heap := h', toks := k })
    (hs : subscripted slice false (.str (S l) t) (.ref s.heap.objs.size) = operate [.ref s.heap.objs.size, .str (S l) t] (getItem (.str (S l) t) (.ref s.heap.objs.size)) := by with_unfolding_all rfl)
    (ht : ∀ r, letTemporaryGo value (.str (S l) t) r = pure () := by intro _; with_unfolding_all rfl) :
    wpAny (model prog w) A (subscriptTail value slice (.str (S l) t) (.ref s.heap.objs.size)) Q E { s with heap := s.heap.push { cls := .type "slice", data := .fields #[.int i uj, .none, .none] } } := by
  subst hi
  exact slice_strN_sn hF hN (fun h' t' k F N => by rw [slice_from _ _]; exact h h' t' k F N) hs ht (by rw [S_len, sz]; omega)
/-- a list of numbers as it stands in the ledger -/
noncomputable def nats (ks : List (Nat × Tok)) : List Value := ks.map fun p => .int (p.1 : Int) p.2
theorem nats_push (ks : List (Nat × Tok)) (k : Nat) (t : Tok) : (nats ks).toArray.push (.int (k : Int) t) = (nats (ks ++ [(k, t)])).toArray := by simp [nats]
theorem nats_len (ks : List (Nat × Tok)) : (nats ks).length = ks.length := by simp [nats]
theorem w_appendN {ks : List (Nat × Tok)} {cnt k : Nat} (F : Fr h₀ L s.heap m) (N : News h₀ L s.heap news) (U : Upd D (listOf (nats ks).toArray cnt) (listOf (nats (ks ++ [(k, t)])).toArray (cnt + 1)) news news') (hz : ks.length ≤ 1048576)
    (h : ∀ h', Fr h₀ L h' m → News h₀ L h' news' → Q .none { s with heap := h' }) : wpAny (model prog w) A (call (.builtin "list.append") [.ref D, .int (k : Int) t]) Q E s := by
  rw [← nats_push] at U
  exact append_K F N U h (by rw [List.size_toArray, nats_len, sz]; omega)
end
end Mine
end
section
set_option maxRecDepth 100000
namespace Mine
open PySem PySem.W PySem.Calls PyProof.Rows PySem.Builtin PySem.Builtin.Str PySem.StrLaws
theorem nats_are : ∀ us : List (Nat × Tok), IntsAre (nats us) (us.map fun p => (p.1 : Int))
  | [] => .nil
  | p :: us => .cons _ _ (nats_are us)
theorem rev_cons {us : List (Nat × Tok)} {a : Nat} {as : List Nat} (h : (us.map (·.1)).reverse = a :: as) : ∃ u0 t, us = u0 ++ [(a, t)] ∧ (u0.map (·.1)).reverse = as := by
  rcases List.eq_nil_or_concat us with rfl | ⟨u0, p, rfl⟩
  · simp at h
  · rw [List.concat_eq_append] at h ⊢
    rw [List.map_append, List.reverse_append] at h
    simp only [List.map_cons, List.map_nil, List.reverse_cons, List.reverse_nil, List.nil_append, List.cons_append, List.cons.injEq] at h
    exact ⟨u0, p.2, by rw [← h.1], h.2⟩
theorem nats_last (us : List (Nat × Tok)) (x : Nat) (t : Tok) : kl_last (nats (us ++ [(x, t)])) = some (nats us, .int (x : Int) t) := by
  induction us with
  | nil => rfl
  | cons p us ih =>
    show kl_last (Value.int (p.1 : Int) p.2 :: nats (us ++ [(x, t)])) = _
    unfold kl_last
    rw [ih]; rfl
section
variable {prog : Program} {w : World} {A : Around} {E : Value → Shared → Prop} {s : Shared} {t u : Tok} {h₀ : Heap} {L D B : Addr} {m : Str → Option Value} {news news' : List (Addr × Obj)} {Q : Value → Shared → Prop} {us : List (Nat × Tok)} {cnt x : Nat}
theorem w_popN (F : Fr h₀ L s.heap m) (N : News h₀ L s.heap news) (U : Upd D (listOf (nats (us ++ [(x, t)])).toArray cnt) (listOf (nats us).toArray (cnt + 1)) news news') (hz : us.length ≤ 1048576)
    (h : ∀ h', Fr h₀ L h' m → News h₀ L h' news' → Q (.int (x : Int) t) { s with heap := h' }) : wpAny (model prog w) A (call (.builtin "list.pop") [.ref D]) Q E s :=
  kl_pop F N (nats_last us x t) U (by show (nats (us ++ [(x, t)])).length ≤ _; rw [nats_len, List.length_append, List.length_singleton, sz]; omega) h
theorem w_lastN {value slice : Expr} (N : News h₀ L s.heap news) (hm : (D, listOf (nats (us ++ [(x, t)])).toArray cnt) ∈ news) (hz : us.length ≤ 1048576) (h : Q (.int (x : Int) t) s)
    (hs : subscripted slice false (.ref D) (.int (-1) u) = operate [.ref D, .int (-1) u] (getItem (.ref D) (.int (-1) u)) := by with_unfolding_all rfl) :
    wpAny (model prog w) A (subscriptTail value slice (.ref D) (.int (-1) u)) Q E s := by
  have hL := N.isList hm
  have hl : ((nats (us ++ [(x, t)])).toArray.size : Int) = us.length + 1 := by rw [List.size_toArray, nats_len, List.length_append]; rfl
  refine tail_any hL.typeIs slot_list_getitem.lookup (wpAny_getItem_list_neg hL (by decide) (by rw [hl]; omega) (by decide) ?_ h) hs
  rw [hl]
  have e : (-1 + ((us.length : Int) + 1)).toNat = us.length := by omega
  rw [e]
  simp [nats]
theorem w_item0 {value slice : Expr} (N : News h₀ L s.heap news) (hm : (D, listOf (nats [(x, t)]).toArray cnt) ∈ news) (h : Q (.int (x : Int) t) s)
    (hs : subscripted slice false (.ref D) (.int 0 u) = operate [.ref D, .int 0 u] (getItem (.ref D) (.int 0 u)) := by with_unfolding_all rfl) :
    wpAny (model prog w) A (subscriptTail value slice (.ref D) (.int 0 u)) Q E s := by
  have hL := N.isList hm
  exact tail_any hL.typeIs slot_list_getitem.lookup (wpAny_getItem_list hL (by decide) (by decide) rfl h) hs
theorem w_lenN (N : News h₀ L s.heap news) (hm : (D, listOf (nats us).toArray cnt) ∈ news) (hz : us.length < 4611686018427387904) (h : Q (.int (us.length : Int) (s.toks + 1)) { s with toks := s.toks + 1 + 1 }) :
    wpAny (model prog w) A (call (.builtin "len") [.ref D]) Q E s := by
  refine kst_len N hm (nats_len us) (by omega) ?_
  exact h
theorem w_neNil {c2 : Nat} (N : News h₀ L s.heap news) (hm : (D, listOf (nats us).toArray cnt) ∈ news) (hb : (B, listOf ([] : List Value).toArray c2) ∈ news) (hu : A.units + 64 < cLine) (h : Q (.bool (decide (us ≠ []))) s) :
    wpAny (model prog w) A (compareOp .NotEq (.ref D) (.ref B)) Q E s := by
  refine ne_intsK (ns := us.map fun p => (p.1 : Int)) (ms := []) (N.isList hm) (nats_are us) (N.isList hb) .nil hu ?_
  have e : (!decide ((us.map fun p => (p.1 : Int)) = [])) = decide (us ≠ []) := by
    cases us with
    | nil => rfl
    | cons a b => simp
  rw [e]; exact h
theorem w_eqNil {c2 : Nat} (N : News h₀ L s.heap news) (hm : (D, listOf (nats us).toArray cnt) ∈ news) (hb : (B, listOf ([] : List Value).toArray c2) ∈ news) (hu : A.units + 64 < cLine) (h : Q (.bool (decide (us = []))) s) :
    wpAny (model prog w) A (compareOp .Eq (.ref D) (.ref B)) Q E s := by
  refine eq_intsK (ns := us.map fun p => (p.1 : Int)) (ms := []) (N.isList hm) (nats_are us) (N.isList hb) .nil hu ?_
  have e : decide ((us.map fun p => (p.1 : Int)) = []) = decide (us = []) := by
    cases us with
    | nil => rfl
    | cons a b => simp
  rw [e]; exact h
theorem w_appendI {ks : List (Nat × Tok)} (k : Nat) {i : Int} (hi : i = (k : Int)) (F : Fr h₀ L s.heap m) (N : News h₀ L s.heap news) (U : Upd D (listOf (nats ks).toArray cnt) (listOf (nats (ks ++ [(k, t)])).toArray (cnt + 1)) news news') (hz : ks.length ≤ 1048576)
    (h : ∀ h', Fr h₀ L h' m → News h₀ L h' news' → Q .none { s with heap := h' }) : wpAny (model prog w) A (call (.builtin "list.append") [.ref D, .int i t]) Q E s := by
  subst hi
  exact w_appendN F N U hz h
theorem w_addZero {vs : List Value} {c2 : Nat} {v : Value} (F : Fr h₀ L s.heap m) (N : News h₀ L s.heap news) (ha : s.heap.IsList D vs.toArray) (hb : (B, listOf [v].toArray c2) ∈ news) (hz : vs.length ≤ 1048576)
    (h : ∀ D' h', Fr h₀ L h' m → News h₀ L h' ((D', listOf (vs ++ [v]).toArray 0) :: news) → (∀ p ∈ news, p.1 < D') → Q (.ref D') { s with heap := h' }) : wpAny (model prog w) A (binaryOp .Add (.ref D) (.ref B)) Q E s :=
  kmk_add_lit F N ha (N.isList hb) rfl h (by simp [sz]; omega)
end
end Mine
end
section
set_option maxRecDepth 100000
namespace Mine
open PySem PySem.Builtin PySem.Builtin.Str PySem.StrLaws
theorem parts_spl2 (full : List Nat) : ∀ (l pre : List Nat) (a i : Nat), full.drop a = pre ++ l → i = a + pre.length →
    partsL full 2 a (occL [13, 10] l i 0) = (pre ++ (spl2 l).headD []) :: (spl2 l).tail
  | [], pre, a, i, h, hi => by
    simp only [occL, partsL, spl2, List.headD_cons, List.tail_cons]
    rw [h]
  | [b], pre, a, i, h, hi => by
    have e : occL [13, 10] [b] i 0 = [] := by
      unfold occL
      rw [if_neg (by simp)]; rfl
    rw [e]
    simp only [partsL, spl2, List.headD_cons, List.tail_cons]
    rw [h]
  | b :: d :: l, pre, a, i, h, hi => by
    by_cases hb : b = 13 ∧ d = 10
    · obtain ⟨rfl, rfl⟩ := hb
      have hd : full.drop (i + 2) = [] ++ l := by
        have : full.drop (a + (pre.length + 2)) = (full.drop a).drop (pre.length + 2) := by rw [List.drop_drop]
        rw [hi, Nat.add_assoc, this, h]
        simp
      have ih := parts_spl2 full l [] (i + 2) (i + 2) hd (by simp)
      have e : occL [13, 10] (13 :: 10 :: l) i 0 = i :: occL [13, 10] l (i + 2) 0 := by
        conv => lhs; unfold occL
        rw [if_pos (by simp)]
        show i :: occL [13, 10] (10 :: l) (i + 1) 1 = _
        conv => lhs; unfold occL
      rw [e]
      show (full.drop a).take (i - a) :: partsL full 2 (i + 2) (occL [13, 10] l (i + 2) 0) = _
      rw [ih, h]
      conv => rhs; unfold spl2
      rw [if_pos ⟨rfl, rfl⟩]
      simp only [List.headD_cons, List.tail_cons, List.append_nil, List.nil_append]
      rw [headD_tail _ _ (spl2_ne l)]
      congr 1
      rw [show i - a = pre.length from by omega]
      simp
    · have e : occL [13, 10] (b :: d :: l) i 0 = occL [13, 10] (d :: l) (i + 1) 0 := by
        conv => lhs; unfold occL
        rw [if_neg (by simpa using hb)]
      rw [e, parts_spl2 full (d :: l) (pre ++ [b]) a (i + 1) (by rw [h]; simp) (by simp; omega)]
      conv => rhs; unfold spl2
      rw [if_neg hb]
      simp
theorem spl2_short : ∀ {l : List Nat}, l.length < 2 → spl2 l = [l]
  | [], _ => rfl
  | [b], _ => rfl
theorem t_split2 (l : List Nat) : Txt.split (S l) (S [13, 10]) = (spl2 l).map S := by
  have hk : PySem.Builtin.Str.strKind (S [13, 10]) = 1 := by
    unfold PySem.Builtin.Str.strKind
    rw [if_pos]
    simp [S]
  have h1 := strKind_pos (S l)
  have ho := occ_list (S l) (S [13, 10]) ((S l).length + 1) (by decide) (Nat.lt_succ_self _)
  have hp := parts_spl2 l l [] 0 0 rfl rfl
  have e1 : (S [13, 10]).cps.toList = [13, 10] := by simp [S]
  have e2 : (S l).cps.toList = l := by simp [S]
  have e3 : (S [13, 10]).length = 2 := S_len _
  rw [e1, e2] at ho
  rw [List.nil_append, headD_tail _ _ (spl2_ne l)] at hp
  have whole : (partsL l 2 0 (occL [13, 10] l 0 0)).map S = (spl2 l).map S := by rw [hp]
  unfold Txt.split
  rw [hk, ho, e3, S_len]
  by_cases hlt : l.length < 2
  · rw [if_pos (by simp only [decide_eq_true hlt, Bool.true_or]), spl2_short hlt]
    rfl
  · have hc2 : (decide (l.length < 2) || decide (PySem.Builtin.Str.strKind (S l) < 1)) = false := by
      have a2 : ¬ PySem.Builtin.Str.strKind (S l) < 1 := by omega
      simp only [hlt, a2, decide_false, Bool.or_false]
    rw [hc2, if_neg Bool.false_ne_true]
    by_cases he : (occL [13, 10] l 0 0).isEmpty = true
    · rw [if_pos he]
      have : occL [13, 10] l 0 0 = [] := List.isEmpty_iff.mp he
      rw [← whole, this]
      simp [partsL]
    · rw [if_neg he, partsBetween_list]
      exact whole
theorem t_count (l sub : List Nat) (hs : 1 ≤ sub.length) : (occurrences (S l) (S sub) 0 (S l).length ((S l).length + 1)).length = (occL sub l 0 0).length := by
  rw [occ_list (S l) (S sub) ((S l).length + 1) (by rw [S_len]; exact hs) (Nat.lt_succ_self _)]
  have e1 : (S sub).cps.toList = sub := by simp [S]
  have e2 : (S l).cps.toList = l := by simp [S]
  rw [e1, e2]
end Mine
end
section
set_option maxRecDepth 100000
open PySem PySem.W PySem.Calls PyProof.Rows
set_option Elab.async false
namespace Mine

structure TS where
  n : Nat
  p : Nat
  ts : List (List Nat × Tok)
  cnt : Nat
  tn : Tok
  tp : Tok
noncomputable abbrev TS.led (D : Addr) (c : TS) : List (Addr × Obj) := [(D, listOf (txts c.ts).toArray c.cnt)]
noncomputable abbrev TS.ps (c : TS) : List (Str × Value) := [(Str.ofString "number", .int (c.n : Int) c.tn), (Str.ofString "place", .int (c.p : Int) c.tp)]
theorem items_step (rec : Nat → List Nat) (b sh n c p : Nat) (hc : 0 < c) (h : c * 2 ^ p ≤ n) : items rec b sh (n - p) c p = (if c % b = 0 then [] else [term rec b sh p (c % b)]) ++ items rec b sh (n - (p + 1)) (c / b) (p + 1) := by
  have h1 : p < 2 ^ p := Nat.lt_two_pow_self
  have h2 : 1 * 2 ^ p ≤ c * 2 ^ p := Nat.mul_le_mul_right _ hc
  have e : n - p = (n - (p + 1)) + 1 := by omega
  rw [e]
  conv => lhs; unfold items
  rw [if_neg (by omega)]
theorem items_done (rec : Nat → List Nat) (b sh f p : Nat) : items rec b sh f 0 p = [] := by
  cases f with
  | zero => rfl
  | succ f => unfold items; rw [if_pos rfl]
theorem place_le (b n c p : Nat) (hb : 2 ≤ b) (h : c * 2 ^ p ≤ n) : c / b * 2 ^ (p + 1) ≤ n := by
  have h1 : c / b ≤ c / 2 := Nat.div_le_div_left hb (by decide)
  have h2 : c / 2 * 2 ≤ c := Nat.div_mul_le_self c 2
  calc c / b * 2 ^ (p + 1) ≤ c / 2 * 2 ^ (p + 1) := Nat.mul_le_mul_right _ h1
    _ = (c / 2 * 2) * 2 ^ p := by rw [Nat.pow_succ, Nat.mul_comm (2 ^ p) 2, Nat.mul_assoc]
    _ ≤ c * 2 ^ p := Nat.mul_le_mul_right _ h2
    _ ≤ n := h
theorem place_lt (k n c p : Nat) (hn : n < tow (k + 1)) (hc : 0 < c) (h : c * 2 ^ p ≤ n) : p < tow k := by
  have h2 : 1 * 2 ^ p ≤ c * 2 ^ p := Nat.mul_le_mul_right _ hc
  have h3 : 2 ^ p < 2 ^ tow k := by
    have : tow (k + 1) = 2 ^ tow k := rfl
    omega
  exact (Nat.pow_lt_pow_iff_right (by decide)).mp h3

set_option maxHeartbeats 4000000 in
theorem terms_step (C : Ctxt) (b sh k : Nat) (hb : 2 ≤ b) (hb2 : b ≤ 1000) (hsh : sh ≤ 1000)
    (ih : ∀ (n : Nat) (t u v : Tok), 2 ≤ n → n < tow k → (terms k b sh n).length ≤ 2 ^ 17 → Con C 114 (k + 1) Any [.int n t, .int b u, .int sh v] (OutStr (S (terms k b sh n)))) (n : Nat) (t u v : Tok) (hn : n < tow (k + 1)) (hlen : (terms (k + 1) b sh n).length ≤ 2 ^ 17) :
    Con C 114 (k + 2) Any [.int n t, .int b u, .int sh v] (OutStr (S (terms (k + 1) b sh n))) := by
  k_with_none
  k_with "con_enter" => (w_top off; (case k6 => k_is); (case k7 => k_is); (case k9 => exact rfl); (case kB => exact rfl); (case c5 => decide); (case c2 => exact rfl); (case c3 => exact rfl); (case c4 => exact rfl); (try (case sz => decide)))
  k_with "isS" => (first | with_reducible rfl | exact l_dot | exact l_nl | exact l_open | exact l_minus | exact l_close | exact l_plus | exact l_nought | exact l_empty | exact l_cr | exact l_crnl | exact l_dots)
  k_with "lens" => ((try simp only [List.length_append, List.length_cons, List.length_nil, dots, List.length_replicate]); omega)
  k_with "binaryOp Add str str" => (k_here; (refine w_add (by walk_at "isS") (by walk_at "isS") ?zqz ?_); (case zqz => walk_at "lens"); intro t8 k8; (try dsimp only))
  k_with "inplaceOp Add str str" => (k_here; (refine w_iadd (by walk_at "isS") (by walk_at "isS") ?zqz ?_); (case zqz => walk_at "lens"); intro t8 k8; (try dsimp only))
  k_with "binaryOp Mult str int" => (k_here; (refine w_dots ?zqz ?zqz2 ?_); (case zqz => omega); (case zqz2 => omega); intro t8 k8; (try dsimp only))
  k_with "steps" => (repeat' (first | (k_unfold; (try dsimp only)) | ((fail_if_success (with_reducible show wpAny _ _ (exec (Stmt.While _ _ _ _) _) _ _ _)); (fail_if_success (with_reducible show wpAny _ _ (exec (Stmt.For _ _ _ _ _) _) _ _ _)); first | walk1 | (dsimp only; walk1) | (leave1; walk_say "STEP leave1"; try dsimp only)) | fail "no step"))
  k_with "binaryOp Mult str int" => (k_here; (with_reducible refine w_dotsN ?zqz ?_); (case zqz => omega); intro t8 k8; (try dsimp only))
  k_with "binaryOp Mod int int" => (k_here; (with_reducible refine w_mod ?zqz ?_); (case zqz => omega))
  k_with "inplaceOp FloorDiv int int" => (k_here; (with_reducible refine w_idiv ?zqz ?zqz2 ?_); (case zqz => omega); (case zqz2 => omega))
  k_with "binaryOp Add int int" => (k_here; (with_reducible refine w_add1 ?_))
  k_with "inplaceOp Add int int" => (k_here; (with_reducible refine w_iadd1 ?_))
  k_with "call builtin:list.append" => (k_here; k_dflt (refine' w_append ?zqF ?zqN ?zqU ?zqz ?_; (case zqF => k_asm); (case zqN => k_asm); (case zqU => k_upd); (case zqz => omega)); intro h8 F8 N8; (try k_sweep))
  k_with "same" => (intro z hz2 hz3; (simp only [TS.ps, List.forall_mem_cons, List.not_mem_nil, false_implies, implies_true, and_true, ne_eq] at hz2); (simp only [List.contains_cons, List.contains_nil, Bool.or_false, Bool.or_eq_false_iff, beq_eq_false_iff_ne, ne_eq] at hz3); (simp [TS.ps, kstB, hz2, hz3]))
  refine' con_def (binds := [(Str.ofString "number", .int n t), (Str.ofString "base", .int b u), (Str.ofString "shown", .int sh v)]) ?k6 ?k7 ?k9 ?kB ?c5 ?c2 ?c3 ?c4 (Nat.succ_pos _) ?_
  walk_at "con_enter"
  intro dp un fr gd s Q h₀ h₁ L tk X T hd hu hp F N hL hret
  try dsimp only
  walk_at "steps"
  rename_i D _ _ _ _ F1 N1
  refine' ksw_while (TS.led D) TS.ps (fun _ => True) [Str.ofString "power"]
    (fun c => c.ts.map (·.1) ++ items (terms k b sh) b sh (n - c.p) c.n c.p = items (terms k b sh) b sh n n 0 ∧ c.n * 2 ^ c.p ≤ n) (fun c => c.n)
    ⟨n, 0, [], 0, t, _⟩ F1 N1 trivial (List.forall_mem_cons.mpr ⟨rfl, List.forall_mem_cons.mpr ⟨rfl, List.forall_mem_nil _⟩⟩) ⟨by simp, by simp⟩ ?turn
  case turn =>
    rintro c u2 h2 tk2 - ⟨hP1, hP2⟩ F2 N2
    have hm := Nat.mod_lt c.n (show 0 < b by omega)
    have hP3 : (items (terms k b sh) b sh n n 0).length ≤ 2 ^ 17 := by
      have := glue_sum (items (terms k b sh) b sh n n 0)
      have e : (terms (k + 1) b sh n).length = (glue (items (terms k b sh) b sh n n 0)).length := rfl
      omega
    have hP4 : c.ts.length ≤ 2 ^ 17 := by
      have := congrArg List.length hP1
      simp only [List.length_append, List.length_map] at this
      omega
    clear F1 N1
    dsimp only [TS.led] at N2
    walk_at "steps"
    · -- an exponent below the base
      have hc : 0 < c.n := by omega
      have hnz : ¬ c.n % b = 0 := by omega
      have hlt : c.p < b := by omega
      have e : (10 :: (dots sh ++ [42, 42, 40] ++ (dots (c.p + 1) ++ [45, 46]) ++ [41, 42] ++ dots (c.n % b))) = term (terms k b sh) b sh c.p (c.n % b) := by
        unfold term; rw [if_pos hlt]; rfl
      rw [items_step _ _ _ _ _ _ hc hP2, if_neg hnz] at hP1
      rename News _ _ _ _ => NN
      rename_i tkk
      rw [e] at NN
      refine ksw_end ⟨c.n / b, c.p + 1, c.ts ++ [(term (terms k b sh) b sh c.p (c.n % b), _)], _, _, _⟩ (by assumption) NN (fun p hp => hp) trivial (List.forall_mem_cons.mpr ⟨rfl, List.forall_mem_cons.mpr ⟨rfl, List.forall_mem_nil _⟩⟩) (by walk_at "same")
        ⟨?_, place_le b n c.n c.p hb hP2⟩ (Nat.div_lt_self hc (by omega))
      rw [← hP1]; simp
    · -- an exponent written so, too
      have hc : 0 < c.n := by omega
      have hnz : ¬ c.n % b = 0 := by omega
      have hlt : ¬ c.p < b := by omega
      have hpl := place_lt k n c.n c.p hn hc hP2
      rw [items_step _ _ _ _ _ _ hc hP2, if_neg hnz] at hP1
      have hmem : term (terms k b sh) b sh c.p (c.n % b) ∈ items (terms k b sh) b sh n n 0 := by
        rw [← hP1]; simp
      have hl1 := glue_len _ _ hmem
      have e0 : (terms (k + 1) b sh n).length = (glue (items (terms k b sh) b sh n n 0)).length := rfl
      have et : term (terms k b sh) b sh c.p (c.n % b) = [10] ++ dots sh ++ [42, 42, 40] ++ terms k b sh c.p ++ [41, 42] ++ dots (c.n % b) := by
        unfold term; rw [if_neg hlt]
      have hl2 : (terms k b sh c.p).length ≤ 2 ^ 17 := by
        rw [et] at hl1
        simp only [List.length_append] at hl1
        omega
      refine' con_use (ih c.p _ _ _ (by omega) hpl hl2) F2 N2 X T (by omega) (by omega) trivial ?_
      rintro r h8 tk8 st8 F8 N8 ⟨t8, rfl⟩
      try dsimp only
      k_sweep
      walk_at "steps"
      rename News _ _ _ _ => NN
      have e : (10 :: (dots sh ++ [42, 42, 40] ++ terms k b sh c.p ++ [41, 42] ++ dots (c.n % b))) = term (terms k b sh) b sh c.p (c.n % b) := by
        rw [et]; rfl
      rw [e] at NN
      refine ksw_end ⟨c.n / b, c.p + 1, c.ts ++ [(term (terms k b sh) b sh c.p (c.n % b), _)], _, _, _⟩ (by assumption) NN (fun p hp => hp) trivial (List.forall_mem_cons.mpr ⟨rfl, List.forall_mem_cons.mpr ⟨rfl, List.forall_mem_nil _⟩⟩) (by walk_at "same")
        ⟨?_, place_le b n c.n c.p hb hP2⟩ (Nat.div_lt_self hc (by omega))
      rw [← hP1]; simp
    · have hc : 0 < c.n := by omega
      have hnz : c.n % b = 0 := by omega
      rw [items_step _ _ _ _ _ _ hc hP2, if_pos hnz, List.nil_append] at hP1
      rename News _ _ _ _ => NN
      exact ksw_end ⟨c.n / b, c.p + 1, c.ts, _, _, _⟩ (by assumption) NN (fun p hp => hp) trivial (List.forall_mem_cons.mpr ⟨rfl, List.forall_mem_cons.mpr ⟨rfl, List.forall_mem_nil _⟩⟩) (by walk_at "same")
        ⟨hP1, place_le b n c.n c.p hb hP2⟩ (Nat.div_lt_self hc (by omega))
    · have hc : c.n = 0 := by omega
      rw [hc, items_done, List.append_nil] at hP1
      have e0 : terms (k + 1) b sh n = glue (items (terms k b sh) b sh n n 0) := rfl
      refine w_glue (N2.isList (.head _)) (by rw [hP1, ← e0]; omega) fun t' k' => ?_
      rw [hP1, ← e0]
      try dsimp only
      exact hret _ _ _ F2.keep ⟨_, rfl⟩
theorem c_terms (C : Ctxt) (b sh : Nat) (hb : 2 ≤ b) (hb2 : b ≤ 1000) (hsh : sh ≤ 1000) : ∀ (k n : Nat) (t u v : Tok), n < tow (k + 1) → (terms (k + 1) b sh n).length ≤ 2 ^ 17 →
    Con C 114 (k + 2) Any [.int n t, .int b u, .int sh v] (OutStr (S (terms (k + 1) b sh n)))
  | 0, n, t, u, v, hn, hl => terms_step C b sh 0 hb hb2 hsh (fun n t u v h2 h1 => by unfold tow at h1; omega) n t u v hn hl
  | k + 1, n, t, u, v, hn, hl => terms_step C b sh (k + 1) hb hb2 hsh (fun n t u v _ h1 h3 => c_terms C b sh hb hb2 hsh k n t u v h1 h3) n t u v hn hl
end Mine
end
section
set_option maxRecDepth 100000
open PySem PySem.W PySem.Calls PyProof.Rows
set_option Elab.async false
namespace Mine
structure BS where
  n : Nat
  p : Nat
  tot : Nat
  tn : Tok
  tp : Tok
  tt : Tok
noncomputable abbrev BS.ps (c : BS) : List (Str × Value) := [(Str.ofString "number", .int (c.n : Int) c.tn), (Str.ofString "place", .int (c.p : Int) c.tp), (Str.ofString "total", .int (c.tot : Int) c.tt)]
theorem le_pow_self {w e m : Nat} (hw : 2 ≤ w) (h : w ^ e ≤ m) (hm : m < 2 ^ 41) : e ≤ 40 := by
  have h1 : 2 ^ e ≤ w ^ e := Nat.pow_le_pow_left hw e
  have : 2 ^ e < 2 ^ 41 := by omega
  have := (Nat.pow_lt_pow_iff_right (a := 2) (by decide)).mp this
  omega
set_option maxHeartbeats 4000000 in
theorem bump_step (C : Ctxt) (b w k : Nat) (hb : 2 ≤ b) (hb2 : b ≤ 1000) (hw : 2 ≤ w) (hw2 : w ≤ 1000)
    (ih : ∀ (n : Nat) (t u v : Tok), n < tow k → bump k b w n < 2 ^ 41 → Con C 135 (k + 1) Any [.int n t, .int b u, .int w v] (OutInt (bump k b w n))) (n : Nat) (t u v : Tok) (hn : n < tow (k + 1)) (hlen : bump (k + 1) b w n < 2 ^ 41) :
    Con C 135 (k + 2) Any [.int n t, .int b u, .int w v] (OutInt (bump (k + 1) b w n)) := by
  k_with_none
  k_with "con_enter" => (w_top off; (case k6 => k_is); (case k7 => k_is); (case k9 => exact rfl); (case kB => exact rfl); (case c5 => decide); (case c2 => exact rfl); (case c3 => exact rfl); (case c4 => exact rfl); (try (case sz => decide)))
  k_with "isS" => (first | with_reducible rfl | exact l_dot | exact l_nl | exact l_open | exact l_minus | exact l_close | exact l_plus | exact l_nought | exact l_empty | exact l_cr | exact l_crnl | exact l_dots)
  k_with "lens" => ((try simp only [List.length_append, List.length_cons, List.length_nil, dots, List.length_replicate]); omega)
  k_with "steps" => (repeat' (first | (k_unfold; (try dsimp only)) | ((fail_if_success (with_reducible show wpAny _ _ (exec (Stmt.While _ _ _ _) _) _ _ _)); (fail_if_success (with_reducible show wpAny _ _ (exec (Stmt.For _ _ _ _ _) _) _ _ _)); (fail_if_success (with_reducible show wpAny _ _ (pyIter (Value.ref _)) _ _ _)); first | walk1 | (dsimp only; walk1) | (leave1; walk_say "STEP leave1"; try dsimp only)) | fail "no step"))
  k_with "binaryOp Add str str" => (k_here; (refine w_add (by walk_at "isS") (by walk_at "isS") ?zqz ?_); (case zqz => walk_at "lens"); intro t8 k8; (try dsimp only))
  k_with "inplaceOp Add str str" => (k_here; (refine w_iadd (by walk_at "isS") (by walk_at "isS") ?zqz ?_); (case zqz => walk_at "lens"); intro t8 k8; (try dsimp only))
  k_with "binaryOp Mult str int" => (k_here; (first | ((with_reducible refine w_dotsN ?zqz ?_); (case zqz => omega)) | ((with_reducible refine w_dots ?zqz ?zqz2 ?_); (case zqz => omega); (case zqz2 => omega))); intro t8 k8; (try dsimp only))
  k_with "binaryOp Mod int int" => (k_here; first | ((with_reducible refine w_mod ?zqz ?_); (case zqz => omega)) | ((with_reducible refine w_modL ?zqz ?_); (case zqz => decide)))
  k_with "inplaceOp FloorDiv int int" => (k_here; (with_reducible refine w_idiv ?zqz ?zqz2 ?_); (case zqz => omega); (case zqz2 => omega))
  k_with "binaryOp Add int int" => (k_here; first | (with_reducible refine w_add1 ?_) | (with_reducible refine w_addN ?_))
  k_with "inplaceOp Add int int" => (k_here; first | (with_reducible refine w_iadd1 ?_) | (with_reducible refine w_iaddN ?_))
  k_with "binaryOp Mult int int" => (k_here; (with_reducible refine w_mulN ?zqz ?_); (case zqz => omega))
  k_with "binaryOp Pow int int" => (k_here; (with_reducible refine w_pow ?zqz ?zqz2 ?_); (case zqz => omega); (case zqz2 => omega))
  k_with "call builtin:list.append" => (k_here; k_dflt (refine' w_append ?zqF ?zqN ?zqU ?zqz ?_; (case zqF => k_asm); (case zqN => k_asm); (case zqU => k_upd); (case zqz => omega)); intro h8 F8 N8; (try k_sweep))
  k_with "sides" => ((case zqH => walk_at "con"); (case zqF => assumption); (case zqN => assumption); (case zqX => assumption); (case zqT => assumption); (case zqd => first | assumption | omega); (case zqu => first | assumption | omega))
  k_with "call ref" => ((k_here; first | ((refine' con_useI ?zqH ?zqF ?zqN ?zqX ?zqT ?zqd ?zqu ?_; walk_at "sides"); intro t8 h8 tk8 F8 N8) | ((refine' con_useS ?zqH ?zqF ?zqN ?zqX ?zqT ?zqd ?zqu ?_; walk_at "sides"); intro t8 h8 tk8 F8 N8) | ((refine' con_useB ?zqH ?zqF ?zqN ?zqX ?zqT ?zqd ?zqu ?_; walk_at "sides"); intro h8 tk8 F8 N8)); (try dsimp only); (try k_sweep))
  k_with "for" => ((rename Fr _ _ _ _ => lF'); (with_unfolding_all refine' For_invVF lF' ?zqk1 ?zqk2 ?_; (case zqk1 => exact rfl); (case zqk2 => exact rfl)))
  k_with "call builtin:len" => (k_here; k_dflt (refine' w_len ?zqN ?zqm ?zqz ?_; (case zqN => k_asm); (case zqm => k_mem); (case zqz => omega)))
  k_with "sameB" => (intro z hz2 hz3; (simp only [BS.ps, List.forall_mem_cons, List.not_mem_nil, false_implies, implies_true, and_true, ne_eq] at hz2); (simp [BS.ps, kstB, hz2]))
  refine' con_def (binds := [(Str.ofString "number", .int n t), (Str.ofString "base", .int b u), (Str.ofString "new", .int w v)]) ?k6 ?k7 ?k9 ?kB ?c5 ?c2 ?c3 ?c4 (Nat.succ_pos _) ?_
  walk_at "con_enter"
  intro dp un fr gd s Q h₀ h₁ L tk X T hd hu hp F N hL hret
  try dsimp only
  walk_at "steps"
  rename_i F1 N1
  refine' ksw_while (fun _ => []) BS.ps (fun _ => True) []
    (fun c => c.tot + sumI (bump k b w) b w (n - c.p) c.n c.p = bump (k + 1) b w n ∧ c.n * 2 ^ c.p ≤ n) (fun c => c.n)
    ⟨n, 0, 0, t, _, _⟩ F1 N1 trivial (List.forall_mem_cons.mpr ⟨rfl, List.forall_mem_cons.mpr ⟨rfl, List.forall_mem_cons.mpr ⟨rfl, List.forall_mem_nil _⟩⟩⟩) ⟨by simp [bump], by simp⟩ ?turn
  case turn =>
    rintro c u2 h2 tk2 - ⟨hP1, hP2⟩ F2 N2
    have hm := Nat.mod_lt c.n (show 0 < b by omega)
    clear F1 N1
    walk_at "steps"
    · have hc : 0 < c.n := by omega
      have hnz : ¬ c.n % b = 0 := by omega
      have hpl := place_lt k n c.n c.p hn hc hP2
      rw [sumI_step _ _ _ _ _ _ hc hP2, if_neg hnz] at hP1
      have h3 : 1 * w ^ bump k b w c.p ≤ c.n % b * w ^ bump k b w c.p := Nat.mul_le_mul_right _ (by omega)
      have h4 := le_pow_self (m := bump (k + 1) b w n) hw (by omega : w ^ bump k b w c.p ≤ bump (k + 1) b w n) hlen
      refine' con_use (ih c.p _ _ _ hpl (by omega)) F2 N2 X T (by omega) (by omega) trivial ?_
      rintro r h8 tk8 st8 F8 N8 ⟨t8, rfl⟩
      try dsimp only
      k_sweep
      walk_at "steps"
      rename News _ _ _ _ => NN
      refine ksw_end ⟨c.n / b, c.p + 1, c.tot + c.n % b * w ^ bump k b w c.p, _, _, _⟩ (by assumption) NN (fun p hp => hp) trivial (List.forall_mem_cons.mpr ⟨rfl, List.forall_mem_cons.mpr ⟨rfl, List.forall_mem_cons.mpr ⟨rfl, List.forall_mem_nil _⟩⟩⟩) (by walk_at "sameB")
        ⟨?_, place_le b n c.n c.p hb hP2⟩ (Nat.div_lt_self hc (by omega))
      rw [← hP1]; dsimp only; omega
    · have hc : 0 < c.n := by omega
      have hnz : c.n % b = 0 := by omega
      rw [sumI_step _ _ _ _ _ _ hc hP2, if_pos hnz, Nat.zero_add] at hP1
      rename News _ _ _ _ => NN
      exact ksw_end ⟨c.n / b, c.p + 1, c.tot, _, _, _⟩ (by assumption) NN (fun p hp => hp) trivial (List.forall_mem_cons.mpr ⟨rfl, List.forall_mem_cons.mpr ⟨rfl, List.forall_mem_cons.mpr ⟨rfl, List.forall_mem_nil _⟩⟩⟩) (by walk_at "sameB")
        ⟨hP1, place_le b n c.n c.p hb hP2⟩ (Nat.div_lt_self hc (by omega))
    · have hc : c.n = 0 := by omega
      rw [hc, sumI_done, Nat.add_zero] at hP1
      try dsimp only
      rw [hP1]
      exact hret _ _ _ F2.keep ⟨_, rfl⟩
structure ZS where
  tn : Tok
  tp : Tok
  tt : Tok
noncomputable abbrev ZS.ps (c : ZS) : List (Str × Value) := [(Str.ofString "number", .int ((0 : Nat) : Int) c.tn), (Str.ofString "place", .int ((0 : Nat) : Int) c.tp), (Str.ofString "total", .int ((0 : Nat) : Int) c.tt)]
set_option maxHeartbeats 4000000 in
theorem bump_zero (C : Ctxt) (b w : Nat) (t u v : Tok) : Con C 135 1 Any [.int ((0 : Nat) : Int) t, .int b u, .int w v] (OutInt ((0 : Nat) : Int)) := by
  refine' con_def (binds := [(Str.ofString "number", .int ((0 : Nat) : Int) t), (Str.ofString "base", .int b u), (Str.ofString "new", .int w v)]) ?k6 ?k7 ?k9 ?kB ?c5 ?c2 ?c3 ?c4 (Nat.succ_pos _) ?_
  walk_at "con_enter"
  intro dp un fr gd s Q h₀ h₁ L tk X T hd hu hp F N hL hret
  try dsimp only
  walk_at "steps"
  rename_i F1 N1
  refine' ksw_while (fun _ => []) ZS.ps (fun _ => True) [] (fun c => True) (fun c => 0)
    ⟨t, _, _⟩ F1 N1 trivial (List.forall_mem_cons.mpr ⟨rfl, List.forall_mem_cons.mpr ⟨rfl, List.forall_mem_cons.mpr ⟨rfl, List.forall_mem_nil _⟩⟩⟩) trivial ?turn
  case turn =>
    rintro c u2 h2 tk2 - - F2 N2
    clear F1 N1
    walk_at "steps"
    try dsimp only
    exact hret _ _ _ F2.keep ⟨_, rfl⟩
theorem c_bump (C : Ctxt) (b w : Nat) (hb : 2 ≤ b) (hb2 : b ≤ 1000) (hw : 2 ≤ w) (hw2 : w ≤ 1000) : ∀ (k n : Nat) (t u v : Tok), n < tow k → bump k b w n < 2 ^ 41 →
    Con C 135 (k + 1) Any [.int n t, .int b u, .int w v] (OutInt (bump k b w n))
  | 0, n, t, u, v, hn, hl => by
    have hn0 : n = 0 := by unfold tow at hn; omega
    subst hn0
    exact bump_zero C b w t u v
  | k + 1, n, t, u, v, hn, hl => bump_step C b w k hb hb2 hw hw2 (fun n t u v h1 h3 => c_bump C b w hb hb2 hw hw2 k n t u v h1 h3) n t u v hn hl
end Mine
end
section
set_option maxRecDepth 100000
open PySem PySem.W PySem.Calls PyProof.Rows
set_option Elab.async false
namespace Mine
set_option maxHeartbeats 4000000 in
theorem c_add (C : Ctxt) (x y : Int) (t u : Tok) : Con C 69 1 Any [.int x t, .int y u] (OutInt (x + y)) := by
  k_with_none
  k_with "con_enter" => (w_top off; (case k6 => k_is); (case k7 => k_is); (case k9 => exact rfl); (case kB => exact rfl); (case c5 => decide); (case c2 => exact rfl); (case c3 => exact rfl); (case c4 => exact rfl); (try (case sz => decide)))
  k_with "isS" => (first | with_reducible rfl | exact l_dot | exact l_nl | exact l_open | exact l_minus | exact l_close | exact l_plus | exact l_nought | exact l_empty | exact l_cr | exact l_crnl | exact l_dots)
  k_with "lens" => ((try simp only [List.length_append, List.length_cons, List.length_nil, dots, List.length_replicate]); omega)
  k_with "steps" => (repeat' (first | (k_unfold; (try dsimp only)) | ((fail_if_success (with_reducible show wpAny _ _ (exec (Stmt.While _ _ _ _) _) _ _ _)); (fail_if_success (with_reducible show wpAny _ _ (exec (Stmt.For _ _ _ _ _) _) _ _ _)); (fail_if_success (with_reducible show wpAny _ _ (pyIter (Value.ref _)) _ _ _)); first | walk1 | (dsimp only; walk1) | (leave1; walk_say "STEP leave1"; try dsimp only)) | fail "no step"))
  k_with "binaryOp Add str str" => (k_here; (refine w_add (by walk_at "isS") (by walk_at "isS") ?zqz ?_); (case zqz => walk_at "lens"); intro t8 k8; (try dsimp only))
  k_with "inplaceOp Add str str" => (k_here; (refine w_iadd (by walk_at "isS") (by walk_at "isS") ?zqz ?_); (case zqz => walk_at "lens"); intro t8 k8; (try dsimp only))
  k_with "binaryOp Mult str int" => (k_here; (first | ((with_reducible refine w_dotsN ?zqz ?_); (case zqz => omega)) | ((with_reducible refine w_dots ?zqz ?zqz2 ?_); (case zqz => omega); (case zqz2 => omega))); intro t8 k8; (try dsimp only))
  k_with "binaryOp Mod int int" => (k_here; first | ((with_reducible refine w_mod ?zqz ?_); (case zqz => omega)) | ((with_reducible refine w_modL ?zqz ?_); (case zqz => decide)))
  k_with "inplaceOp FloorDiv int int" => (k_here; (with_reducible refine w_idiv ?zqz ?zqz2 ?_); (case zqz => omega); (case zqz2 => omega))
  k_with "binaryOp Add int int" => (k_here; first | (with_reducible refine w_add1 ?_) | (with_reducible refine w_addN ?_))
  k_with "inplaceOp Add int int" => (k_here; first | (with_reducible refine w_iadd1 ?_) | (with_reducible refine w_iaddN ?_))
  k_with "binaryOp Mult int int" => (k_here; (with_reducible refine w_mulN ?zqz ?_); (case zqz => omega))
  k_with "binaryOp Pow int int" => (k_here; (with_reducible refine w_pow ?zqz ?zqz2 ?_); (case zqz => omega); (case zqz2 => omega))
  k_with "call builtin:list.append" => (k_here; k_dflt (refine' w_append ?zqF ?zqN ?zqU ?zqz ?_; (case zqF => k_asm); (case zqN => k_asm); (case zqU => k_upd); (case zqz => omega)); intro h8 F8 N8; (try k_sweep))
  k_with "sides" => ((case zqH => walk_at "con"); (case zqF => assumption); (case zqN => assumption); (case zqX => assumption); (case zqT => assumption); (case zqd => first | assumption | omega); (case zqu => first | assumption | omega))
  k_with "call ref" => ((k_here; first | ((refine' con_useI ?zqH ?zqF ?zqN ?zqX ?zqT ?zqd ?zqu ?_; walk_at "sides"); intro t8 h8 tk8 F8 N8) | ((refine' con_useS ?zqH ?zqF ?zqN ?zqX ?zqT ?zqd ?zqu ?_; walk_at "sides"); intro t8 h8 tk8 F8 N8) | ((refine' con_useB ?zqH ?zqF ?zqN ?zqX ?zqT ?zqd ?zqu ?_; walk_at "sides"); intro h8 tk8 F8 N8)); (try dsimp only); (try k_sweep))
  k_with "for" => ((rename Fr _ _ _ _ => lF'); (with_unfolding_all refine' For_invVF lF' ?zqk1 ?zqk2 ?_; (case zqk1 => exact rfl); (case zqk2 => exact rfl)))
  k_with "call builtin:len" => (k_here; k_dflt (refine' w_len ?zqN ?zqm ?zqz ?_; (case zqN => k_asm); (case zqm => k_mem); (case zqz => omega)))
  refine' con_def (binds := [(Str.ofString "a", .int x t), (Str.ofString "b", .int y u)]) ?k6 ?k7 ?k9 ?kB ?c5 ?c2 ?c3 ?c4 ?sz ?_
  walk_at "con_enter"
  intro dp un fr gd s Q h₀ h₁ L tk X T hd hu hp F N hL hret
  try dsimp only
  walk_at "steps"
  try dsimp only
  exact hret _ _ _ F.keep ⟨_, rfl⟩
set_option maxHeartbeats 4000000 in
theorem c_sub (C : Ctxt) (x y : Int) (t u : Tok) : Con C 83 1 Any [.int x t, .int y u] (OutInt (x - y)) := by
  refine' con_def (binds := [(Str.ofString "a", .int x t), (Str.ofString "b", .int y u)]) ?k6 ?k7 ?k9 ?kB ?c5 ?c2 ?c3 ?c4 ?sz ?_
  walk_at "con_enter"
  intro dp un fr gd s Q h₀ h₁ L tk X T hd hu hp F N hL hret
  try dsimp only
  walk_at "steps"
  try dsimp only
  exact hret _ _ _ F.keep ⟨_, rfl⟩
set_option maxHeartbeats 4000000 in
theorem c_mul (C : Ctxt) (x y : Nat) (t u : Tok) (hx : x < 1099511627776) : Con C 76 1 Any [.int x t, .int y u] (OutInt ((x * y : Nat) : Int)) := by
  refine' con_def (binds := [(Str.ofString "a", .int x t), (Str.ofString "b", .int y u)]) ?k6 ?k7 ?k9 ?kB ?c5 ?c2 ?c3 ?c4 ?sz ?_
  walk_at "con_enter"
  intro dp un fr gd s Q h₀ h₁ L tk X T hd hu hp F N hL hret
  try dsimp only
  walk_at "steps"
  try dsimp only
  exact hret _ _ _ F.keep ⟨_, rfl⟩
set_option maxHeartbeats 4000000 in
theorem c_pow (C : Ctxt) (x y : Nat) (t u : Tok) (hx : x < 1099511627776) (hy : y ≤ 1000000) : Con C 97 1 Any [.int x t, .int y u] (OutInt ((x ^ y : Nat) : Int)) := by
  refine' con_def (binds := [(Str.ofString "a", .int x t), (Str.ofString "b", .int y u)]) ?k6 ?k7 ?k9 ?kB ?c5 ?c2 ?c3 ?c4 ?sz ?_
  walk_at "con_enter"
  intro dp un fr gd s Q h₀ h₁ L tk X T hd hu hp F N hL hret
  try dsimp only
  walk_at "steps"
  try dsimp only
  exact hret _ _ _ (Fr.keep (by assumption)) ⟨_, rfl⟩
set_option maxHeartbeats 4000000 in
theorem c_gt (C : Ctxt) (x y : Int) (t u : Tok) : Con C 62 1 Any [.int x t, .int y u] (OutBool (decide (y < x))) := by
  refine' con_def (binds := [(Str.ofString "a", .int x t), (Str.ofString "b", .int y u)]) ?k6 ?k7 ?k9 ?kB ?c5 ?c2 ?c3 ?c4 ?sz ?_
  walk_at "con_enter"
  intro dp un fr gd s Q h₀ h₁ L tk X T hd hu hp F N hL hret
  try dsimp only
  walk_at "steps"
  try dsimp only
  exact hret _ _ _ F.keep rfl
set_option maxHeartbeats 4000000 in
theorem c_eof (C : Ctxt) (x : Int) (t : Tok) : Con C 107 1 Any [.int x t] (OutBool (x == 0)) := by
  refine' con_def (binds := [(Str.ofString "x", .int x t)]) ?k6 ?k7 ?k9 ?kB ?c5 ?c2 ?c3 ?c4 ?sz ?_
  walk_at "con_enter"
  intro dp un fr gd s Q h₀ h₁ L tk X T hd hu hp F N hL hret
  try dsimp only
  walk_at "steps"
  try dsimp only
  exact hret _ _ _ F.keep rfl
/-- what two numbers make by a sign's kind -/
noncomputable def app (k l r : Nat) : Option Nat :=
  if k = 14 then some (l + r) else if k = 15 then (if r ≤ l then some (l - r) else none) else if k = 16 then (if l < 1099511627776 then some (l * r) else none)
  else if k = 35 then (if l < 1099511627776 ∧ r ≤ 1000000 then some (l ^ r) else none) else none
set_option maxHeartbeats 4000000 in
theorem c_done (C : Ctxt) (k l r x : Nat) (t u v : Tok) (h : app k l r = some x) : Con C 149 2 Any [.int k t, .int l u, .int r v] (OutInt (x : Int)) := by
  k_with "con" => (first | exact c_add _ _ _ _ _ | exact c_sub _ _ _ _ _ | exact c_mul _ _ _ _ _ (by omega) | exact c_pow _ _ _ _ _ (by omega) (by omega) | exact c_gt _ _ _ _ _ | exact c_eof _ _ _)
  refine' con_def (binds := [(Str.ofString "kind", .int k t), (Str.ofString "left", .int l u), (Str.ofString "right", .int r v)]) ?k6 ?k7 ?k9 ?kB ?c5 ?c2 ?c3 ?c4 ?sz ?_
  walk_at "con_enter"
  intro dp un fr gd s Q h₀ h₁ L tk X T hd hu hp F N hL hret
  unfold app at h
  split at h
  · rename_i hk; subst hk
    cases h
    try dsimp only
    walk_at "steps"
    try dsimp only
    exact hret _ _ _ (Fr.keep (by assumption)) ⟨_, rfl⟩
  · split at h
    · rename_i hk; subst hk
      split at h
      · rename_i hk hle
        cases h
        rw [Int.ofNat_sub hle] at hret
        try dsimp only
        walk_at "steps"
        try dsimp only
        exact hret _ _ _ (Fr.keep (by assumption)) ⟨_, rfl⟩
      · cases h
    · split at h
      · rename_i hk; subst hk
        split at h
        · cases h
          try dsimp only
          walk_at "steps"
          try dsimp only
          exact hret _ _ _ (Fr.keep (by assumption)) ⟨_, rfl⟩
        · cases h
      · split at h
        · rename_i hk; subst hk
          split at h
          · rename_i hb
            obtain ⟨hb1, hb2⟩ := hb
            cases h
            try dsimp only
            walk_at "steps"
            try dsimp only
            exact hret _ _ _ (Fr.keep (by assumption)) ⟨_, rfl⟩
          · cases h
        · cases h
end Mine
end
section
set_option maxRecDepth 100000
namespace Mine
/-- the waiting signs that a new one of kind k settles (tops first) -/
noncomputable def red (k : Nat) : List Nat → List Nat → Option (List Nat × List Nat)
  | [], ws => some ([], ws)
  | o :: wt, ws => if k ≠ 7 ∧ k ≤ o then (match ws with
      | r :: l :: ws => (match app o l r with | some x => red k wt (x :: ws) | none => none)
      | _ => none)
    else some (o :: wt, ws)
structure St where
  ws : List Nat
  wt : List Nat
  ah : Nat
noncomputable def stp (k : Nat) (c : St) : Option St :=
  if k = 23 ∨ k = 52 then
    (if c.ah = 23 ∨ c.ah = 52 then (match c.ws with
      | x :: ws => some ⟨(x + (if k = 23 then 1 else 3)) :: ws, c.wt, k⟩
      | [] => none)
    else some ⟨(if k = 23 then 1 else 3) :: c.ws, c.wt, k⟩)
  else match red k c.wt c.ws with
    | none => none
    | some (wt, ws) => if k = 8 then (match wt with
        | _ :: wt => some ⟨ws, wt, k⟩
        | [] => none)
      else if k = 0 then some ⟨ws, wt, k⟩ else some ⟨ws, k :: wt, k⟩
noncomputable def runW : List Nat → St → Option St
  | [], c => some c
  | k :: ks, c => match stp k c with
    | some c' => runW ks c'
    | none => none
theorem red_len (k : Nat) : ∀ (wt ws : List Nat) (r : List Nat × List Nat), red k wt ws = some r → r.1.length ≤ wt.length ∧ r.2.length ≤ ws.length
  | [], ws, r, h => by cases h; exact ⟨Nat.le_refl _, Nat.le_refl _⟩
  | o :: wt, ws, r, h => by
    unfold red at h
    split at h
    · split at h
      · split at h
        · have := red_len k wt _ r h
          simp only [List.length_cons] at this ⊢
          omega
        · cases h
      · cases h
    · cases h; exact ⟨Nat.le_refl _, Nat.le_refl _⟩
end Mine
end
section
set_option maxRecDepth 100000
namespace Mine
open PySem PySem.W PySem.Calls PyProof.Rows PySem.Builtin PySem.Builtin.Str PySem.StrLaws
theorem stp_join {k : Nat} {c c' : St} (h1 : k = 23 ∨ k = 52) (h2 : c.ah = 23 ∨ c.ah = 52) (h : stp k c = some c') : ∃ x ws, c.ws = x :: ws ∧ c' = ⟨(x + (if k = 23 then 1 else 3)) :: ws, c.wt, k⟩ := by
  unfold stp at h
  rw [if_pos h1, if_pos h2] at h
  split at h
  · exact ⟨_, _, by assumption, (Option.some.inj h).symm⟩
  · cases h
theorem stp_push {k : Nat} {c c' : St} (h1 : k = 23 ∨ k = 52) (h2 : ¬ (c.ah = 23 ∨ c.ah = 52)) (h : stp k c = some c') : c' = ⟨(if k = 23 then 1 else 3) :: c.ws, c.wt, k⟩ := by
  unfold stp at h
  rw [if_pos h1, if_neg h2] at h
  exact (Option.some.inj h).symm
theorem stp_red {k : Nat} {c c' : St} (h1 : ¬ (k = 23 ∨ k = 52)) (h : stp k c = some c') : ∃ wt ws, red k c.wt c.ws = some (wt, ws) ∧
    ((k = 8 ∧ ∃ o w, wt = o :: w ∧ c' = ⟨ws, w, k⟩) ∨ (k = 0 ∧ c' = ⟨ws, wt, k⟩) ∨ (k ≠ 8 ∧ k ≠ 0 ∧ c' = ⟨ws, k :: wt, k⟩)) := by
  unfold stp at h
  rw [if_neg h1] at h
  split at h
  · cases h
  · rename_i wt ws e
    refine ⟨wt, ws, e, ?_⟩
    split at h
    · rename_i k8
      split at h
      · exact .inl ⟨k8, _, _, rfl, (Option.some.inj h).symm⟩
      · cases h
    · split at h
      · exact .inr (.inl ⟨by assumption, (Option.some.inj h).symm⟩)
      · exact .inr (.inr ⟨by assumption, by assumption, (Option.some.inj h).symm⟩)
noncomputable abbrev rv (l : List (Nat × Tok)) : List Nat := (l.map (·.1)).reverse
theorem rv_snoc (l : List (Nat × Tok)) (x : Nat) (t : Tok) : rv (l ++ [(x, t)]) = x :: rv l := by simp [rv]
/-- how the inner loop ends -/
noncomputable def KOut {σ : Type} (h₀ : Heap) (L : Addr) (s : Shared) (Led : σ → List (Addr × Obj)) (ps : σ → List (Str × Value)) (stored : List Str) (m₀ : Str → Option Value) (D : σ → Prop) (s₂ : Shared) : Prop :=
  ∃ (c' : σ) (h' : Heap) (tk : Nat) (m' : Str → Option Value) (news' : List (Addr × Obj)), s₂ = { s with heap := h', toks := tk } ∧ Fr h₀ L h' m' ∧ News h₀ L h' news' ∧ (∀ p ∈ Led c', p ∈ news') ∧ (∀ p ∈ ps c', m' p.1 = some p.2) ∧ (∀ z, (∀ p ∈ ps c', z ≠ p.1) → stored.contains z = false → m' z = m₀ z) ∧ D c'
theorem kout {σ : Type} {h₀ : Heap} {L : Addr} {s : Shared} {Led : σ → List (Addr × Obj)} {ps : σ → List (Str × Value)} {stored : List Str} {m₀ m' : Str → Option Value} {D : σ → Prop} {h' : Heap} {tk : Nat} {news' : List (Addr × Obj)} (c' : σ)
    (F : Fr h₀ L h' m') (N : News h₀ L h' news') (hn : ∀ p ∈ Led c', p ∈ news') (hk : ∀ p ∈ ps c', m' p.1 = some p.2) (hr : ∀ z, (∀ p ∈ ps c', z ≠ p.1) → stored.contains z = false → m' z = m₀ z) (hp : D c') :
    KOut h₀ L s Led ps stored m₀ D { s with heap := h', toks := tk } := ⟨c', h', tk, m', news', rfl, F, N, hn, hk, hr, hp⟩
section
variable {prog : Program} {w : World} {A : Around} {E : Value → Shared → Prop} {Q : Flow → Shared → Prop} {s : Shared} {env : Env} {h₀ : Heap} {L : Addr}
theorem ksw_while2 {σ : Type} {test : Expr} {body : List Stmt} {pos : Pos} {m₀ : Str → Option Value} (Led : σ → List (Addr × Obj)) (ps : σ → List (Str × Value)) (stored : List Str) (P : σ → Prop) (μ : σ → Nat) (c₀ : σ) (D : σ → Prop)
    (F : Fr h₀ L s.heap m₀) (N : News h₀ L s.heap (Led c₀)) (hk : ∀ p ∈ ps c₀, m₀ p.1 = some p.2) (hp : P c₀)
    (turn : ∀ (c : σ) (u : Str → Option Value) h tk (Q' : Flow → Shared → Prop), P c → (∀ s₂, KOut h₀ L s Led ps stored m₀ D s₂ → Q' .next s₂) → Fr h₀ L h (kstB (fun z => if stored.contains z then u z else m₀ z) (ps c)) → News h₀ L h (Led c) →
      wpAny (model prog w) A (isTrue test env (eval test env)) (fun b s₂ =>
        if b = true then wpAny (model prog w) A (execs body env) (KswPost h₀ L s Led ps (fun _ => True) stored m₀ P μ Q' c) E s₂ else Q' .next s₂) E { s with heap := h, toks := tk })
    (done : ∀ (c : σ) (u : Str → Option Value) h tk, D c → Fr h₀ L h (kstB (fun z => if stored.contains z then u z else m₀ z) (ps c)) → News h₀ L h (Led c) → Q .next { s with heap := h, toks := tk })
    (hE : PassesOwn (model prog w) A env E := by passes_own) :
    wpAny (model prog w) A (exec (.While test body [] pos) env) Q E s := by
  refine wpAny_mono (ksw_while (Q := fun f s₂ => match f with | .next => KOut h₀ L s Led ps stored m₀ D s₂ | _ => Q f s₂) Led ps (fun _ => True) stored P μ c₀ F N trivial hk hp ?_ hE) (fun f s₂ p => ?_) fun _ _ x => x
  · exact fun c u h tk _ pc F N => turn c u h tk _ pc (fun _ k => k) F N
  · cases f with
    | next =>
      obtain ⟨c', h', tk, m', news', rfl, F', N', hn, hk9, hr9, hp9⟩ := p
      exact done c' m' h' tk hp9 (ksw_fr hk9 hr9 F') fun p hp => N' p (hn p hp)
    | ret v => exact p
    | brk => exact p
    | cont => exact p
end
section
variable {prog : Program} {w : World} {A : Around} {E : Value → Shared → Prop} {s : Shared} {t u : Tok} {h₀ : Heap} {L D B : Addr} {m : Str → Option Value} {news news' : List (Addr × Obj)} {Q : Value → Shared → Prop} {us : List (Nat × Tok)} {cnt x : Nat}
theorem w_neNil_no {c2 : Nat} (N : News h₀ L s.heap news) (hm : (D, listOf (nats []).toArray cnt) ∈ news) (hb : (B, listOf ([] : List Value).toArray c2) ∈ news) (hu : A.units + 64 < cLine) (h : Q (.bool false) s) :
    wpAny (model prog w) A (compareOp .NotEq (.ref D) (.ref B)) Q E s := w_neNil (us := []) N hm hb hu h
theorem w_neNil_yes {c2 : Nat} (N : News h₀ L s.heap news) (hm : (D, listOf (nats (us ++ [(x, t)])).toArray cnt) ∈ news) (hb : (B, listOf ([] : List Value).toArray c2) ∈ news) (hu : A.units + 64 < cLine) (h : Q (.bool true) s) :
    wpAny (model prog w) A (compareOp .NotEq (.ref D) (.ref B)) Q E s := by
  refine w_neNil (us := us ++ [(x, t)]) N hm hb hu ?_
  rw [decide_eq_true (by simp)]
  exact h
theorem w_eqNil_yes {c2 : Nat} (N : News h₀ L s.heap news) (hm : (D, listOf (nats []).toArray cnt) ∈ news) (hb : (B, listOf ([] : List Value).toArray c2) ∈ news) (hu : A.units + 64 < cLine) (h : Q (.bool true) s) :
    wpAny (model prog w) A (compareOp .Eq (.ref D) (.ref B)) Q E s := w_eqNil (us := []) N hm hb hu h
theorem w_appendT {ks : List (Nat × Tok)} {i : Int} (hi : 0 ≤ i) (F : Fr h₀ L s.heap m) (N : News h₀ L s.heap news) (U : Upd D (listOf (nats ks).toArray cnt) (listOf (nats (ks ++ [(i.toNat, t)])).toArray (cnt + 1)) news news') (hz : ks.length ≤ 1048576)
    (h : ∀ h', Fr h₀ L h' m → News h₀ L h' news' → Q .none { s with heap := h' }) : wpAny (model prog w) A (call (.builtin "list.append") [.ref D, .int i t]) Q E s :=
  w_appendI i.toNat (by omega) F N U hz h
theorem w_len1 (N : News h₀ L s.heap news) (hm : (D, listOf (nats [(x, t)]).toArray cnt) ∈ news) (h : Q (.int 1 (s.toks + 1)) { s with toks := s.toks + 1 + 1 }) :
    wpAny (model prog w) A (call (.builtin "len") [.ref D]) Q E s := w_lenN (us := [(x, t)]) N hm (by show 1 < _; omega) h
end
end Mine
namespace Mine
open PySem PySem.W PySem.Calls PyProof.Rows PySem.Builtin PySem.Builtin.Str PySem.StrLaws
section
variable {prog : Program} {w : World} {A : Around} {E : Value → Shared → Prop} {s : Shared} {t t1 t2 : Tok} {h₀ : Heap} {L D : Addr} {news : List (Addr × Obj)} {Q : Value → Shared → Prop} {k a b : Int} {o : Obj} {n : Nat}
theorem w_inYes (N : News h₀ L s.heap news) (hm : (D, o) ∈ news) (hc : o.cls = .type "tuple") (hd : o.data = .seq #[.int a t1, .int b t2] n) (hk : k = a ∨ k = b) (h : Q (.bool true) s) :
    wpAny (model prog w) A (compareOp .In (.int k t) (.ref D)) Q E s := by
  refine in_tuple_ints (ns := [a, b]) ⟨o, (N _ hm).1, hc, n, hd⟩ (.cons _ _ (.cons _ _ .nil)) ?_
  have e : ([a, b].any fun x => x == k) = true := by rcases hk with rfl | rfl <;> simp
  rw [e]; exact h
theorem w_inNo (N : News h₀ L s.heap news) (hm : (D, o) ∈ news) (hc : o.cls = .type "tuple") (hd : o.data = .seq #[.int a t1, .int b t2] n) (hk : ¬ (k = a ∨ k = b)) (h : Q (.bool false) s) :
    wpAny (model prog w) A (compareOp .In (.int k t) (.ref D)) Q E s := by
  refine in_tuple_ints (ns := [a, b]) ⟨o, (N _ hm).1, hc, n, hd⟩ (.cons _ _ (.cons _ _ .nil)) ?_
  have e : ([a, b].any fun x => x == k) = false := by
    simp only [List.any_cons, List.any_nil, Bool.or_false, Bool.or_eq_false_iff, beq_eq_false_iff_ne]
    exact ⟨fun q => hk (.inl q.symm), fun q => hk (.inr q.symm)⟩
  rw [e]; exact h
end
end Mine
end
section
set_option maxRecDepth 100000
namespace Mine
open PySem PySem.W PySem.Calls PyProof.Rows PySem.Builtin PySem.Builtin.Str PySem.StrLaws
theorem ints_get {vs : List Value} {ns : List Int} (h : IntsAre vs ns) : ∀ {k : Nat}, k < vs.length → ∃ n t, vs[k]? = some (.int n t) := by
  induction h with
  | nil => intro k hk; exact absurd hk (Nat.not_lt_zero _)
  | cons n t _ ih =>
    intro k hk
    cases k with
    | zero => exact ⟨n, t, rfl⟩
    | succ k =>
      obtain ⟨n', t', e⟩ := ih (k := k) (by simpa using hk)
      exact ⟨n', t', by simpa using e⟩
theorem ints_len {vs : List Value} {ns : List Int} (h : IntsAre vs ns) : vs.length = ns.length := by
  induction h with
  | nil => rfl
  | cons n t _ ih => simp [ih]
theorem nats_get {us : List (Nat × Tok)} {j : Nat} {p : Nat × Tok} (h : us[j]? = some p) : (nats us).toArray[j]? = some (.int (p.1 : Int) p.2) := by
  simp [nats, h]
theorem nats_set (us : List (Nat × Tok)) (j : Nat) (y : Nat) (t : Tok) (hj : j < us.length) : ki_setL (nats us) j (.int (y : Int) t) = some (nats (us.set j (y, t))) := by
  induction us generalizing j with
  | nil => exact absurd hj (Nat.not_lt_zero _)
  | cons p us ih =>
    cases j with
    | zero => rfl
    | succ j =>
      have := ih j (by simpa using hj)
      show ki_setL (Value.int (p.1 : Int) p.2 :: nats us) (j + 1) (.int (y : Int) t) = _
      unfold ki_setL
      rw [this]; rfl
section
variable {prog : Program} {w : World} {A : Around} {E : Value → Shared → Prop} {s : Shared} {t u : Tok} {h₀ : Heap} {L D B : Addr} {m : Str → Option Value} {news news' : List (Addr × Obj)} {us : List (Nat × Tok)} {cnt x : Nat}
theorem w_modI {i b : Int} {Q : Value → Shared → Prop} (hb : 0 < b) (h : ∀ n : Nat, (n : Int) < b → Q (.int (n : Int) s.toks) { s with toks := s.toks + 1 }) : wpAny (model prog w) A (binaryOp .Mod (.int i t) (.int b u)) Q E s := by
  refine mod_int' (by omega) ?_
  have h1 : i.fmod b = i % b := Int.fmod_eq_emod_of_nonneg _ (Int.le_of_lt hb)
  have h2 := Int.emod_nonneg i (show b ≠ 0 by omega)
  have h3 := Int.emod_lt_of_pos i hb
  have e : i.fmod b = ((i % b).toNat : Int) := by rw [h1, Int.toNat_of_nonneg h2]
  rw [e]
  exact h _ (by rw [Int.toNat_of_nonneg h2]; exact h3)
theorem w_getS {vs : List Value} {ns : List Int} {k : Nat} {Q : Value → Shared → Prop} {value slice : Expr} (F : Fr h₀ L s.heap m) (hl : h₀.IsList D vs.toArray) (hi : IntsAre vs ns) (hk : k < ns.length) (hz : k < 2 ^ 62) (h : ∀ n t', Q (.int n t') s)
    (hs : subscripted slice false (.ref D) (.int (k : Int) u) = operate [.ref D, .int (k : Int) u] (getItem (.ref D) (.int (k : Int) u)) := by with_unfolding_all rfl) :
    wpAny (model prog w) A (subscriptTail value slice (.ref D) (.int (k : Int) u)) Q E s := by
  have hL : s.heap.IsList D vs.toArray := hl.at fun o e => F.keep _ o e
  obtain ⟨n, t', e⟩ := ints_get hi (k := k) (by rw [ints_len hi]; exact hk)
  refine tail_any hL.typeIs slot_list_getitem.lookup (wpAny_getItem_list hL (by omega) (by omega) (x := .int n t') ?_ (h n t')) hs
  rw [Int.toNat_natCast]; simpa using e
theorem w_getC {j : Nat} {Q : Value → Shared → Prop} (N : News h₀ L s.heap news) (hm : (D, listOf (nats us).toArray cnt) ∈ news) (hj : j < us.length) (hz : j < 2 ^ 62) (h : ∀ p : Nat × Tok, us[j]? = some p → Q (.int (p.1 : Int) p.2) s) :
    wpAny (model prog w) A (getItem (.ref D) (.int (j : Int) u)) Q E s := by
  have hL := N.isList hm
  have e : us[j]? = some us[j] := List.getElem?_eq_getElem hj
  exact wpAny_getItem_list hL (by omega) (by omega) (by rw [Int.toNat_natCast]; exact nats_get e) (h _ e)
theorem w_setC {j y : Nat} {i : Int} {Q : Unit → Shared → Prop} (F : Fr h₀ L s.heap m) (N : News h₀ L s.heap news) (hj : j < us.length) (hz : j < 2 ^ 62) (hi : i = (y : Int)) (U : Upd D (listOf (nats us).toArray cnt) (listOf (nats (us.set j (y, t))).toArray cnt) news news')
    (h : ∀ h', Fr h₀ L h' m → News h₀ L h' news' → Q () { s with heap := h' }) : wpAny (model prog w) A (setItem (.ref D) (.int (j : Int) u) (.int i t)) Q E s := by
  subst hi
  exact ki_set F N (by omega) (by omega) (by rw [Int.toNat_natCast]; exact nats_set us j y t hj) U h
end
end Mine
end
section
set_option maxRecDepth 100000
namespace Mine
open PySem PySem.W PySem.Calls PyProof.Rows PySem.Builtin PySem.Builtin.Str PySem.StrLaws
section
variable {prog : Program} {w : World} {A : Around} {E : Value → Shared → Prop} {s : Shared} {Q : Value → Shared → Prop} {a b : Int} {t u : Tok}
theorem w_isYes (h0 : t ≠ 0) (h1 : u ≠ 0) (hab : a = b) (hs : smallInt a = true) (h : Q (.bool true) s) :
    wpAny (model prog w) A (compareOp .Is (.int a t) (.int b u)) Q E s := by
  subst hab
  have e : (t == 0 || u == 0) = false := by simp [h0, h1]
  unfold compareOp isSame
  simp only [beq_self_eq_true, hs, Bool.and_self, ite_true, isSame.cachedInt, e, Bool.false_eq_true, ite_false]
  repeat (first | exact h | wp_step)
theorem w_isNo (h0 : t ≠ 0) (h1 : u ≠ 0) (h2 : t ≠ u) (hab : a ≠ b) (h : Q (.bool false) s) :
    wpAny (model prog w) A (compareOp .Is (.int a t) (.int b u)) Q E s := by
  have e : (t == 0 || u == 0) = false := by simp [h0, h1]
  have e1 : (a == b) = false := by simp [hab]
  have e2 : (t == u) = false := by simp [h2]
  unfold compareOp isSame
  simp only [e1, Bool.false_and, Bool.false_eq_true, ite_false, isSame.created, e, e2, Bool.not_false, ite_true]
  repeat (first | exact h | wp_step)
end
end Mine
end
section
set_option maxRecDepth 100000
open PySem PySem.W PySem.Calls PyProof.Rows
set_option Elab.async false
namespace Mine
noncomputable def page (k b sh n : Nat) : List Nat := dots (1 + sh - b) ++ [10] ++ (if n = 0 then [10, 40, 46, 45, 46, 41] else terms k b sh n) ++ [10]
set_option maxHeartbeats 4000000 in
theorem c_page (C : Ctxt) (b sh k n : Nat) (t u v : Tok) (hb : 2 ≤ b) (hb2 : b ≤ sh) (hsh : sh ≤ 1000) (hn : n < tow (k + 1)) (hlen : (terms (k + 1) b sh n).length ≤ 2 ^ 17) :
    Con C 121 (k + 3) Any [.int n t, .int b u, .int sh v] (OutStr (S (page (k + 1) b sh n))) := by
  k_with_none
  k_with "con_enter" => (w_top off; (case k6 => k_is); (case k7 => k_is); (case k9 => exact rfl); (case kB => exact rfl); (case c5 => decide); (case c2 => exact rfl); (case c3 => exact rfl); (case c4 => exact rfl); (try (case sz => decide)))
  k_with "isS" => (first | with_reducible rfl | exact l_dot | exact l_nl | exact l_open | exact l_minus | exact l_close | exact l_plus | exact l_nought | exact l_empty | exact l_cr | exact l_crnl | exact l_dots)
  k_with "lens" => ((try simp only [List.length_append, List.length_cons, List.length_nil, dots, List.length_replicate]); omega)
  k_with "steps" => (repeat' (first | (k_unfold; (try dsimp only)) | ((fail_if_success (with_reducible show wpAny _ _ (exec (Stmt.While _ _ _ _) _) _ _ _)); (fail_if_success (with_reducible show wpAny _ _ (exec (Stmt.For _ _ _ _ _) _) _ _ _)); (fail_if_success (with_reducible show wpAny _ _ (pyIter (Value.ref _)) _ _ _)); first | walk1 | (dsimp only; walk1) | (leave1; walk_say "STEP leave1"; try dsimp only)) | fail "no step"))
  k_with "binaryOp Add str str" => (k_here; (refine w_add (by walk_at "isS") (by walk_at "isS") ?zqz ?_); (case zqz => walk_at "lens"); intro t8 k8; (try dsimp only))
  k_with "inplaceOp Add str str" => (k_here; (refine w_iadd (by walk_at "isS") (by walk_at "isS") ?zqz ?_); (case zqz => walk_at "lens"); intro t8 k8; (try dsimp only))
  k_with "binaryOp Mult str int" => (k_here; (first | ((with_reducible refine w_dotsN ?zqz ?_); (case zqz => omega)) | ((with_reducible refine w_dots ?zqz ?zqz2 ?_); (case zqz => omega); (case zqz2 => omega))); intro t8 k8; (try dsimp only))
  k_with "binaryOp Mod int int" => (k_here; first | ((with_reducible refine w_mod ?zqz ?_); (case zqz => omega)) | ((with_reducible refine w_modL ?zqz ?_); (case zqz => decide)))
  k_with "inplaceOp FloorDiv int int" => (k_here; (with_reducible refine w_idiv ?zqz ?zqz2 ?_); (case zqz => omega); (case zqz2 => omega))
  k_with "binaryOp Add int int" => (k_here; first | (with_reducible refine w_add1 ?_) | (with_reducible refine w_addN ?_))
  k_with "inplaceOp Add int int" => (k_here; first | (with_reducible refine w_iadd1 ?_) | (with_reducible refine w_iaddN ?_))
  k_with "binaryOp Mult int int" => (k_here; (with_reducible refine w_mulN ?zqz ?_); (case zqz => omega))
  k_with "binaryOp Pow int int" => (k_here; (with_reducible refine w_pow ?zqz ?zqz2 ?_); (case zqz => omega); (case zqz2 => omega))
  k_with "call builtin:list.append" => (k_here; k_dflt (refine' w_append ?zqF ?zqN ?zqU ?zqz ?_; (case zqF => k_asm); (case zqN => k_asm); (case zqU => k_upd); (case zqz => omega)); intro h8 F8 N8; (try k_sweep))
  k_with "sides" => ((case zqH => walk_at "con"); (case zqF => assumption); (case zqN => assumption); (case zqX => assumption); (case zqT => assumption); (case zqd => first | assumption | omega); (case zqu => first | assumption | omega))
  k_with "call ref" => ((k_here; first | ((refine' con_useI ?zqH ?zqF ?zqN ?zqX ?zqT ?zqd ?zqu ?_; walk_at "sides"); intro t8 h8 tk8 F8 N8) | ((refine' con_useS ?zqH ?zqF ?zqN ?zqX ?zqT ?zqd ?zqu ?_; walk_at "sides"); intro t8 h8 tk8 F8 N8) | ((refine' con_useB ?zqH ?zqF ?zqN ?zqX ?zqT ?zqd ?zqu ?_; walk_at "sides"); intro h8 tk8 F8 N8)); (try dsimp only); (try k_sweep))
  k_with "for" => ((rename Fr _ _ _ _ => lF'); (with_unfolding_all refine' For_invVF lF' ?zqk1 ?zqk2 ?_; (case zqk1 => exact rfl); (case zqk2 => exact rfl)))
  k_with "call builtin:len" => (k_here; k_dflt (refine' w_len ?zqN ?zqm ?zqz ?_; (case zqN => k_asm); (case zqm => k_mem); (case zqz => omega)))
  refine' con_def (binds := [(Str.ofString "number", .int n t), (Str.ofString "base", .int b u), (Str.ofString "shown", .int sh v)]) ?k6 ?k7 ?k9 ?kB ?c5 ?c2 ?c3 ?c4 (Nat.succ_pos _) ?_
  walk_at "con_enter"
  intro dp un fr gd s Q h₀ h₁ L tk X T hd hu hp F N hL hret
  have hc := fun t u v => c_terms C b sh hb (by omega) hsh k n t u v hn hlen
  try dsimp only
  have e1 : (1 + (sh : Int) - (b : Int)).toNat = 1 + sh - b := by omega
  walk_at "steps"
  · have hnz : ¬ n = 0 := by omega
    refine' con_useS (hc _ _ _) ?F ?N X T (by omega) (by omega) ?_
    (case F => assumption)
    (case N => assumption)
    intro t8 h8 tk8 F8 N8
    try dsimp only
    k_sweep
    walk_at "steps"
    have e2 : dots (1 + sh - b) ++ [10] ++ terms (k + 1) b sh n ++ [10] = page (k + 1) b sh n := by unfold page; rw [if_neg hnz]
    rw [e1, e2]
    exact hret _ _ _ (Fr.keep (by assumption)) ⟨_, rfl⟩
  · have hz : n = 0 := by omega
    have e2 : dots (1 + sh - b) ++ [10] ++ [10, 40, 46, 45, 46, 41] ++ [10] = page (k + 1) b sh n := by unfold page; rw [if_pos hz]
    rw [e1, e2]
    exact hret _ _ _ (Fr.keep (by assumption)) ⟨_, rfl⟩
end Mine
end
section
set_option maxRecDepth 100000
open PySem PySem.W PySem.Calls PyProof.Rows
set_option Elab.async false
namespace Mine
noncomputable def sepAt (j : Nat) : List Nat := if j % 3 = 0 then [13, 10] else if j % 3 = 1 then [10] else [13]
noncomputable def tyGo (turn : Nat) : Nat → List (List Nat) → List Nat
  | _, [] => []
  | k, r :: rs => sepAt (turn + k) ++ r ++ tyGo turn (k + 1) rs
noncomputable def typed (l : List Nat) (turn : Nat) : List Nat := (spl1 10 l).headD [] ++ tyGo turn 1 (spl1 10 l).tail
theorem spl1_len (c : Nat) : ∀ l : List Nat, (spl1 c l).length ≤ l.length + 1
  | [] => by simp [spl1]
  | a :: r => by
    have ih := spl1_len c r
    have hn := spl1_ne c r
    rw [spl1_cons]
    split
    · simp only [List.length_cons]; omega
    · simp only [List.length_cons, List.length_tail]
      omega
theorem w_sep {w : World} {A : Around} {E : Value → Shared → Prop} {s : Shared} {h₀ : Heap} {L D : Addr} {news : List (Addr × Obj)} {Q : Value → Shared → Prop} {value slice : Expr} {j cnt : Nat} {a b c u : Tok} (N : News h₀ L s.heap news)
    (hm : (D, listOf [.str (Str.ofString "\r\n") a, .str (Str.ofString "\n") b, .str (Str.ofString "\r") c].toArray cnt) ∈ news) (h : ∀ t', Q (.str (S (sepAt j)) t') s)
    (hs : subscripted slice false (.ref D) (.int ((j % Int.toNat 3 : Nat) : Int) u) = operate [.ref D, .int ((j % Int.toNat 3 : Nat) : Int) u] (getItem (.ref D) (.int ((j % Int.toNat 3 : Nat) : Int) u)) := by with_unfolding_all rfl) :
    wpAny (model PG w) A (subscriptTail value slice (.ref D) (.int ((j % Int.toNat 3 : Nat) : Int) u)) Q E s := by
  rw [l_crnl, l_nl, l_cr] at hm
  have hL := N.isList hm
  have h3 : Int.toNat 3 = 3 := rfl
  have hj : j % 3 < 3 := Nat.mod_lt _ (by decide)
  obtain ⟨tx, hx⟩ : ∃ tx, ([.str (S [13, 10]) a, .str (S [10]) b, .str (S [13]) c] : List Value)[j % 3]? = some (.str (S (sepAt j)) tx) := by
    unfold sepAt
    have : j % 3 = 0 ∨ j % 3 = 1 ∨ j % 3 = 2 := by omega
    rcases this with q | q | q
    · rw [q]; exact ⟨a, rfl⟩
    · rw [q]; exact ⟨b, rfl⟩
    · rw [q]; exact ⟨c, rfl⟩
  refine tail_any hL.typeIs slot_list_getitem.lookup (wpAny_getItem_list hL (by omega) (by rw [h3]; omega) ?_ (h tx)) hs
  rw [h3, Int.toNat_natCast, List.getElem?_toArray]
  exact hx
theorem sep_len (j : Nat) : (sepAt j).length ≤ 2 := by unfold sepAt; split <;> (try split) <;> decide
theorem tyGo_len (turn : Nat) : ∀ (rs : List (List Nat)) (k : Nat), (tyGo turn k rs).length ≤ (rs.map List.length).sum + 2 * rs.length
  | [], k => by simp [tyGo]
  | r :: rs, k => by
    have ih := tyGo_len turn rs (k + 1)
    have h2 := sep_len (turn + k)
    simp only [tyGo, List.length_append, List.map_cons, List.sum_cons, List.length_cons]
    omega
theorem spl1_sum (c : Nat) : ∀ l : List Nat, ((spl1 c l).map List.length).sum + (spl1 c l).length = l.length + 1
  | [] => by simp [spl1]
  | a :: r => by
    have ih := spl1_sum c r
    have hn := spl1_ne c r
    rw [spl1_cons]
    split
    · simp only [List.map_cons, List.sum_cons, List.length_cons, List.length_nil]; omega
    · cases h : spl1 c r with
      | nil => exact absurd h hn
      | cons x t =>
        rw [h] at ih
        simp only [List.map_cons, List.sum_cons, List.length_cons, List.headD_cons, List.tail_cons] at ih ⊢
        omega
theorem typed_len (l : List Nat) (turn : Nat) : (typed l turn).length ≤ 2 * l.length := by
  have h1 := spl1_sum 10 l
  have hn := spl1_ne 10 l
  unfold typed
  cases h : spl1 10 l with
  | nil => exact absurd h hn
  | cons x t =>
    rw [h] at h1
    have h2 := tyGo_len turn t 1
    simp only [List.map_cons, List.sum_cons, List.length_cons, List.headD_cons, List.tail_cons, List.length_append] at h1 ⊢
    omega
structure XS where
  x : List Nat
  t : Tok
noncomputable abbrev XS.ps (c : XS) : List (Str × Value) := [(Str.ofString "text", .str (S c.x) c.t)]
set_option maxHeartbeats 4000000 in
theorem c_typed (C : Ctxt) (l : List Nat) (turn : Nat) (t u : Tok) (hlen : l.length ≤ 2 ^ 17) (ht : turn < 2 ^ 50) :
    Con C 128 1 Any [.str (S l) t, .int turn u] (OutStr (S (typed l turn))) := by
  k_with_none
  k_with "con_enter" => (w_top off; (case k6 => k_is); (case k7 => k_is); (case k9 => exact rfl); (case kB => exact rfl); (case c5 => decide); (case c2 => exact rfl); (case c3 => exact rfl); (case c4 => exact rfl); (try (case sz => decide)))
  k_with "isS" => (first | with_reducible rfl | exact l_dot | exact l_nl | exact l_open | exact l_minus | exact l_close | exact l_plus | exact l_nought | exact l_empty | exact l_cr | exact l_crnl | exact l_dots)
  k_with "lens" => ((try simp only [List.length_append, List.length_cons, List.length_nil, dots, List.length_replicate]); omega)
  k_with "steps" => (repeat' (first | (k_unfold; (try dsimp only)) | ((fail_if_success (with_reducible show wpAny _ _ (exec (Stmt.While _ _ _ _) _) _ _ _)); (fail_if_success (with_reducible show wpAny _ _ (exec (Stmt.For _ _ _ _ _) _) _ _ _)); (fail_if_success (with_reducible show wpAny _ _ (pyIter (Value.ref _)) _ _ _)); first | walk1 | (dsimp only; walk1) | (leave1; walk_say "STEP leave1"; try dsimp only)) | fail "no step"))
  k_with "binaryOp Add str str" => (k_here; (refine w_add (by walk_at "isS") (by walk_at "isS") ?zqz ?_); (case zqz => walk_at "lens"); intro t8 k8; (try dsimp only))
  k_with "inplaceOp Add str str" => (k_here; (refine w_iadd (by walk_at "isS") (by walk_at "isS") ?zqz ?_); (case zqz => walk_at "lens"); intro t8 k8; (try dsimp only))
  k_with "binaryOp Mult str int" => (k_here; (first | ((with_reducible refine w_dotsN ?zqz ?_); (case zqz => omega)) | ((with_reducible refine w_dots ?zqz ?zqz2 ?_); (case zqz => omega); (case zqz2 => omega))); intro t8 k8; (try dsimp only))
  k_with "binaryOp Mod int int" => (k_here; first | ((with_reducible refine w_mod ?zqz ?_); (case zqz => omega)) | ((with_reducible refine w_modL ?zqz ?_); (case zqz => decide)))
  k_with "inplaceOp FloorDiv int int" => (k_here; (with_reducible refine w_idiv ?zqz ?zqz2 ?_); (case zqz => omega); (case zqz2 => omega))
  k_with "binaryOp Add int int" => (k_here; first | (with_reducible refine w_add1 ?_) | (with_reducible refine w_addN ?_))
  k_with "inplaceOp Add int int" => (k_here; first | (with_reducible refine w_iadd1 ?_) | (with_reducible refine w_iaddN ?_))
  k_with "binaryOp Mult int int" => (k_here; (with_reducible refine w_mulN ?zqz ?_); (case zqz => omega))
  k_with "binaryOp Pow int int" => (k_here; (with_reducible refine w_pow ?zqz ?zqz2 ?_); (case zqz => omega); (case zqz2 => omega))
  k_with "call builtin:list.append" => (k_here; k_dflt (refine' w_append ?zqF ?zqN ?zqU ?zqz ?_; (case zqF => k_asm); (case zqN => k_asm); (case zqU => k_upd); (case zqz => omega)); intro h8 F8 N8; (try k_sweep))
  k_with "sides" => ((case zqH => walk_at "con"); (case zqF => assumption); (case zqN => assumption); (case zqX => assumption); (case zqT => assumption); (case zqd => first | assumption | omega); (case zqu => first | assumption | omega))
  k_with "call ref" => ((k_here; first | ((refine' con_useI ?zqH ?zqF ?zqN ?zqX ?zqT ?zqd ?zqu ?_; walk_at "sides"); intro t8 h8 tk8 F8 N8) | ((refine' con_useS ?zqH ?zqF ?zqN ?zqX ?zqT ?zqd ?zqu ?_; walk_at "sides"); intro t8 h8 tk8 F8 N8) | ((refine' con_useB ?zqH ?zqF ?zqN ?zqX ?zqT ?zqd ?zqu ?_; walk_at "sides"); intro h8 tk8 F8 N8)); (try dsimp only); (try k_sweep))
  k_with "for" => ((rename Fr _ _ _ _ => lF'); (with_unfolding_all refine' For_invVF lF' ?zqk1 ?zqk2 ?_; (case zqk1 => exact rfl); (case zqk2 => exact rfl)))
  k_with "call builtin:len" => (k_here; k_dflt (refine' w_len ?zqN ?zqm ?zqz ?_; (case zqN => k_asm); (case zqm => k_mem); (case zqz => omega)))
  k_with "subscriptTail" => (k_here; (with_reducible show wpAny _ _ (subscriptTail _ _ (Value.ref _) (Value.int (Nat.cast (_ % Int.toNat 3)) _)) _ _ _); k_dflt (refine' w_sep ?zqN ?zqm ?_; (case zqN => k_asm); (case zqm => k_mem)); intro t8)
  k_with "sameX" => (intro z hz1 hz2 hz3; (simp only [XS.ps, List.forall_mem_cons, List.not_mem_nil, false_implies, implies_true, and_true, ne_eq] at hz2); (simp [XS.ps, kstB, hz1, hz2]))
  refine' con_def (binds := [(Str.ofString "page", .str (S l) t), (Str.ofString "turn", .int turn u)]) ?k6 ?k7 ?k9 ?kB ?c5 ?c2 ?c3 ?c4 (Nat.succ_pos _) ?_
  walk_at "con_enter"
  intro dp un fr gd s Q h₀ h₁ L tk X T hd hu hp F N hL hret
  try dsimp only
  walk_at "steps"
  refine w_split (sep := [10]) (ls := spl1 10 l) (by assumption) (by assumption) l_nl (by decide) (t_split1 10 (by decide) l) (by omega) fun ts D h' k e F' N' l1 l2 => ?_
  obtain ⟨r0, rs, hrs⟩ : ∃ r0 rs, spl1 10 l = r0 :: rs := by
    cases hq : spl1 10 l with
    | nil => exact absurd hq (spl1_ne 10 l)
    | cons a b => exact ⟨a, b, rfl⟩
  rw [hrs] at e
  obtain ⟨t0, ts', rfl, e'⟩ : ∃ t0 ts', ts = (r0, t0) :: ts' ∧ ts'.map (·.1) = rs := by
    cases ts with
    | nil => cases e
    | cons a b =>
      rw [List.map_cons] at e
      obtain ⟨h1, h2⟩ := List.cons.inj e
      exact ⟨a.2, b, by rw [← h1], h2⟩
  walk_at "steps"
  have hts : ts'.length ≤ 2 ^ 18 := by
    have h1 := congrArg List.length e'
    have h2 := spl1_len 10 l
    rw [hrs] at h2
    simp only [List.length_map, List.length_cons] at h1 h2
    omega
  have hts2 : ((r0, t0) :: ts').length = ts'.length + 1 := rfl
  walk_at "for"
  walk_at "steps"
  rename_i hr F9 N9 _
  have hn : Builtin.Range.rangeSize 1 ((((r0, t0) :: ts').length : Nat) : Int) 1 = (ts'.length : Int) := by rw [PyProof.Rows.rangeSize_nat]; omega
  refine' kst_range (fun _ : XS => [(D, listOf (txts ((r0, t0) :: ts')).toArray 0)]) XS.ps (fun _ => True) [] (fun pre c => c.x ++ tyGo turn (1 + pre.length) (rs.drop pre.length) = typed l turn) ⟨r0, t0⟩ rfl hr (small_one (by decide) (by decide) (by omega) (by omega)) hn F9 N9 trivial (List.forall_mem_cons.mpr ⟨rfl, List.forall_mem_nil _⟩) ?hp ?turn ?done
  case hp =>
    show r0 ++ tyGo turn 1 rs = _
    unfold typed
    rw [hrs]; rfl
  case turn =>
    intro c pre kk tt u2 h2 tk2 own hk1 hk2 hoff _ hP F2 N2
    have hk3 : kk = ((1 + pre.length : Nat) : Int) := by omega
    subst hk3
    clear hk1
    simp only [List.cons_append, List.nil_append] at N2
    have hty := typed_len l turn
    obtain ⟨rp, tp, hrp⟩ : ∃ rp tp, ts'[pre.length]? = some (rp, tp) := ⟨_, _, List.getElem?_eq_getElem hk2⟩
    have hdr : rs.drop pre.length = rp :: rs.drop (pre.length + 1) := by
      have h1 : rs[pre.length]? = some rp := by rw [← e', List.getElem?_map, hrp]; rfl
      obtain ⟨h2, h3⟩ := List.getElem?_eq_some_iff.mp h1
      rw [List.drop_eq_getElem_cons h2, h3]
    rw [hdr] at hP
    have hsz := congrArg List.length hP
    simp only [tyGo, List.length_append] at hsz
    walk_at "steps"
    rename News _ _ _ _ => NN
    refine' w_item (j := 1 + pre.length) (x := rp) (tx := tp) ?N ?m ?i ?jj ?z ?_
    (case N => exact NN)
    (case m => k_mem)
    (case i => rfl)
    (case jj => rw [Nat.add_comm]; exact hrp)
    (case z => omega)
    walk_at "steps"
    rename News _ _ _ _ => NN
    refine kst_end ⟨c.x ++ (sepAt (turn + (1 + pre.length)) ++ rp), _⟩ (by assumption) NN (fun p hp => .tail _ (List.mem_singleton.mp hp ▸ .head _)) (fun p hp => .tail _ (.tail _ hp)) rfl trivial (List.forall_mem_cons.mpr ⟨rfl, List.forall_mem_nil _⟩) (by walk_at "sameX") ?_
    rw [← hP]
    simp only [tyGo, List.length_append, List.length_cons, List.length_nil, List.append_assoc]
    rw [Nat.add_assoc]
  case done =>
    intro c u2 h2 tk2 _ hP F2 N2
    walk_at "steps"
    rw [rangeKs_length] at hP
    have hnil : rs.drop ts'.length = [] := List.drop_eq_nil_of_le (by rw [← e']; simp)
    rw [hnil] at hP
    simp only [tyGo, List.append_nil] at hP
    try dsimp only
    rw [hP]
    exact hret _ _ _ F2.keep ⟨_, rfl⟩
end Mine
end
section
set_option maxRecDepth 100000
open PySem PySem.W PySem.Calls PyProof.Rows
set_option Elab.async false
namespace Mine
theorem w_mod4 {prog : Program} {w : World} {A : Around} {E : Value → Shared → Prop} {s : Shared} {t u : Tok} {a : Nat} {Q : Value → Shared → Prop} (h : Q (.int ((a % 4 : Nat) : Int) s.toks) { s with toks := s.toks + 1 }) : wpAny (model prog w) A (binaryOp .Mod (.int (a : Int) t) (.int 4 u)) Q E s := w_mod (b := 4) (by decide) h
local macro_rules | `(tactic| k_all) => `(tactic| assumption)
structure CS where
  us : List (Nat × Tok)
noncomputable def OutCells : Heap → Value → Heap → Prop := fun h r h' => ∃ D us cnt, r = .ref D ∧ h.get? D = none ∧ h'.get? D = some (listOf (nats us).toArray cnt) ∧ us.length = 4 ∧ ∀ p ∈ us, p.1 < 2 ^ 40
set_option maxHeartbeats 4000000 in
theorem c_cells (C : Ctxt) (vs : List Value) (ns : List Int) (D : Addr) (hi : IntsAre vs ns) (hl : ns.length ≤ 1000) :
    Con C 163 1 (fun h => h.IsList D vs.toArray) [.ref D] OutCells := by
  k_with_none
  k_with "con_enter" => (w_top off; (case k6 => k_is); (case k7 => k_is); (case k9 => exact rfl); (case kB => exact rfl); (case c5 => decide); (case c2 => exact rfl); (case c3 => exact rfl); (case c4 => exact rfl); (try (case sz => decide)))
  k_with "isS" => (first | with_reducible rfl | exact l_dot | exact l_nl | exact l_open | exact l_minus | exact l_close | exact l_plus | exact l_nought | exact l_empty | exact l_cr | exact l_crnl | exact l_dots)
  k_with "lens" => ((try simp only [List.length_append, List.length_cons, List.length_nil, dots, List.length_replicate]); omega)
  k_with "steps" => (repeat' (first | (k_unfold; (try dsimp only)) | ((fail_if_success (with_reducible show wpAny _ _ (exec (Stmt.While _ _ _ _) _) _ _ _)); (fail_if_success (with_reducible show wpAny _ _ (exec (Stmt.For _ _ _ _ _) _) _ _ _)); (fail_if_success (with_reducible show wpAny _ _ (pyIter (Value.ref _)) _ _ _)); first | walk1 | (dsimp only; walk1) | (leave1; walk_say "STEP leave1"; try dsimp only)) | fail "no step"))
  k_with "binaryOp Add str str" => (k_here; (refine w_add (by walk_at "isS") (by walk_at "isS") ?zqz ?_); (case zqz => walk_at "lens"); intro t8 k8; (try dsimp only))
  k_with "inplaceOp Add str str" => (k_here; (refine w_iadd (by walk_at "isS") (by walk_at "isS") ?zqz ?_); (case zqz => walk_at "lens"); intro t8 k8; (try dsimp only))
  k_with "binaryOp Mult str int" => (k_here; (first | ((with_reducible refine w_dotsN ?zqz ?_); (case zqz => omega)) | ((with_reducible refine w_dots ?zqz ?zqz2 ?_); (case zqz => omega); (case zqz2 => omega))); intro t8 k8; (try dsimp only))
  k_with "binaryOp Mod int int" => (k_here; first | ((with_reducible refine w_mod ?zqz ?_); (case zqz => omega)) | ((with_reducible refine w_modL ?zqz ?_); (case zqz => decide)))
  k_with "inplaceOp FloorDiv int int" => (k_here; (with_reducible refine w_idiv ?zqz ?zqz2 ?_); (case zqz => omega); (case zqz2 => omega))
  k_with "binaryOp Add int int" => (k_here; first | (with_reducible refine w_add1 ?_) | (with_reducible refine w_addN ?_))
  k_with "inplaceOp Add int int" => (k_here; first | (with_reducible refine w_iadd1 ?_) | (with_reducible refine w_iaddN ?_))
  k_with "binaryOp Mult int int" => (k_here; (with_reducible refine w_mulN ?zqz ?_); (case zqz => omega))
  k_with "binaryOp Pow int int" => (k_here; (with_reducible refine w_pow ?zqz ?zqz2 ?_); (case zqz => omega); (case zqz2 => omega))
  k_with "call builtin:list.append" => (k_here; k_dflt (refine' w_append ?zqF ?zqN ?zqU ?zqz ?_; (case zqF => k_asm); (case zqN => k_asm); (case zqU => k_upd); (case zqz => omega)); intro h8 F8 N8; (try k_sweep))
  k_with "sides" => ((case zqH => walk_at "con"); (case zqF => assumption); (case zqN => assumption); (case zqX => assumption); (case zqT => assumption); (case zqd => first | assumption | omega); (case zqu => first | assumption | omega))
  k_with "call ref" => ((k_here; first | ((refine' con_useI ?zqH ?zqF ?zqN ?zqX ?zqT ?zqd ?zqu ?_; walk_at "sides"); intro t8 h8 tk8 F8 N8) | ((refine' con_useS ?zqH ?zqF ?zqN ?zqX ?zqT ?zqd ?zqu ?_; walk_at "sides"); intro t8 h8 tk8 F8 N8) | ((refine' con_useB ?zqH ?zqF ?zqN ?zqX ?zqT ?zqd ?zqu ?_; walk_at "sides"); intro h8 tk8 F8 N8)); (try dsimp only); (try k_sweep))
  k_with "for" => ((rename Fr _ _ _ _ => lF'); (with_unfolding_all refine' For_invVF lF' ?zqk1 ?zqk2 ?_; (case zqk1 => exact rfl); (case zqk2 => exact rfl)))
  k_with "call builtin:len" => (k_here; k_dflt (refine' w_len ?zqN ?zqm ?zqz ?_; (case zqN => k_asm); (case zqm => k_mem); (case zqz => omega)))
  k_with "binaryOp Mod int int" => (k_here; first | ((with_reducible refine w_mod ?zqz ?_); (case zqz => omega)) | ((with_reducible refine w_mod4 ?_)) | ((with_reducible refine w_modI ?zqz ?_); (case zqz => decide); intro n8 l8; (try dsimp only)))
  k_with "subscriptTail" => (k_here; (with_reducible show wpAny _ _ (subscriptTail _ _ (Value.ref _) (Value.int _ _)) _ _ _); with_unfolding_all (refine' w_getS ?zqF ?zql ?zqi ?zqk ?zqz ?_; (case zqF => k_asm); (case zql => assumption); (case zqi => assumption); (case zqk => omega); (case zqz => omega)); intro n8 t8; (try dsimp only))
  k_with "sameC" => (intro z hz1 hz2 hz3; (simp [kstB, hz1]))
  refine' con_def (binds := [(Str.ofString "script", .ref D)]) ?k6 ?k7 ?k9 ?kB ?c5 ?c2 ?c3 ?c4 (Nat.succ_pos _) ?_
  walk_at "con_enter"
  intro dp un fr gd s Q h₀ h₁ L tk X T hd hu hp F N hL hret
  try dsimp only
  walk_at "steps"
  rename_i DC _ _ _ _ _
  walk_at "for"
  walk_at "steps"
  rename_i hr F9 N9 _
  have hn : Builtin.Range.rangeSize 0 (ns.length : Int) 1 = (ns.length : Int) := by rw [show (0 : Int) = ((0 : Nat) : Int) from rfl, PyProof.Rows.rangeSize_nat]; omega
  refine' kst_range (fun c : CS => [(DC, listOf (nats c.us).toArray 0)]) (fun _ => []) (fun _ => True) [] (fun pre c => c.us.length = 4 ∧ ∀ p ∈ c.us, p.1 ≤ 4 + 1000000 * pre.length) ⟨[(0, _), (4, _), (0, _), (0, _)]⟩ rfl hr (small_one (by decide) (by decide) (by omega) (by omega)) hn F9 N9 trivial (List.forall_mem_nil _) ⟨rfl, by simp⟩ ?turn ?done
  case turn =>
    rintro c pre kk tt u2 h2 tk2 own hk1 hk2 hoff - ⟨hP1, hP2⟩ F2 N2
    have hk3 : kk = (pre.length : Int) := by omega
    subst hk3
    clear hk1
    have own1 : ∀ p ∈ own, p.1 ≠ DC := OwnOff.ne hoff (.head _)
    have hm4 : pre.length % 4 < 4 := Nat.mod_lt _ (by decide)
    simp only [List.cons_append, List.nil_append] at N2
    walk_at "steps"
    refine' w_getC ?N ?m ?j ?z ?_
    (case N => k_asm)
    (case m => k_mem)
    (case j => omega)
    (case z => omega)
    intro p0 hp0
    have hp1 := hP2 p0 (List.mem_of_getElem? hp0)
    try dsimp only
    walk_at "steps"
    rename Tok => tq
    rename Nat => nq
    rename @LT.lt Int _ _ 1000000 => hq
    refine' w_setC (y := p0.1 + nq) ?F ?N ?j ?z ?i ?U ?_
    (case F => k_asm)
    (case N => k_asm)
    (case i => rfl)
    (case U => k_upd)
    (case j => omega)
    (case z => omega)
    intro h8 F8 N8
    try dsimp only
    walk_at "steps"
    refine kst_end (⟨c.us.set (pre.length % 4) (p0.1 + nq, _)⟩ : CS) (by assumption) N8 (fun p hp => List.mem_append_left own hp) (fun p hp => .tail _ hp) rfl trivial (List.forall_mem_nil _) (by walk_at "sameC") ⟨by rw [List.length_set]; exact hP1, fun p hp => ?_⟩
    rw [List.length_append, List.length_singleton]
    rcases List.mem_or_eq_of_mem_set hp with h9 | h9
    · have := hP2 p h9
      omega
    · rw [h9]
      show p0.1 + nq ≤ _
      omega
  case done =>
    rintro c u2 h2 tk2 - ⟨hP1, hP2⟩ F2 N2
    walk_at "steps"
    try dsimp only
    refine hret _ _ _ F2.keep ⟨DC, c.us, 0, rfl, (N2 _ (.head _)).2.2, (N2 _ (.head _)).1, hP1, fun p hp => ?_⟩
    have := hP2 p hp
    rw [rangeKs_length] at this
    omega
end Mine
end
section
set_option maxRecDepth 100000
open PySem PySem.W PySem.Calls PyProof.Rows
set_option Elab.async false
namespace Mine
/-- what the table of signs says of a text -/
noncomputable def lk (C : Ctxt) (l : List Nat) : Option (Option Value) := nsIn (h0.heap_1 C.w.params) 98 (S l)
theorem d98_in {C : Ctxt} {A : Around} {E : Value → Shared → Prop} {s : Shared} {h₀ : Heap} {L : Addr} {m : Str → Option Value} {l : List Nat} {t : Tok} {r : Option Value} {Q : Value → Shared → Prop} (F : Fr h₀ L s.heap m) (X : (h0.heap_1 C.w.params).In h₀) (e : lk C l = some r) (h : Q (.bool r.isSome) { s with toks := s.toks + 1 }) :
    wpAny (model PG C.w) A (compareOp .In (.str (S l) t) (.ref 98)) Q E s := by
  refine' topIn_K F X ?l ?k e ?o h
  (case l => k_is)
  (case k => k_keys)
  (case o => decide)
theorem d98_get {C : Ctxt} {A : Around} {E : Value → Shared → Prop} {s : Shared} {h₀ : Heap} {L : Addr} {m : Str → Option Value} {l : List Nat} {t : Tok} {v : Value} {value slice : Expr} {Q : Value → Shared → Prop} (F : Fr h₀ L s.heap m) (X : (h0.heap_1 C.w.params).In h₀) (e : lk C l = some (some v)) (h : Q v { s with toks := s.toks + 1 })
    (hs : subscripted slice false (.ref 98) (.str (S l) t) = operate [.ref 98, .str (S l) t] (getItem (.ref 98) (.str (S l) t)) := by with_unfolding_all rfl) :
    wpAny (model PG C.w) A (subscriptTail value slice (.ref 98) (.str (S l) t)) Q E s := by
  refine' topItem_K F X ?l ?k e h hs
  (case l => k_is)
  (case k => k_keys)
theorem d98_yes {C : Ctxt} {A : Around} {E : Value → Shared → Prop} {s : Shared} {h₀ : Heap} {L : Addr} {m : Str → Option Value} {l : List Nat} {t : Tok} {v : Value} {Q : Value → Shared → Prop} (F : Fr h₀ L s.heap m) (X : (h0.heap_1 C.w.params).In h₀) (e : lk C l = some (some v)) (h : Q (.bool true) { s with toks := s.toks + 1 }) :
    wpAny (model PG C.w) A (compareOp .In (.str (S l) t) (.ref 98)) Q E s := d98_in F X e h
theorem d98_no {C : Ctxt} {A : Around} {E : Value → Shared → Prop} {s : Shared} {h₀ : Heap} {L : Addr} {m : Str → Option Value} {l : List Nat} {t : Tok} {Q : Value → Shared → Prop} (F : Fr h₀ L s.heap m) (X : (h0.heap_1 C.w.params).In h₀) (e : lk C l = some none) (h : Q (.bool false) { s with toks := s.toks + 1 }) :
    wpAny (model PG C.w) A (compareOp .In (.str (S l) t) (.ref 98)) Q E s := d98_in F X e h
/-- a token of the table -/
noncomputable def OkT (t : Tok) : Prop := t ≠ 0 ∧ t < 726
/-- a row cut into signs, the longest first -/
inductive Cut (C : Ctxt) : List Nat → List Nat → Prop
  | nil : Cut C [] []
  | three {l k t ks} : l ≠ [] → lk C (l.take 3) = some (some (.int (k : Nat) t)) → OkT t → Cut C (l.drop 3) ks → Cut C l (k :: ks)
  | two {l k t ks} : l ≠ [] → lk C (l.take 3) = some none → lk C (l.take 2) = some (some (.int (k : Nat) t)) → OkT t → Cut C (l.drop 2) ks → Cut C l (k :: ks)
  | one {l k t ks} : l ≠ [] → lk C (l.take 3) = some none → lk C (l.take 2) = some none → lk C (l.take 1) = some (some (.int (k : Nat) t)) → OkT t → Cut C (l.drop 1) ks → Cut C l (k :: ks)
inductive Cuts (C : Ctxt) : List (List Nat) → List Nat → Prop
  | nil : Cuts C [] []
  | cons {r rs a b} : Cut C r a → Cuts C rs b → Cuts C (r :: rs) (a ++ b)
theorem newList_B {M : Model} {A : Around} {E : Value → Shared → Prop} {s : Shared} {h₀ : Heap} {L : Addr} {m : Str → Option Value} {news : List (Addr × Obj)} {vs : List Value} {Q : Value → Shared → Prop} (F : Fr h₀ L s.heap m) (N : News h₀ L s.heap news) (hz : vs.length ≤ 1048576)
    (h : ∀ l h', Fr h₀ L h' m → News h₀ L h' ((l, listOf vs.toArray 0) :: news) → (∀ p ∈ news, p.1 < l) → h₀.objs.size ≤ l → Q (.ref l) { s with heap := h' }) : wpAny M A (newList vs) Q E s :=
  newList_N F N (fun h' F' N' => h _ h' F' N' (fun p hp => Heap.lt_size (N p hp).1) (by
    obtain ⟨oL, _, _, hL, _⟩ := F.ns
    exact Nat.le_trans F.above (Nat.le_of_lt (Heap.lt_size hL)))) (by rw [sz]; omega)
noncomputable def OutKinds (ks : List Nat) : Heap → Value → Heap → Prop := fun h r h' => ∃ D us cnt, r = .ref D ∧ h.objs.size ≤ D ∧ h.get? D = none ∧ h'.get? D = some (listOf (nats us).toArray cnt) ∧ us.map (·.1) = ks ∧ ∀ p ∈ us, OkT p.2
local macro_rules | `(tactic| k_all) => `(tactic| assumption)
structure KS where
  us : List (Nat × Tok)
  cnt : Nat
structure KW where
  row : List Nat
  us : List (Nat × Tok)
  cnt : Nat
  t : Tok
set_option maxHeartbeats 4000000 in
theorem c_kinds (C : Ctxt) (rows : List (List Nat × Tok)) (D : Addr) (ks : List Nat) (hc : Cuts C (rows.map (·.1)) ks) (hl : ∀ r ∈ rows, r.1.length ≤ 2 ^ 17) (hk : ks.length ≤ 2 ^ 17) :
    Con C 142 1 (fun h => h.IsList D (txts rows).toArray) [.ref D] (OutKinds ks) := by
  k_with_none
  k_with "con_enter" => (w_top off; (case k6 => k_is); (case k7 => k_is); (case k9 => exact rfl); (case kB => exact rfl); (case c5 => decide); (case c2 => exact rfl); (case c3 => exact rfl); (case c4 => exact rfl); (try (case sz => decide)))
  k_with "isS" => (first | with_reducible rfl | exact l_dot | exact l_nl | exact l_open | exact l_minus | exact l_close | exact l_plus | exact l_nought | exact l_empty | exact l_cr | exact l_crnl | exact l_dots)
  k_with "lens" => ((try simp only [List.length_append, List.length_cons, List.length_nil, dots, List.length_replicate]); omega)
  k_with "steps" => (repeat' (first | (k_unfold; (try dsimp only)) | ((fail_if_success (with_reducible show wpAny _ _ (exec (Stmt.While _ _ _ _) _) _ _ _)); (fail_if_success (with_reducible show wpAny _ _ (exec (Stmt.For _ _ _ _ _) _) _ _ _)); (fail_if_success (with_reducible show wpAny _ _ (pyIter (Value.ref _)) _ _ _)); first | walk1 | (dsimp only; walk1) | (leave1; walk_say "STEP leave1"; try dsimp only)) | fail "no step"))
  k_with "binaryOp Add str str" => (k_here; (refine w_add (by walk_at "isS") (by walk_at "isS") ?zqz ?_); (case zqz => walk_at "lens"); intro t8 k8; (try dsimp only))
  k_with "inplaceOp Add str str" => (k_here; (refine w_iadd (by walk_at "isS") (by walk_at "isS") ?zqz ?_); (case zqz => walk_at "lens"); intro t8 k8; (try dsimp only))
  k_with "binaryOp Mult str int" => (k_here; (first | ((with_reducible refine w_dotsN ?zqz ?_); (case zqz => omega)) | ((with_reducible refine w_dots ?zqz ?zqz2 ?_); (case zqz => omega); (case zqz2 => omega))); intro t8 k8; (try dsimp only))
  k_with "binaryOp Mod int int" => (k_here; first | ((with_reducible refine w_mod ?zqz ?_); (case zqz => omega)) | ((with_reducible refine w_modL ?zqz ?_); (case zqz => decide)))
  k_with "inplaceOp FloorDiv int int" => (k_here; (with_reducible refine w_idiv ?zqz ?zqz2 ?_); (case zqz => omega); (case zqz2 => omega))
  k_with "binaryOp Add int int" => (k_here; first | (with_reducible refine w_add1 ?_) | (with_reducible refine w_addN ?_))
  k_with "inplaceOp Add int int" => (k_here; first | (with_reducible refine w_iadd1 ?_) | (with_reducible refine w_iaddN ?_))
  k_with "binaryOp Mult int int" => (k_here; (with_reducible refine w_mulN ?zqz ?_); (case zqz => omega))
  k_with "binaryOp Pow int int" => (k_here; (with_reducible refine w_pow ?zqz ?zqz2 ?_); (case zqz => omega); (case zqz2 => omega))
  k_with "call builtin:list.append" => (k_here; k_dflt (refine' w_append ?zqF ?zqN ?zqU ?zqz ?_; (case zqF => k_asm); (case zqN => k_asm); (case zqU => k_upd); (case zqz => omega)); intro h8 F8 N8; (try k_sweep))
  k_with "sides" => ((case zqH => walk_at "con"); (case zqF => assumption); (case zqN => assumption); (case zqX => assumption); (case zqT => assumption); (case zqd => first | assumption | omega); (case zqu => first | assumption | omega))
  k_with "call ref" => ((k_here; first | ((refine' con_useI ?zqH ?zqF ?zqN ?zqX ?zqT ?zqd ?zqu ?_; walk_at "sides"); intro t8 h8 tk8 F8 N8) | ((refine' con_useS ?zqH ?zqF ?zqN ?zqX ?zqT ?zqd ?zqu ?_; walk_at "sides"); intro t8 h8 tk8 F8 N8) | ((refine' con_useB ?zqH ?zqF ?zqN ?zqX ?zqT ?zqd ?zqu ?_; walk_at "sides"); intro h8 tk8 F8 N8)); (try dsimp only); (try k_sweep))
  k_with "for" => ((rename Fr _ _ _ _ => lF'); (with_unfolding_all refine' For_invVF lF' ?zqk1 ?zqk2 ?_; (case zqk1 => exact rfl); (case zqk2 => exact rfl)))
  k_with "call builtin:len" => (k_here; k_dflt (refine' w_len ?zqN ?zqm ?zqz ?_; (case zqN => k_asm); (case zqm => k_mem); (case zqz => omega)))
  k_with "newList" => (k_here; k_dflt (refine' newList_B ?zqF ?zqN ?zqz ?_; (case zqF => k_asm); (case zqN => k_asm); (case zqz => decide)); intro l8 h8 F8 N8 l9 l1; (try k_lt l9); (try k_sweep))
  k_with "compareOp NotEq str str" => (k_here; (refine w_ne (by walk_at "isS") (by walk_at "isS") ?_))
  k_with "compareOp In str ref" => (k_here; (with_reducible show wpAny _ _ (compareOp CmpOp.In (Value.str (S _) _) (Value.ref 98)) _ _ _); first | (refine' d98_yes ?zqF ?zqX ?zqe ?_; (case zqF => k_asm); (case zqX => assumption); (case zqe => assumption)) | (refine' d98_no ?zqF ?zqX ?zqe ?_; (case zqF => k_asm); (case zqX => assumption); (case zqe => assumption)))
  k_with "subscriptTail" => (k_here; (with_reducible show wpAny _ _ (subscriptTail _ _ (Value.ref 98) (Value.str (S _) _)) _ _ _); refine' d98_get ?zqF ?zqX ?zqe ?_; (case zqF => k_asm); (case zqX => assumption); (case zqe => assumption))
  k_with "subscriptTail" => (k_here; (with_reducible show wpAny _ _ (subscriptTail _ (Expr.Slice none (some _) none _) (Value.str (S _) _) (Value.ref _)) _ _ _); (with_reducible rename Fr _ _ _ _ => F'); (with_reducible rename News _ _ _ _ => N'); first | (refine w_slice_to (s := ⟨_, _, _, _, _⟩) 3 rfl F' N' ?zqz ?_; (case zqz => omega)) | (refine w_slice_to (s := ⟨_, _, _, _, _⟩) 2 rfl F' N' ?zqz ?_; (case zqz => omega)) | (refine w_slice_to (s := ⟨_, _, _, _, _⟩) 1 rfl F' N' ?zqz ?_; (case zqz => omega)))
  k_with "subscriptTail" => (k_here; (with_reducible show wpAny _ _ (subscriptTail _ (Expr.Slice (some _) none none _) (Value.str (S _) _) (Value.ref _)) _ _ _); (with_reducible rename Fr _ _ _ _ => F'); (with_reducible rename News _ _ _ _ => N'); first | (refine w_slice_from (s := ⟨_, _, _, _, _⟩) 3 rfl F' N' ?zqz ?_; (case zqz => omega)) | (refine w_slice_from (s := ⟨_, _, _, _, _⟩) 2 rfl F' N' ?zqz ?_; (case zqz => omega)) | (refine w_slice_from (s := ⟨_, _, _, _, _⟩) 1 rfl F' N' ?zqz ?_; (case zqz => omega)))
  k_with "call builtin:list.append" => (k_here; k_dflt (refine' w_appendN ?zqF ?zqN ?zqU ?zqz ?_; (case zqF => k_asm); (case zqN => k_asm); (case zqU => k_upd); (case zqz => omega)); intro h8 F8 N8; (try k_sweep))
  k_with "sameK" => (intro z hz1 hz2 hz3; (simp only [List.contains_cons, List.contains_nil, Bool.or_false, Bool.or_eq_false_iff, beq_eq_false_iff_ne, ne_eq] at hz3); (simp [kstB, hz1, hz3]))
  k_with "sameW" => (intro z hz2 hz3; (simp only [List.forall_mem_cons, List.not_mem_nil, false_implies, implies_true, and_true, ne_eq] at hz2); (simp only [List.contains_cons, List.contains_nil, Bool.or_false, Bool.or_eq_false_iff, beq_eq_false_iff_ne, ne_eq] at hz3); (simp [kstB, hz2, hz3]))
  refine' con_def (binds := [(Str.ofString "rows", .ref D)]) ?k6 ?k7 ?k9 ?kB ?c5 ?c2 ?c3 ?c4 (Nat.succ_pos _) ?_
  walk_at "con_enter"
  intro dp un fr gd s Q h₀ h₁ L tk X T hd hu hp F N hL hret
  try dsimp only
  walk_at "steps"
  walk_at "for"
  walk_at "steps"
  rename Fr _ _ _ _ => FF
  rename News _ _ _ _ => NN
  refine' for_list (l := D) (vs := txts rows) (fun c : KS => [(l8, listOf (nats c.us).toArray c.cnt)]) (fun _ => []) [Str.ofString "size"]
    (fun i c => ∃ rest, Cuts C ((rows.map (·.1)).drop i) rest ∧ c.us.map (·.1) ++ rest = ks ∧ ∀ p ∈ c.us, OkT p.2) ⟨[], 0⟩ rfl hp FF NN (List.forall_mem_nil _) ⟨ks, by simpa using hc, rfl, List.forall_mem_nil _⟩ ?turn ?done
  case turn =>
    rintro c i v u2 h2 tk2 own hv hoff - ⟨rest, hcs, hks, hnz⟩ F2 N2
    simp only [List.cons_append, List.nil_append] at N2
    obtain ⟨rw', hrw, rfl⟩ : ∃ p : List Nat × Tok, rows[i]? = some p ∧ v = .str (S p.1) p.2 := by
      simp only [txts, strValues, List.map_map, List.getElem?_map, Option.map_eq_some_iff] at hv
      obtain ⟨p, h1, h2⟩ := hv
      exact ⟨p, h1, h2.symm⟩
    have hdr : (rows.map (·.1)).drop i = rw'.1 :: (rows.map (·.1)).drop (i + 1) := by
      have h1 : (rows.map (·.1))[i]? = some rw'.1 := by rw [List.getElem?_map, hrw]; rfl
      obtain ⟨h2, h3⟩ := List.getElem?_eq_some_iff.mp h1
      rw [List.drop_eq_getElem_cons h2, h3]
    rw [hdr] at hcs
    have hrl := hl rw' (List.mem_of_getElem? hrw)
    cases hcs with
    | @cons _ _ a b hca hcb =>
    walk_at "steps"
    refine' ksw_while (fun c : KW => (l8, listOf (nats c.us).toArray c.cnt) :: own) (fun c => [(Str.ofString "row", .str (S c.row) c.t)]) (fun _ => True) [Str.ofString "size"]
      (fun c => c.row.length ≤ 2 ^ 17 ∧ ∃ a, Cut C c.row a ∧ c.us.map (·.1) ++ (a ++ b) = ks ∧ ∀ p ∈ c.us, OkT p.2) (fun c => c.row.length)
      ⟨rw'.1, c.us, c.cnt, rw'.2⟩ F2 N2 trivial (List.forall_mem_cons.mpr ⟨rfl, List.forall_mem_nil _⟩) ⟨hrl, a, hca, hks, hnz⟩ ?w
    case w =>
      rintro ⟨row3, us3, cnt3, t3⟩ u3 h3 tk3 - ⟨hr3, a3, hca3, hks3, hnz3⟩ F3 N3
      dsimp only at hr3 hca3 hks3 hnz3 F3 N3
      clear F2 N2
      have hown : ∀ p ∈ own, p.1 ≠ l8 := OwnOff.ne hoff (.head _)
      have hul : us3.length ≤ 2 ^ 17 := by
        have := congrArg List.length hks3
        simp only [List.length_append, List.length_map] at this
        omega
      cases hca3 with
      | nil =>
        walk_at "steps"
        rename News _ _ _ _ => NE
        exact for_end (x := Str.ofString "row") (⟨us3, cnt3⟩ : KS) (by assumption) NE (fun p hp => List.mem_singleton.mp hp ▸ .head _) (fun p hp => .tail _ hp) rfl (List.forall_mem_nil _) (by walk_at "sameK") ⟨b, hcb, by simpa using hks3, hnz3⟩
      | @three _ k t kk h1 h3 h4 h5 =>
        have h7 : 1 ≤ row3.length := List.length_pos_iff.mpr h1
        walk_at "steps"
        rename News _ _ _ _ => NE
        exact ksw_end (⟨row3.drop 3, us3 ++ [(k, t)], _, _⟩ : KW) (by assumption) NE (fun p hp => hp) trivial (List.forall_mem_cons.mpr ⟨rfl, List.forall_mem_nil _⟩) (by walk_at "sameW")
          ⟨by simp; omega, kk, h5, by rw [← hks3]; simp, fun p hp => (List.mem_append.mp hp).elim (hnz3 p) fun q => by rw [List.mem_singleton.mp q]; exact h4⟩ (by simp; omega)
      | @two _ k t kk h1 h3 h4 h5 h6 =>
        have h7 : 1 ≤ row3.length := List.length_pos_iff.mpr h1
        walk_at "steps"
        rename News _ _ _ _ => NE
        exact ksw_end (⟨row3.drop 2, us3 ++ [(k, t)], _, _⟩ : KW) (by assumption) NE (fun p hp => hp) trivial (List.forall_mem_cons.mpr ⟨rfl, List.forall_mem_nil _⟩) (by walk_at "sameW")
          ⟨by simp; omega, kk, h6, by rw [← hks3]; simp, fun p hp => (List.mem_append.mp hp).elim (hnz3 p) fun q => by rw [List.mem_singleton.mp q]; exact h5⟩ (by simp; omega)
      | @one _ k t kk h1 h2 h3 h4 h5 h6 =>
        have h7 : 1 ≤ row3.length := List.length_pos_iff.mpr h1
        walk_at "steps"
        rename News _ _ _ _ => NE
        exact ksw_end (⟨row3.drop 1, us3 ++ [(k, t)], _, _⟩ : KW) (by assumption) NE (fun p hp => hp) trivial (List.forall_mem_cons.mpr ⟨rfl, List.forall_mem_nil _⟩) (by walk_at "sameW")
          ⟨by simp; omega, kk, h6, by rw [← hks3]; simp, fun p hp => (List.mem_append.mp hp).elim (hnz3 p) fun q => by rw [List.mem_singleton.mp q]; exact h5⟩ (by simp; omega)
  case done =>
    rintro c u2 h2 tk2 ⟨rest, hcs, hks, hnz⟩ F2 N2
    walk_at "steps"
    have hnil : (rows.map (·.1)).drop (txts rows).length = [] := List.drop_eq_nil_of_le (by rw [txts_len, List.length_map]; exact Nat.le_refl _)
    rw [hnil] at hcs
    cases hcs
    rw [List.append_nil] at hks
    try dsimp only
    exact hret _ _ _ F2.keep ⟨l8, c.us, c.cnt, rfl, l1, (N2 _ (.head _)).2.2, (N2 _ (.head _)).1, hks, hnz⟩
end Mine
end
section
set_option maxRecDepth 100000
open PySem PySem.W PySem.Calls PyProof.Rows
set_option Elab.async false
namespace Mine
theorem w_addZero' {prog : Program} {w : World} {A : Around} {E : Value → Shared → Prop} {s : Shared} {h₀ : Heap} {L D B : Addr} {m : Str → Option Value} {news : List (Addr × Obj)} {Q : Value → Shared → Prop} {vs : List Value} {c2 : Nat} {v : Value} (F : Fr h₀ L s.heap m) (N : News h₀ L s.heap news) (ha : h₀.IsList D vs.toArray) (hb : (B, listOf [v].toArray c2) ∈ news) (hz : vs.length ≤ 1048576)
    (h : ∀ D' h', Fr h₀ L h' m → News h₀ L h' ((D', listOf (vs ++ [v]).toArray 0) :: news) → (∀ p ∈ news, p.1 < D') → Q (.ref D') { s with heap := h' }) : wpAny (model prog w) A (binaryOp .Add (.ref D) (.ref B)) Q E s :=
  w_addZero F N (ha.at fun o e => F.keep _ o e) hb hz h
theorem are_snoc {vs : List Value} {ns : List Int} {n : Int} {t : Tok} (h : IntsAre vs ns) : IntsAre (vs ++ [.int n t]) (ns ++ [n]) := by
  induction h with
  | nil => exact .cons _ _ .nil
  | cons a b _ ih => exact .cons _ _ ih
local macro_rules | `(tactic| k_all) => `(tactic| assumption)
structure WS where
  ws : List (Nat × Tok)
  wt : List (Nat × Tok)
  c1 : Nat
  c2 : Nat
  ah : Nat
  t : Tok
set_option maxHeartbeats 4000000 in
theorem c_worth (C : Ctxt) (us : List (Nat × Tok)) (D : Addr) (v : Nat) (a : Nat) (hr : runW (us.map (·.1) ++ [0]) ⟨[], [], 0⟩ = some ⟨[v], [], a⟩) (hl : us.length ≤ 2 ^ 17) :
    Con C 156 10 (fun h => h.IsList D (nats us).toArray) [.ref D] (OutInt (v : Int)) := by
  k_with_none
  k_with "con_enter" => (w_top off; (case k6 => k_is); (case k7 => k_is); (case k9 => exact rfl); (case kB => exact rfl); (case c5 => decide); (case c2 => exact rfl); (case c3 => exact rfl); (case c4 => exact rfl); (try (case sz => decide)))
  k_with "isS" => (first | with_reducible rfl | exact l_dot | exact l_nl | exact l_open | exact l_minus | exact l_close | exact l_plus | exact l_nought | exact l_empty | exact l_cr | exact l_crnl | exact l_dots)
  k_with "lens" => ((try simp only [List.length_append, List.length_cons, List.length_nil, dots, List.length_replicate]); omega)
  k_with "steps" => (repeat' (first | (k_unfold; (try dsimp only)) | ((fail_if_success (with_reducible show wpAny _ _ (exec (Stmt.While _ _ _ _) _) _ _ _)); (fail_if_success (with_reducible show wpAny _ _ (exec (Stmt.For _ _ _ _ _) _) _ _ _)); (fail_if_success (with_reducible show wpAny _ _ (pyIter (Value.ref _)) _ _ _)); first | walk1 | (dsimp only; walk1) | (leave1; walk_say "STEP leave1"; try dsimp only)) | fail "no step"))
  k_with "binaryOp Add str str" => (k_here; (refine w_add (by walk_at "isS") (by walk_at "isS") ?zqz ?_); (case zqz => walk_at "lens"); intro t8 k8; (try dsimp only))
  k_with "inplaceOp Add str str" => (k_here; (refine w_iadd (by walk_at "isS") (by walk_at "isS") ?zqz ?_); (case zqz => walk_at "lens"); intro t8 k8; (try dsimp only))
  k_with "binaryOp Mult str int" => (k_here; (first | ((with_reducible refine w_dotsN ?zqz ?_); (case zqz => omega)) | ((with_reducible refine w_dots ?zqz ?zqz2 ?_); (case zqz => omega); (case zqz2 => omega))); intro t8 k8; (try dsimp only))
  k_with "binaryOp Mod int int" => (k_here; first | ((with_reducible refine w_mod ?zqz ?_); (case zqz => omega)) | ((with_reducible refine w_modL ?zqz ?_); (case zqz => decide)))
  k_with "inplaceOp FloorDiv int int" => (k_here; (with_reducible refine w_idiv ?zqz ?zqz2 ?_); (case zqz => omega); (case zqz2 => omega))
  k_with "binaryOp Add int int" => (k_here; first | (with_reducible refine w_add1 ?_) | (with_reducible refine w_addN ?_))
  k_with "inplaceOp Add int int" => (k_here; first | (with_reducible refine w_iadd1 ?_) | (with_reducible refine w_iaddN ?_))
  k_with "binaryOp Mult int int" => (k_here; (with_reducible refine w_mulN ?zqz ?_); (case zqz => omega))
  k_with "binaryOp Pow int int" => (k_here; (with_reducible refine w_pow ?zqz ?zqz2 ?_); (case zqz => omega); (case zqz2 => omega))
  k_with "call builtin:list.append" => (k_here; k_dflt (refine' w_append ?zqF ?zqN ?zqU ?zqz ?_; (case zqF => k_asm); (case zqN => k_asm); (case zqU => k_upd); (case zqz => omega)); intro h8 F8 N8; (try k_sweep))
  k_with "sides" => ((case zqH => walk_at "con"); (case zqF => assumption); (case zqN => assumption); (case zqX => assumption); (case zqT => assumption); (case zqd => first | assumption | omega); (case zqu => first | assumption | omega))
  k_with "call ref" => ((k_here; first | ((refine' con_useI ?zqH ?zqF ?zqN ?zqX ?zqT ?zqd ?zqu ?_; walk_at "sides"); intro t8 h8 tk8 F8 N8) | ((refine' con_useS ?zqH ?zqF ?zqN ?zqX ?zqT ?zqd ?zqu ?_; walk_at "sides"); intro t8 h8 tk8 F8 N8) | ((refine' con_useB ?zqH ?zqF ?zqN ?zqX ?zqT ?zqd ?zqu ?_; walk_at "sides"); intro h8 tk8 F8 N8)); (try dsimp only); (try k_sweep))
  k_with "for" => ((rename Fr _ _ _ _ => lF'); (with_unfolding_all refine' For_invVF lF' ?zqk1 ?zqk2 ?_; (case zqk1 => exact rfl); (case zqk2 => exact rfl)))
  k_with "call builtin:len" => (k_here; k_dflt (refine' w_len ?zqN ?zqm ?zqz ?_; (case zqN => k_asm); (case zqm => k_mem); (case zqz => omega)))
  k_with "call builtin:list.append" => (k_here; k_dflt (refine' w_appendN ?zqF ?zqN ?zqU ?zqz ?_; (case zqF => k_asm); (case zqN => k_asm); (case zqU => k_upd); (case zqz => first | omega | (simp only [List.length_append, List.length_cons, List.length_nil]; omega))); intro h8 F8 N8; (try k_sweep))
  k_with "binaryOp Add ref ref" => (k_here; with_unfolding_all ((refine' w_addZero' ?zqF ?zqN ?zqha ?zqhb ?zqhz ?_; (case zqF => k_asm); (case zqN => k_asm); (case zqha => assumption); (case zqhb => k_mem); (case zqhz => first | omega | (rw [nats_len]; omega))); intro D8 h8 F8 N8 O8; (try k_sweep)))
  k_with "call builtin:list.append" => (k_here; k_dflt (refine' w_appendT ?zqP ?zqF ?zqN ?zqU ?zqz ?_; (case zqP => omega); (case zqF => k_asm); (case zqN => k_asm); (case zqU => k_upd); (case zqz => first | omega | (simp only [List.length_append, List.length_cons, List.length_nil]; omega))); intro h8 F8 N8; (try k_sweep))
  k_with "call builtin:list.append" => (k_here; k_dflt (refine' w_appendN ?zqF ?zqN ?zqU ?zqz ?_; (case zqF => k_asm); (case zqN => k_asm); (case zqU => k_upd); (case zqz => first | omega | (simp only [List.length_append, List.length_cons, List.length_nil]; omega))); intro h8 F8 N8; (try k_sweep))
  k_with "call builtin:list.pop" => (k_here; k_dflt (refine' w_popN ?zqF ?zqN ?zqU ?zqz ?_; (case zqF => k_asm); (case zqN => k_asm); (case zqU => k_upd); (case zqz => first | omega | (simp only [List.length_append, List.length_cons, List.length_nil]; omega))); intro h8 F8 N8; (try k_sweep))
  k_with "compareOp In int ref" => (k_here; with_unfolding_all (first | (refine' w_inYes ?zqN ?zqm ?zqc ?zqd ?zqh ?_; (case zqN => k_asm); (case zqm => k_mem); (case zqc => exact rfl); (case zqd => exact rfl); (case zqh => omega)) | (refine' w_inNo ?zqN ?zqm ?zqc ?zqd ?zqh ?_; (case zqN => k_asm); (case zqm => k_mem); (case zqc => exact rfl); (case zqd => exact rfl); (case zqh => omega))))
  k_with "con" => (first | exact c_add _ _ _ _ _ | exact c_done _ _ _ _ _ _ _ _ (by assumption) | exact c_eof _ _ _)
  k_with "sameZ" => (intro z hz1 hz2 hz3; (simp only [List.forall_mem_cons, List.not_mem_nil, false_implies, implies_true, and_true, ne_eq] at hz2); (simp only [List.contains_cons, List.contains_nil, Bool.or_false, Bool.or_eq_false_iff, beq_eq_false_iff_ne, ne_eq] at hz3); (simp [kstB, hz1, hz2, hz3]))
  k_with "compareOp NotEq ref ref" => (k_here; with_unfolding_all (first | (refine' w_neNil_no ?zqN ?zqm ?zqb ?zqu ?_; (case zqN => k_asm); (case zqm => k_mem); (case zqb => k_mem); (case zqu => assumption)) | (refine' w_neNil_yes ?zqN ?zqm ?zqb ?zqu ?_; (case zqN => k_asm); (case zqm => k_mem); (case zqb => k_mem); (case zqu => assumption))))
  k_with "subscriptTail" => (k_here; with_unfolding_all ((with_reducible show wpAny _ _ (subscriptTail _ _ (Value.ref _) (Value.int _ _)) _ _ _); first | ((with_reducible show wpAny _ _ (subscriptTail _ _ _ (Value.int 0 _)) _ _ _); (refine' w_item0 ?zqN ?zqm ?_; (case zqN => k_asm); (case zqm => k_mem))) | ((with_reducible show wpAny _ _ (subscriptTail _ _ _ (Value.int (-1) _)) _ _ _); (refine' w_lastN ?zqN ?zqm ?zqz ?_; (case zqN => k_asm); (case zqm => k_mem); (case zqz => omega)))))
  k_with "sameY" => (intro z hz2 hz3; (simp only [List.contains_cons, List.contains_nil, Bool.or_false, Bool.or_eq_false_iff, beq_eq_false_iff_ne, ne_eq] at hz3); (simp [kstB, hz3]))
  k_with "compareOp Eq ref ref" => (k_here; with_unfolding_all (refine' w_eqNil_yes ?zqN ?zqm ?zqb ?zqu ?_; (case zqN => k_asm); (case zqm => k_mem); (case zqb => k_mem); (case zqu => assumption)))
  k_with "call builtin:len" => (k_here; k_dflt (refine' w_len1 ?zqN ?zqm ?_; (case zqN => k_asm); (case zqm => k_mem)))
  k_with "ite" => (first | (exfalso; omega) | (refine ite_pos ?zqiteC ?_; (case zqiteC => first | omega | (rw [beq_iff_eq]; omega))) | (refine ite_neg ?zqiteC ?_; (case zqiteC => first | omega | (rw [beq_iff_eq]; omega))))
  refine' con_def (binds := [(Str.ofString "kinds", .ref D)]) ?k6 ?k7 ?k9 ?kB ?c5 ?c2 ?c3 ?c4 (Nat.succ_pos _) ?_
  walk_at "con_enter"
  intro dp un fr gd s Q h₀ h₁ L tk X T hd hu hp F N hL hret
  have d1 : dp + 1 < recursionLimit := by omega
  have d2 : dp + 2 < recursionLimit := by omega
  have u1 : un + 8 * 1 < cLine := by omega
  have u2 : un + 8 * 2 < cLine := by omega
  have u64 : un + 64 < cLine := by omega
  try dsimp only
  walk_at "steps"
  walk_at "for"
  walk_at "steps"
  rename_i DS _ _ _ _ DT O1 _ _ _ DZ _ O2
  rename Addr => DK
  rename Fr _ _ _ _ => FF
  rename News _ _ _ _ => NN
  rename ∀ p : Addr × Obj, _ → _ => OO
  have q1 : @LT.lt Nat instLTNat DS DK := OO _ (.tail _ (.tail _ (.head _)))
  have q2 : @LT.lt Nat instLTNat DT DK := OO _ (.tail _ (.head _))
  have N0 : News h₀ L _ [(DT, listOf (nats []).toArray 0), (DS, listOf (nats []).toArray 0), (DK, _)] := List.forall_mem_cons.mpr ⟨NN _ (.tail _ (.tail _ (.head _))), List.forall_mem_cons.mpr ⟨NN _ (.tail _ (.tail _ (.tail _ (.head _)))), List.forall_mem_cons.mpr ⟨NN _ (.head _), List.forall_mem_nil _⟩⟩⟩
  clear NN OO O2
  generalize tk + 1 + 1 = tz at N0
  refine' kst_listL (l := DK) (ns := us.map (fun p => (p.1 : Int)) ++ [0]) (fun c : WS => [(DT, listOf (nats c.wt).toArray c.c2), (DS, listOf (nats c.ws).toArray c.c1), (DK, listOf (nats us ++ [Value.int 0 tz]).toArray 0)]) (fun c => [(Str.ofString "ahead", .int c.ah c.t)]) (fun _ => True) [Str.ofString "worth", Str.ofString "right"]
    (fun pre c => ∃ rest : List Nat, pre ++ rest.map (fun n : Nat => (n : Int)) = us.map (fun p => (p.1 : Int)) ++ [0] ∧ runW rest ⟨rv c.ws, rv c.wt, c.ah⟩ = some ⟨[v], [], a⟩ ∧ c.ws.length ≤ pre.length ∧ c.wt.length ≤ pre.length)
    ⟨[], [], 0, 0, 0, _⟩ rfl (fun c => .tail _ (.tail _ (.head _))) (are_snoc (nats_are us)) FF N0 trivial (List.forall_mem_cons.mpr ⟨rfl, List.forall_mem_nil _⟩) ⟨us.map (·.1) ++ [0], by simp [List.map_map, Function.comp_def], hr, Nat.zero_le _, Nat.zero_le _⟩ ?turn ?done
  case turn =>
    rintro c pre post n t u2 h2 tk2 own hns hmem hoff - ⟨rest, hrest, hrun, hl1, hl2⟩ F2 N2
    dsimp only [List.map_cons, List.map_nil] at hoff
    have own1 : ∀ p ∈ own, p.1 ≠ DT := OwnOff.ne hoff (.head _)
    have own2 : ∀ p ∈ own, p.1 ≠ DS := OwnOff.ne hoff (.tail _ (.head _))
    clear N0 FF
    have hpl : pre.length ≤ 2 ^ 17 := by
      have := congrArg List.length hns
      simp only [List.length_append, List.length_map, List.length_cons, List.length_nil] at this
      omega
    simp only [List.cons_append, List.nil_append] at N2
    rw [hns] at hrest
    have hr1 := List.append_cancel_left hrest
    clear hrest
    cases rest with
    | nil => cases hr1
    | cons k rest =>
    rw [List.map_cons] at hr1
    obtain ⟨hk0, hrest⟩ := List.cons.inj hr1
    subst hk0
    dsimp only at F2
    obtain ⟨c', hs, hrun⟩ : ∃ c', stp k ⟨rv c.ws, rv c.wt, c.ah⟩ = some c' ∧ runW rest c' = some ⟨[v], [], a⟩ := by
      unfold runW at hrun
      split at hrun
      · exact ⟨_, by assumption, hrun⟩
      · cases hrun
    have hcat : (pre ++ [(k : Int)]) ++ rest.map (fun n : Nat => (n : Int)) = us.map (fun p => (p.1 : Int)) ++ [0] := by
      rw [hns, ← hrest, List.append_assoc]; rfl
    have hle : pre.length ≤ (pre ++ [(k : Int)]).length := by simp
    have hle1 : (pre ++ [(k : Int)]).length = pre.length + 1 := by simp
    by_cases hk : k = 23 ∨ k = 52
    · by_cases hah : c.ah = 23 ∨ c.ah = 52
      · obtain ⟨x, ws1, e1, rfl⟩ := stp_join hk hah hs
        obtain ⟨u0, tt, e2, e3⟩ := rev_cons e1
        rw [e2] at N2 hl1
        rw [List.length_append, List.length_singleton] at hl1
        walk_at "steps"
        · rename News _ _ _ _ => NE
          rw [if_pos (by omega)] at hrun
          exact kst_end (⟨u0 ++ [(x + 1, _)], c.wt, _, _, k, _⟩ : WS) (by assumption) NE (fun p hp => .tail _ (.tail _ (List.mem_append_left own hp))) (fun p hp => .tail _ (.tail _ (.tail _ (.tail _ (.tail _ hp))))) rfl trivial (List.forall_mem_cons.mpr ⟨rfl, List.forall_mem_nil _⟩) (by walk_at "sameZ")
            ⟨rest, hcat, by rw [rv_snoc, show rv u0 = ws1 from e3]; exact hrun, by rw [List.length_append, List.length_singleton]; omega, Nat.le_trans hl2 hle⟩
        · rename News _ _ _ _ => NE
          rw [if_neg (by omega)] at hrun
          exact kst_end (⟨u0 ++ [(x + 3, _)], c.wt, _, _, k, _⟩ : WS) (by assumption) NE (fun p hp => .tail _ (.tail _ (List.mem_append_left own hp))) (fun p hp => .tail _ (.tail _ (.tail _ (.tail _ (.tail _ hp))))) rfl trivial (List.forall_mem_cons.mpr ⟨rfl, List.forall_mem_nil _⟩) (by walk_at "sameZ")
            ⟨rest, hcat, by rw [rv_snoc, show rv u0 = ws1 from e3]; exact hrun, by rw [List.length_append, List.length_singleton]; omega, Nat.le_trans hl2 hle⟩
      · have := stp_push hk hah hs
        subst this
        walk_at "steps"
        · rename News _ _ _ _ => NE
          rw [if_pos (by omega)] at hrun
          exact kst_end (⟨c.ws ++ [(1, _)], c.wt, _, _, k, _⟩ : WS) (by assumption) NE (fun p hp => .tail _ (.tail _ (List.mem_append_left own hp))) (fun p hp => .tail _ (.tail _ (.tail _ (.tail _ (.tail _ hp))))) rfl trivial (List.forall_mem_cons.mpr ⟨rfl, List.forall_mem_nil _⟩) (by walk_at "sameZ")
            ⟨rest, hcat, by rw [rv_snoc]; exact hrun, by rw [List.length_append, List.length_singleton]; omega, Nat.le_trans hl2 hle⟩
        · rename News _ _ _ _ => NE
          rw [if_neg (by omega)] at hrun
          exact kst_end (⟨c.ws ++ [(3, _)], c.wt, _, _, k, _⟩ : WS) (by assumption) NE (fun p hp => .tail _ (.tail _ (List.mem_append_left own hp))) (fun p hp => .tail _ (.tail _ (.tail _ (.tail _ (.tail _ hp))))) rfl trivial (List.forall_mem_cons.mpr ⟨rfl, List.forall_mem_nil _⟩) (by walk_at "sameZ")
            ⟨rest, hcat, by rw [rv_snoc]; exact hrun, by rw [List.length_append, List.length_singleton]; omega, Nat.le_trans hl2 hle⟩
    · obtain ⟨wt', ws', hred, hcase⟩ := stp_red hk hs
      walk_at "steps"
      rename News _ _ _ _ => NW
      refine' ksw_while2 (fun c : WS => (DT, listOf (nats c.wt).toArray c.c2) :: (DS, listOf (nats c.ws).toArray c.c1) :: (DK, listOf (nats us ++ [Value.int 0 tz]).toArray 0) :: own) (fun _ => []) [Str.ofString "right"]
        (fun c => red k (rv c.wt) (rv c.ws) = some (wt', ws') ∧ c.ws.length ≤ pre.length ∧ c.wt.length ≤ pre.length) (fun c => c.wt.length) c
        (fun c => rv c.wt = wt' ∧ rv c.ws = ws' ∧ c.ws.length ≤ pre.length ∧ c.wt.length ≤ pre.length) ?F ?N (List.forall_mem_nil _) ⟨hred, hl1, hl2⟩ ?w ?dn
      case F => assumption
      case N => exact fun p hp => NW p (.tail _ hp)
      case w =>
        rintro ⟨ws3, wt3, c31, c32, cah, cat⟩ u3 h3 tk3 Q3 ⟨hr3, hl31, hl32⟩ hQ3 F3 N3
        dsimp only at hr3 hl31 hl32 F3 N3
        clear NW
        rcases List.eq_nil_or_concat wt3 with rfl | ⟨w0, ⟨o, ot⟩, rfl⟩
        · obtain ⟨rfl, rfl⟩ := Prod.mk.inj (Option.some.inj hr3)
          walk_at "steps"
          · rename News _ _ _ _ => NE
            exact hQ3 _ (kout (⟨ws3, [], c31, c32, 0, 0⟩ : WS) (by assumption) NE (fun p hp => .tail _ hp) (List.forall_mem_nil _) (by walk_at "sameY") ⟨rfl, rfl, hl31, hl32⟩)
          · rename News _ _ _ _ => NE
            exact hQ3 _ (kout (⟨ws3, [], c31, c32, 0, 0⟩ : WS) (by assumption) NE (fun p hp => hp) (List.forall_mem_nil _) (by walk_at "sameY") ⟨rfl, rfl, hl31, hl32⟩)
        · rw [List.concat_eq_append] at *
          rw [rv_snoc] at hr3
          unfold red at hr3
          rw [List.length_append, List.length_singleton] at hl32
          by_cases hc : k ≠ 7 ∧ k ≤ o
          · rw [if_pos hc] at hr3
            split at hr3
            · rename_i r l w1 hw
              split at hr3
              · rename_i x happ
                obtain ⟨v1, tr, e1, e2⟩ := rev_cons hw
                obtain ⟨v0, tl, e3, e4⟩ := rev_cons e2
                subst e3; subst e1
                rw [List.length_append, List.length_singleton, List.length_append, List.length_singleton] at hl31
                walk_at "steps"
                · rename News _ _ _ _ => NE
                  exact ksw_end (⟨v0 ++ [(x, _)], w0, _, _, 0, 0⟩ : WS) (by assumption) NE (fun p hp => .tail _ hp) trivial (List.forall_mem_nil _) (by walk_at "sameY")
                    ⟨by rw [rv_snoc, show rv v0 = w1 from e4]; exact hr3, by rw [List.length_append, List.length_singleton]; omega, by show w0.length ≤ _; omega⟩ (by show w0.length < (w0 ++ [(o, ot)]).length; rw [List.length_append, List.length_singleton]; omega)

              · cases hr3
            · cases hr3
          · rw [if_neg hc] at hr3
            obtain ⟨rfl, rfl⟩ := Prod.mk.inj (Option.some.inj hr3)
            walk_at "steps"
            · rename News _ _ _ _ => NE
              exact hQ3 _ (kout (⟨ws3, w0 ++ [(o, ot)], c31, c32, 0, 0⟩ : WS) (by assumption) NE (fun p hp => .tail _ hp) (List.forall_mem_nil _) (by walk_at "sameY") ⟨rv_snoc _ _ _, rfl, hl31, by rw [List.length_append, List.length_singleton]; omega⟩)
            · rename News _ _ _ _ => NE
              exact hQ3 _ (kout (⟨ws3, w0 ++ [(o, ot)], c31, c32, 0, 0⟩ : WS) (by assumption) NE (fun p hp => hp) (List.forall_mem_nil _) (by walk_at "sameY") ⟨rv_snoc _ _ _, rfl, hl31, by rw [List.length_append, List.length_singleton]; omega⟩)

      case dn =>
        rintro ⟨ws3, wt3, c31, c32, cah, cat⟩ u3 h3 tk3 ⟨hr3, hr4, hl31, hl32⟩ F3 N3
        dsimp only at hr3 hr4 hl31 hl32 F3 N3
        clear NW
        rcases hcase with ⟨k8, o, w, ew, rfl⟩ | ⟨k0, rfl⟩ | ⟨k8, k0, rfl⟩
        · obtain ⟨u0, tt, e1, e2⟩ := rev_cons (hr3.trans ew)
          subst e1
          rw [List.length_append, List.length_singleton] at hl32
          walk_at "steps"
          · rename News _ _ _ _ => NE
            exact kst_end (⟨ws3, u0, _, _, k, _⟩ : WS) (by assumption) NE (fun p hp => List.mem_append_left own hp) (fun p hp => .tail _ (.tail _ (.tail _ hp))) rfl trivial (List.forall_mem_cons.mpr ⟨rfl, List.forall_mem_nil _⟩) (by walk_at "sameZ")
              ⟨rest, hcat, by rw [show rv ws3 = ws' from hr4, show rv u0 = w from e2]; exact hrun, Nat.le_trans hl31 hle, by show u0.length ≤ _; omega⟩

        · walk_at "steps"
          rename News _ _ _ _ => NE
          exact kst_end (⟨ws3, wt3, _, _, k, _⟩ : WS) (by assumption) NE (fun p hp => List.mem_append_left own hp) (fun p hp => .tail _ (.tail _ (.tail _ hp))) rfl trivial (List.forall_mem_cons.mpr ⟨rfl, List.forall_mem_nil _⟩) (by walk_at "sameZ")
            ⟨rest, hcat, by rw [show rv ws3 = ws' from hr4, show rv wt3 = wt' from hr3]; exact hrun, Nat.le_trans hl31 hle, Nat.le_trans hl32 hle⟩
        · walk_at "steps"
          rename News _ _ _ _ => NE
          exact kst_end (⟨ws3, wt3 ++ [(k, _)], _, _, k, _⟩ : WS) (by assumption) NE (fun p hp => List.mem_append_left own hp) (fun p hp => .tail _ (.tail _ (.tail _ hp))) rfl trivial (List.forall_mem_cons.mpr ⟨rfl, List.forall_mem_nil _⟩) (by walk_at "sameZ")
            ⟨rest, hcat, by rw [rv_snoc, show rv ws3 = ws' from hr4, show rv wt3 = wt' from hr3]; exact hrun, Nat.le_trans hl31 hle, by rw [List.length_append, List.length_singleton]; omega⟩
  case done =>
    rintro c u2 h2 tk2 - ⟨rest, hrest, hrun, hl1, hl2⟩ F2 N2
    clear N0 FF
    have hnil : rest = [] := by
      have := congrArg List.length hrest
      simp only [List.length_append, List.length_map] at this
      exact List.length_eq_zero_iff.mp (by omega)
    subst hnil
    injection hrun with hrun
    injection hrun with e1 e2 e3
    obtain ⟨u0, tt, e4, e5⟩ := rev_cons e1
    have e6 : u0 = [] := by
      cases u0 with
      | nil => rfl
      | cons a b => simp at e5
    have e7 : c.wt = [] := by
      cases h9 : c.wt with
      | nil => rfl
      | cons a b => rw [h9] at e2; simp [rv] at e2
    rw [e4, e6, e7] at N2
    simp only [List.nil_append] at N2
    walk_at "steps"
    try dsimp only
    exact hret _ _ _ (Fr.keep (by assumption)) ⟨_, rfl⟩
end Mine
end
section
set_option maxRecDepth 100000
open PySem PySem.W PySem.Calls PyProof.Rows
set_option Elab.async false
namespace Mine
structure KC where
  n : Nat
  t : Tok
set_option maxHeartbeats 4000000 in
theorem c_count (C : Ctxt) (us : List (Nat × Tok)) (b : Nat) (tb : Tok) (D : Addr) (hb : tb ≠ 0) (hu : ∀ p ∈ us, p.2 ≠ 0 ∧ p.2 ≠ tb) (hl : us.length ≤ 2 ^ 18) (hs : smallInt (b : Int) = true) :
    Con C 90 1 (fun h => h.IsList D (nats us).toArray) [.ref D, .int (b : Int) tb] (OutInt (((us.map (·.1)).count b : Nat) : Int)) := by
  k_with_none
  k_with "con_enter" => (w_top off; (case k6 => k_is); (case k7 => k_is); (case k9 => exact rfl); (case kB => exact rfl); (case c5 => decide); (case c2 => exact rfl); (case c3 => exact rfl); (case c4 => exact rfl); (try (case sz => decide)))
  k_with "isS" => (first | with_reducible rfl | exact l_dot | exact l_nl | exact l_open | exact l_minus | exact l_close | exact l_plus | exact l_nought | exact l_empty | exact l_cr | exact l_crnl | exact l_dots)
  k_with "lens" => ((try simp only [List.length_append, List.length_cons, List.length_nil, dots, List.length_replicate]); omega)
  k_with "steps" => (repeat' (first | (k_unfold; (try dsimp only)) | ((fail_if_success (with_reducible show wpAny _ _ (exec (Stmt.While _ _ _ _) _) _ _ _)); (fail_if_success (with_reducible show wpAny _ _ (exec (Stmt.For _ _ _ _ _) _) _ _ _)); (fail_if_success (with_reducible show wpAny _ _ (pyIter (Value.ref _)) _ _ _)); first | walk1 | (dsimp only; walk1) | (leave1; walk_say "STEP leave1"; try dsimp only)) | fail "no step"))
  k_with "binaryOp Add str str" => (k_here; (refine w_add (by walk_at "isS") (by walk_at "isS") ?zqz ?_); (case zqz => walk_at "lens"); intro t8 k8; (try dsimp only))
  k_with "inplaceOp Add str str" => (k_here; (refine w_iadd (by walk_at "isS") (by walk_at "isS") ?zqz ?_); (case zqz => walk_at "lens"); intro t8 k8; (try dsimp only))
  k_with "binaryOp Mult str int" => (k_here; (first | ((with_reducible refine w_dotsN ?zqz ?_); (case zqz => omega)) | ((with_reducible refine w_dots ?zqz ?zqz2 ?_); (case zqz => omega); (case zqz2 => omega))); intro t8 k8; (try dsimp only))
  k_with "binaryOp Mod int int" => (k_here; first | ((with_reducible refine w_mod ?zqz ?_); (case zqz => omega)) | ((with_reducible refine w_modL ?zqz ?_); (case zqz => decide)))
  k_with "inplaceOp FloorDiv int int" => (k_here; (with_reducible refine w_idiv ?zqz ?zqz2 ?_); (case zqz => omega); (case zqz2 => omega))
  k_with "binaryOp Add int int" => (k_here; first | (with_reducible refine w_add1 ?_) | (with_reducible refine w_addN ?_))
  k_with "inplaceOp Add int int" => (k_here; first | (with_reducible refine w_iadd1 ?_) | (with_reducible refine w_iaddN ?_))
  k_with "binaryOp Mult int int" => (k_here; (with_reducible refine w_mulN ?zqz ?_); (case zqz => omega))
  k_with "binaryOp Pow int int" => (k_here; (with_reducible refine w_pow ?zqz ?zqz2 ?_); (case zqz => omega); (case zqz2 => omega))
  k_with "call builtin:list.append" => (k_here; k_dflt (refine' w_append ?zqF ?zqN ?zqU ?zqz ?_; (case zqF => k_asm); (case zqN => k_asm); (case zqU => k_upd); (case zqz => omega)); intro h8 F8 N8; (try k_sweep))
  k_with "sides" => ((case zqH => walk_at "con"); (case zqF => assumption); (case zqN => assumption); (case zqX => assumption); (case zqT => assumption); (case zqd => first | assumption | omega); (case zqu => first | assumption | omega))
  k_with "call ref" => ((k_here; first | ((refine' con_useI ?zqH ?zqF ?zqN ?zqX ?zqT ?zqd ?zqu ?_; walk_at "sides"); intro t8 h8 tk8 F8 N8) | ((refine' con_useS ?zqH ?zqF ?zqN ?zqX ?zqT ?zqd ?zqu ?_; walk_at "sides"); intro t8 h8 tk8 F8 N8) | ((refine' con_useB ?zqH ?zqF ?zqN ?zqX ?zqT ?zqd ?zqu ?_; walk_at "sides"); intro h8 tk8 F8 N8)); (try dsimp only); (try k_sweep))
  k_with "for" => ((rename Fr _ _ _ _ => lF'); (with_unfolding_all refine' For_invVF lF' ?zqk1 ?zqk2 ?_; (case zqk1 => exact rfl); (case zqk2 => exact rfl)))
  k_with "call builtin:len" => (k_here; k_dflt (refine' w_len ?zqN ?zqm ?zqz ?_; (case zqN => k_asm); (case zqm => k_mem); (case zqz => omega)))
  k_with "sameZ" => (intro z hz1 hz2 hz3; (simp only [List.forall_mem_cons, List.not_mem_nil, false_implies, implies_true, and_true, ne_eq] at hz2); (simp only [List.contains_cons, List.contains_nil, Bool.or_false, Bool.or_eq_false_iff, beq_eq_false_iff_ne, ne_eq] at hz3); (simp [kstB, hz1, hz2, hz3]))
  k_with "compareOp Is int int" => (k_here; with_unfolding_all (first | (refine' w_isYes ?zqa ?zqb ?zqc ?zqd ?_; (case zqa => assumption); (case zqb => assumption); (case zqc => first | rfl | assumption); (case zqd => assumption)) | (refine' w_isNo ?zqa ?zqb ?zqd ?zqc ?_; (case zqa => assumption); (case zqb => assumption); (case zqd => assumption); (case zqc => assumption))))
  k_with "ite" => (first | (exfalso; omega) | (refine ite_pos ?zqiteC ?_; (case zqiteC => first | omega | (rw [beq_iff_eq]; omega))) | (refine ite_neg ?zqiteC ?_; (case zqiteC => first | omega | (rw [beq_iff_eq]; omega))))
  refine' con_def (binds := [(Str.ofString "a", .ref D), (Str.ofString "b", .int (b : Int) tb)]) ?k6 ?k7 ?k9 ?kB ?c5 ?c2 ?c3 ?c4 (Nat.succ_pos _) ?_
  walk_at "con_enter"
  intro dp un fr gd s Q h₀ h₁ L tk X T hd hu' hp F N hL hret
  try dsimp only
  walk_at "steps"
  walk_at "for"
  walk_at "steps"
  rename Fr _ _ _ _ => FF
  rename News _ _ _ _ => NN
  refine' for_list (l := D) (vs := nats us) (fun c : KC => []) (fun c => [(Str.ofString "count", .int (c.n : Int) c.t)]) []
    (fun i c => c.n = ((us.map (·.1)).take i).count b) ⟨0, _⟩ rfl hp FF NN (List.forall_mem_cons.mpr ⟨rfl, List.forall_mem_nil _⟩) rfl ?turn ?done
  case turn =>
    rintro c i v u2 h2 tk2 own hv hoff - hP F2 N2
    obtain ⟨p, hp2, rfl⟩ : ∃ p : Nat × Tok, us[i]? = some p ∧ v = .int (p.1 : Int) p.2 := by
      simp only [nats, List.getElem?_map, Option.map_eq_some_iff] at hv
      obtain ⟨p, h1, h2⟩ := hv
      exact ⟨p, h1, h2.symm⟩
    obtain ⟨q1, q2⟩ := hu p (List.mem_of_getElem? hp2)
    have htake : ((us.map (·.1)).take (i + 1)).count b = ((us.map (·.1)).take i).count b + if p.1 = b then 1 else 0 := by
      have h1 : (us.map (·.1))[i]? = some p.1 := by rw [List.getElem?_map, hp2]; rfl
      rw [List.take_add_one, h1, List.count_append]
      congr 1
      simp only [Option.toList_some, List.count_cons, List.count_nil, Nat.zero_add, beq_iff_eq]
    rw [← hP] at htake
    clear hP hp2 hp
    simp only [List.nil_append] at N2
    by_cases hpb : p.1 = b
    · rw [if_pos hpb] at htake
      have hpi : (p.1 : Int) = (b : Int) := by omega
      rw [hpi] at F2
      walk_at "steps"
      rename News _ _ _ _ => NE
      exact for_end (x := Str.ofString "i") (⟨c.n + 1, _⟩ : KC) (by assumption) NE (fun p hp => by cases hp) (fun p hp => hp) rfl (List.forall_mem_cons.mpr ⟨rfl, List.forall_mem_nil _⟩) (by walk_at "sameZ") htake.symm
    · rw [if_neg hpb] at htake
      have hpi : (p.1 : Int) ≠ (b : Int) := by omega
      walk_at "steps"
      rename News _ _ _ _ => NE
      exact for_end (x := Str.ofString "i") (⟨c.n, _⟩ : KC) (by assumption) NE (fun p hp => by cases hp) (fun p hp => hp) rfl (List.forall_mem_cons.mpr ⟨rfl, List.forall_mem_nil _⟩) (by walk_at "sameZ") htake.symm
  case done =>
    rintro c u2 h2 tk2 hP F2 N2
    walk_at "steps"
    try dsimp only
    rw [List.take_of_length_le (by rw [nats_len, List.length_map]; exact Nat.le_refl _)] at hP
    exact hret _ _ _ F2.keep ⟨c.t, by rw [← hP]⟩
end Mine
end
section
set_option maxRecDepth 100000
namespace Mine
/-- no row's end within -/
noncomputable def clean (r : List Nat) : Prop := ∀ c ∈ r, c ≠ 10 ∧ c ≠ 13
theorem spl1_clean : ∀ {p : List Nat}, (∀ c ∈ p, c ≠ 13) → ∀ r ∈ spl1 10 p, clean r
  | [], _, r, hr => by simp only [spl1, List.mem_singleton] at hr; subst hr; intro c hc; cases hc
  | a :: p, h, r, hr => by
    have ih := spl1_clean (p := p) fun c hc => h c (.tail _ hc)
    rw [spl1_cons] at hr
    split at hr
    · rcases List.mem_cons.mp hr with rfl | hr
      · intro c hc; cases hc
      · exact ih r hr
    · rename_i ha
      have hn := spl1_ne 10 p
      cases hq : spl1 10 p with
      | nil => exact absurd hq hn
      | cons x t =>
        rw [hq] at hr ih
        simp only [List.headD_cons, List.tail_cons] at hr
        rcases List.mem_cons.mp hr with rfl | hr
        · intro c hc
          rcases List.mem_cons.mp hc with rfl | hc
          · exact ⟨ha, h _ (.head _)⟩
          · exact ih x (.head _) c hc
        · exact ih r (.tail _ hr)
theorem crlf_rows : ∀ p : List Nat, crlf p = (spl1 10 p).headD [] ++ (spl1 10 p).tail.flatMap fun r => [13, 10] ++ r
  | [] => by simp [crlf, spl1]
  | a :: p => by
    have ih := crlf_rows p
    have hn := spl1_ne 10 p
    rw [spl1_cons]
    show (if a = 10 then 13 :: 10 :: crlf p else a :: crlf p) = _
    cases hq : spl1 10 p with
    | nil => exact absurd hq hn
    | cons x t =>
      rw [hq] at ih
      simp only [List.headD_cons, List.tail_cons] at ih
      split
      · simp [ih]
      · simp [ih]
theorem fx_row : ∀ {r : List Nat} (x : List Nat), clean r → fx (r ++ x) = r ++ fx x
  | [], x, _ => rfl
  | c :: r, x, h => by
    have h1 := h c (.head _)
    have ih := fx_row (r := r) x fun d hd => h d (.tail _ hd)
    show fx (c :: (r ++ x)) = _
    rw [List.cons_append, ← ih]
    have e1 : (c == 13) = false := by simpa using h1.2
    have e2 : (c == 10) = false := by simpa using h1.1
    conv => lhs; unfold fx
    simp only [e1, e2, Bool.false_eq_true, if_false]
theorem fx_13 {x : List Nat} (h : x.head? ≠ some 10) : fx (13 :: x) = 13 :: 10 :: fx x := by
  cases x with
  | nil => rfl
  | cons d x =>
    have e : (d == 10) = false := by simpa using h
    conv => lhs; unfold fx
    simp only [e, Bool.false_eq_true, if_false]
    rfl
theorem fx_10 (x : List Nat) : fx (10 :: x) = 13 :: 10 :: fx x := by
  conv => lhs; unfold fx
  rfl
theorem fx_1310 (x : List Nat) : fx (13 :: 10 :: x) = 13 :: 10 :: fx x := by
  conv => lhs; unfold fx
  rfl
theorem fx_ty (turn : Nat) : ∀ (rs : List (List Nat)) (k : Nat), (∀ r ∈ rs, clean r) → fx (tyGo turn k rs) = rs.flatMap fun r => [13, 10] ++ r
  | [], k, _ => rfl
  | r :: rs, k, h => by
    have ih := fx_ty turn rs (k + 1) fun q hq => h q (.tail _ hq)
    have hr := h r (.head _)
    rw [List.flatMap_cons, ← ih]
    show fx (sepAt (turn + k) ++ r ++ tyGo turn (k + 1) rs) = _
    rw [List.append_assoc]
    have hz : (turn + k) % 3 = 0 ∨ (turn + k) % 3 = 1 ∨ (turn + k) % 3 = 2 := by omega
    rcases hz with q | q | q
    · have : sepAt (turn + k) = [13, 10] := by unfold sepAt; rw [if_pos q]
      rw [this]
      show fx (13 :: 10 :: (r ++ tyGo turn (k + 1) rs)) = _
      rw [fx_1310, fx_row _ hr]; rfl
    · have : sepAt (turn + k) = [10] := by unfold sepAt; rw [if_neg (by omega), if_pos q]
      rw [this]
      show fx (10 :: (r ++ tyGo turn (k + 1) rs)) = _
      rw [fx_10, fx_row _ hr]; rfl
    · have : sepAt (turn + k) = [13] := by unfold sepAt; rw [if_neg (by omega), if_neg (by omega)]
      rw [this]
      show fx (13 :: (r ++ tyGo turn (k + 1) rs)) = _
      rw [fx_13 ?_, fx_row _ hr]
      · rfl
      · cases r with
        | cons c r =>
          have := (hr c (.head _)).1
          simpa using this
        | nil =>
          cases rs with
          | nil => simp [tyGo]
          | cons r2 rs =>
            have : sepAt (turn + (k + 1)) = [13, 10] := by unfold sepAt; rw [if_pos (by omega)]
            simp [tyGo, this]
/-- whatever the ends of its rows, they become both signs -/
theorem fx_typed {p : List Nat} (turn : Nat) (h : ∀ c ∈ p, c ≠ 13) : fx (typed p turn) = crlf p := by
  have hc := spl1_clean h
  have hn := spl1_ne 10 p
  rw [crlf_rows]
  unfold typed
  cases hq : spl1 10 p with
  | nil => exact absurd hq hn
  | cons x t =>
    rw [hq] at hc
    simp only [List.headD_cons, List.tail_cons]
    rw [fx_row _ (hc x (.head _)), fx_ty turn t 1 fun r hr => hc r (.tail _ hr)]
theorem fx_crlf : ∀ {p : List Nat}, (∀ c ∈ p, c ≠ 13) → fx (crlf p) = crlf p
  | [], _ => rfl
  | a :: p, h => by
    have ih := fx_crlf (p := p) fun c hc => h c (.tail _ hc)
    show fx (if a = 10 then 13 :: 10 :: crlf p else a :: crlf p) = (if a = 10 then 13 :: 10 :: crlf p else a :: crlf p)
    split
    · rw [fx_1310, ih]
    · rename_i ha
      have := fx_row (r := [a]) (crlf p) (by intro c hc; rw [List.mem_singleton.mp hc]; exact ⟨ha, h a (.head _)⟩)
      simp only [List.singleton_append] at this
      rw [this, ih]
theorem spl2_crlf : ∀ {p : List Nat}, (∀ c ∈ p, c ≠ 13) → spl2 (crlf p) = spl1 10 p
  | [], _ => rfl
  | a :: p, h => by
    have ih := spl2_crlf (p := p) fun c hc => h c (.tail _ hc)
    rw [spl1_cons, ← ih]
    show spl2 (if a = 10 then 13 :: 10 :: crlf p else a :: crlf p) = _
    split
    · rename_i ha
      conv => lhs; unfold spl2
      simp
    · cases hq : crlf p with
      | nil => rfl
      | cons d r =>
        conv => lhs; unfold spl2
        rw [if_neg (fun q => h a (.head _) q.1)]
theorem crlf_cons (a : Nat) (p : List Nat) : crlf (a :: p) = if a = 10 then 13 :: 10 :: crlf p else a :: crlf p := rfl
theorem qd_crlf : ∀ (p : List Nat) (b : Bool), qd b (crlf p) = crlf (qd b p)
  | [], b => by cases b <;> rfl
  | a :: p, b => by
    rw [crlf_cons]
    by_cases ha : a = 10
    · subst ha
      have h1 : ∀ x, qd b (13 :: x) = 13 :: qd false x := by intro x; cases b <;> rfl
      have h2 : ∀ (f : Bool) x, qd f (10 :: x) = 10 :: qd true x := by intro f x; cases f <;> rfl
      rw [if_pos rfl, h1, h2, h2, qd_crlf p, crlf_cons, if_pos rfl]
    · rw [if_neg ha, qd_cons, qd_cons]
      split
      · rw [qd_crlf p, crlf_cons, if_neg (by decide), crlf_cons, if_neg (by decide)]
      · rw [qd_crlf p, crlf_cons, if_neg ha]
end Mine
end
section
set_option maxRecDepth 100000
namespace Mine
theorem qd_lf (f : Bool) (x : List Nat) : qd f (10 :: x) = 10 :: qd true x := by cases f <;> rfl
theorem qd_other (f : Bool) {c : Nat} (x : List Nat) (h : c ≠ 10) (h2 : c ≠ 46) : qd f (c :: x) = c :: qd false x := by
  rw [qd_cons, if_neg (by simp [h2])]
  have : (c == 10) = false := by simpa using h
  rw [this]
theorem qd_dots0 (m : Nat) (y : List Nat) : qd false (dots m ++ y) = dots m ++ qd false y := by
  induction m with
  | zero => rfl
  | succ m ih =>
    show qd false (46 :: (dots m ++ y)) = 46 :: (dots m ++ qd false y)
    rw [qd_cons, if_neg (by simp), ← ih]; rfl
theorem qd_dots1 (m : Nat) (y : List Nat) : qd true (dots (m + 1) ++ y) = dots (m + 2) ++ qd false y := by
  show qd true (46 :: (dots m ++ y)) = 46 :: 46 :: (dots m ++ qd false y)
  rw [qd_cons, if_pos (by simp), qd_dots0]
/-- a text to which the marker of rows does the same whatever stands ahead, and no dot is left open -/
noncomputable def marks (x x' : List Nat) : Prop := ∀ y, qd false (x ++ y) = x' ++ qd false y
theorem marks_nil : marks [] [] := fun _ => rfl
theorem marks_app {x x' z z' : List Nat} (h : marks x x') (g : marks z z') : marks (x ++ z) (x' ++ z') := fun y => by
  rw [List.append_assoc, h, g, List.append_assoc]
theorem marks_dots (m : Nat) : marks (dots m) (dots m) := qd_dots0 m
theorem marks_one {c : Nat} (h : c ≠ 10) (h2 : c ≠ 46) : marks [c] [c] := fun y => qd_other false y h h2
theorem marks_row {sh : Nat} (h : 1 ≤ sh) : marks ([10] ++ dots sh) ([10] ++ dots (sh + 1)) := fun y => by
  obtain ⟨m, rfl⟩ : ∃ m, sh = m + 1 := ⟨sh - 1, by omega⟩
  show qd false (10 :: (dots (m + 1) ++ y)) = _
  rw [qd_lf, qd_dots1]; rfl
theorem marks_term {rec rec' : Nat → List Nat} (b sh p d : Nat) (h : 1 ≤ sh) (hr : ¬ p < b → marks (rec p) (rec' p)) : marks (term rec b sh p d) (term rec' b (sh + 1) p d) := by
  unfold term
  refine marks_app (marks_app (marks_app (marks_app (marks_row h) ?_) ?_) ?_) (marks_dots d)
  · exact marks_app (x := [42]) (x' := [42]) (marks_one (by decide) (by decide)) (marks_app (x := [42]) (x' := [42]) (marks_one (by decide) (by decide)) (marks_one (by decide) (by decide)))
  · split
    · refine marks_app (marks_dots _) fun y => ?_
      rw [show [45, 46] ++ y = 45 :: ([46] ++ y) from rfl, qd_other _ _ (by decide) (by decide)]
      rw [show [46] ++ y = dots 1 ++ y from rfl, qd_dots0]; rfl
    · exact hr (by assumption)
  · exact marks_app (x := [41]) (x' := [41]) (marks_one (by decide) (by decide)) (marks_one (by decide) (by decide))
theorem term_head (rec : Nat → List Nat) (b sh p d : Nat) : ∃ z, term rec b sh p d = 10 :: z := ⟨dots sh ++ [42, 42, 40] ++ (if p < b then dots (p + 1) ++ [45, 46] else rec p) ++ [41, 42] ++ dots d, by unfold term; simp⟩
/-- two lists of texts, alike but for the marks, each beginning with a row's end -/
inductive Marked : List (List Nat) → List (List Nat) → Prop
  | nil : Marked [] []
  | cons {x x' l l'} : marks x x' → (∃ z, x = 10 :: z) → Marked l l' → Marked (x :: l) (x' :: l')
theorem marks_sep {x x' : List Nat} (h : marks x x') (hz : ∃ z, x = 10 :: z) : marks ([43, 10] ++ x) ([43, 10] ++ x') := fun y => by
  obtain ⟨z, rfl⟩ := hz
  have := h y
  rw [List.append_assoc, List.append_assoc]
  show qd false (43 :: 10 :: (10 :: z ++ y)) = 43 :: 10 :: (x' ++ qd false y)
  rw [qd_other _ _ (by decide) (by decide), qd_lf]
  rw [← this]
  show 43 :: 10 :: qd true (10 :: (z ++ y)) = 43 :: 10 :: qd false (10 :: (z ++ y))
  rw [qd_lf, qd_lf]
theorem marks_glue {l l' : List (List Nat)} (h : Marked l l') : marks (glue l) (glue l') := by
  cases h with
  | nil => exact marks_nil
  | cons h1 h2 h3 =>
    unfold glue
    refine marks_app h1 ?_
    clear h1 h2
    induction h3 with
    | nil => exact marks_nil
    | cons h1 h2 _ ih =>
      rw [List.flatMap_cons, List.flatMap_cons]
      exact marks_app (marks_sep h1 h2) ih
theorem marked_app {a a' b b' : List (List Nat)} (h : Marked a a') (g : Marked b b') : Marked (a ++ b) (a' ++ b') := by
  induction h with
  | nil => exact g
  | cons h1 h2 _ ih => exact .cons h1 h2 ih
theorem marked_items {rec rec' : Nat → List Nat} (b sh : Nat) (h : 1 ≤ sh) (hr : ∀ p, marks (rec p) (rec' p)) : ∀ f n p, Marked (items rec b sh f n p) (items rec' b (sh + 1) f n p)
  | 0, _, _ => .nil
  | f + 1, n, p => by
    unfold items
    split
    · exact .nil
    · refine marked_app ?_ (marked_items b sh h hr f (n / b) (p + 1))
      split
      · exact .nil
      · exact .cons (marks_term b sh p _ h fun _ => hr p) (term_head ..) .nil
theorem marks_terms (b sh : Nat) (h : 1 ≤ sh) : ∀ k n, marks (terms k b sh n) (terms k b (sh + 1) n)
  | 0, _ => marks_nil
  | k + 1, n => marks_glue (marked_items b sh h (marks_terms b sh h k) n n 0)
theorem terms_head (k b sh n : Nat) : terms k b sh n = [] ∨ ∃ z, terms k b sh n = 10 :: z := by
  cases k with
  | zero => exact .inl rfl
  | succ k =>
    unfold terms
    have : ∀ f n p, ∀ x ∈ items (terms k b sh) b sh f n p, ∃ z, x = 10 :: z := by
      intro f
      induction f with
      | zero => intro n p x hx; cases hx
      | succ f ih =>
        intro n p x hx
        unfold items at hx
        split at hx
        · cases hx
        · rcases List.mem_append.mp hx with hx | hx
          · split at hx
            · cases hx
            · rw [List.mem_singleton.mp hx]; exact term_head ..
          · exact ih _ _ x hx
    cases hq : items (terms k b sh) b sh n n 0 with
    | nil => exact .inl rfl
    | cons x l =>
      obtain ⟨z, rfl⟩ := this n n 0 x (by rw [hq]; exact .head _)
      exact .inr ⟨_, rfl⟩
/-- a page is quoted into the next shown one -/
theorem qd_page (k b sh n : Nat) (hb : b ≤ sh) (hs : 1 ≤ sh) : qd true (page k b sh n) = page k b (sh + 1) n := by
  unfold page
  obtain ⟨m, hm⟩ : ∃ m, 1 + sh - b = m + 1 := ⟨sh - b, by omega⟩
  have hm2 : 1 + (sh + 1) - b = m + 2 := by omega
  rw [hm, hm2, List.append_assoc, List.append_assoc, qd_dots1]
  show dots (m + 2) ++ qd false (10 :: _) = _
  rw [qd_lf, List.append_assoc, List.append_assoc]
  congr 2
  show qd true ((if n = 0 then _ else _) ++ [10]) = (if n = 0 then _ else _) ++ [10]
  by_cases hn : n = 0
  · rw [if_pos hn, if_pos hn]; rfl
  · rw [if_neg hn, if_neg hn]
    have h1 := marks_terms b sh hs k n [10]
    rcases terms_head k b sh n with h | ⟨z, h⟩
    · rw [h] at h1 ⊢
      have h2 : terms k b (sh + 1) n = [] := by
        have := congrArg List.length h1
        simp only [List.nil_append, List.length_append] at this
        exact List.length_eq_zero_iff.mp (by omega)
      rw [h2]; rfl
    · rw [h] at h1 ⊢
      rw [show qd false [10] = [10] from rfl] at h1
      rw [← h1]
      show qd true (10 :: (z ++ [10])) = qd false (10 :: (z ++ [10]))
      rw [qd_lf, qd_lf]
theorem quote_page (k b sh n : Nat) (hb : b ≤ sh) (hs : 1 ≤ sh) : qd true (crlf (page k b sh n)) = crlf (page k b (sh + 1) n) := by
  rw [qd_crlf, qd_page k b sh n hb hs]
/-- the signs of a page -/
noncomputable abbrev alpha (c : Nat) : Prop := c = 10 ∨ c = 46 ∨ c = 42 ∨ c = 40 ∨ c = 41 ∨ c = 45 ∨ c = 43
noncomputable def Al (x : List Nat) : Prop := ∀ c ∈ x, alpha c
theorem al_app {x y : List Nat} (h : Al x) (g : Al y) : Al (x ++ y) := fun c hc => (List.mem_append.mp hc).elim (h c) (g c)
theorem al_dots (m : Nat) : Al (dots m) := fun c hc => by rw [(List.mem_replicate.mp hc).2]; decide
theorem al_nil : Al [] := fun c hc => by cases hc
theorem al_term {rec : Nat → List Nat} (b sh p d : Nat) (hr : Al (rec p)) : Al (term rec b sh p d) := by
  unfold term
  refine al_app (al_app (al_app (al_app (al_app ?_ (al_dots _)) ?_) ?_) ?_) (al_dots _)
  · show ∀ c ∈ [10], alpha c; decide
  · show ∀ c ∈ [42, 42, 40], alpha c; decide
  · split
    · refine al_app (al_dots _) ?_
      show ∀ c ∈ [45, 46], alpha c; decide
    · exact hr
  · show ∀ c ∈ [41, 42], alpha c; decide
theorem al_items {rec : Nat → List Nat} (b sh : Nat) (hr : ∀ p, Al (rec p)) : ∀ f n p, ∀ x ∈ items rec b sh f n p, Al x
  | 0, _, _, x, hx => by cases hx
  | f + 1, n, p, x, hx => by
    unfold items at hx
    split at hx
    · cases hx
    · rcases List.mem_append.mp hx with hx | hx
      · split at hx
        · cases hx
        · rw [List.mem_singleton.mp hx]; exact al_term b sh p _ (hr p)
      · exact al_items b sh hr f _ _ x hx
theorem al_glue {l : List (List Nat)} (h : ∀ x ∈ l, Al x) : Al (glue l) := by
  cases l with
  | nil => exact al_nil
  | cons x r =>
    unfold glue
    refine al_app (h x (.head _)) fun c hc => ?_
    obtain ⟨y, hy, hc⟩ := List.mem_flatMap.mp hc
    rcases List.mem_append.mp hc with hc | hc
    · have : ∀ c ∈ [43, 10], alpha c := by decide
      exact this c hc
    · exact h y (.tail _ hy) c hc
theorem al_terms (b sh : Nat) : ∀ k n, Al (terms k b sh n)
  | 0, _ => al_nil
  | k + 1, n => al_glue (al_items b sh (al_terms b sh k) n n 0)
theorem al_page (k b sh n : Nat) : Al (page k b sh n) := by
  unfold page
  refine al_app (al_app (al_app (al_dots _) ?_) ?_) ?_
  · show ∀ c ∈ [10], alpha c; decide
  · split
    · show ∀ c ∈ [10, 40, 46, 45, 46, 41], alpha c; decide
    · exact al_terms b sh k n
  · show ∀ c ∈ [10], alpha c; decide
theorem al_13 {x : List Nat} (h : Al x) : ∀ c ∈ x, c ≠ 13 := fun c hc e => by
  have := h c hc
  rw [e] at this
  exact absurd this (by decide)
end Mine
end
section
set_option maxRecDepth 100000
namespace Mine
noncomputable def k1 (c : Nat) : Nat := if c = 46 then 23 else if c = 42 then 16 else if c = 40 then 7 else if c = 41 then 8 else if c = 43 then 14 else 15
/-- the kinds of a text's signs, the longest first; a row's end is none -/
noncomputable def kt : List Nat → List Nat
  | [] => []
  | [a] => if a = 10 then [] else [k1 a]
  | [a, b] => if a = 42 ∧ b = 42 then [35] else (if a = 10 then [] else [k1 a]) ++ (if b = 10 then [] else [k1 b])
  | a :: b :: c :: r => if a = 46 ∧ b = 46 ∧ c = 46 then 52 :: kt r else if a = 42 ∧ b = 42 then 35 :: kt (c :: r) else (if a = 10 then [] else [k1 a]) ++ kt (b :: c :: r)
theorem kt_dot3 (y : List Nat) : kt (46 :: 46 :: 46 :: y) = 52 :: kt y := by
  conv => lhs; unfold kt
  rfl
theorem kt_star2 (y : List Nat) : kt (42 :: 42 :: y) = 35 :: kt y := by
  cases y with
  | nil => rfl
  | cons a y =>
    conv => lhs; unfold kt
    rw [if_neg (by simp), if_pos (by simp)]
theorem kt_lf (y : List Nat) : kt (10 :: y) = kt y := by
  match y with
  | [] => rfl
  | [b] => conv => lhs; unfold kt
           conv => rhs; unfold kt
           rw [if_neg (by simp), if_pos rfl]; rfl
  | b :: c :: r => conv => lhs; unfold kt
                   rw [if_neg (by simp), if_neg (by simp), if_pos rfl]; rfl
theorem kt_one {a : Nat} {y : List Nat} (h : a ≠ 10) (h1 : a = 42 → y.head? ≠ some 42) (h2 : a = 46 → ∀ r, y ≠ 46 :: 46 :: r) : kt (a :: y) = k1 a :: kt y := by
  match y, h1, h2 with
  | [], _, _ => show (if a = 10 then [] else [k1 a]) = _; rw [if_neg h]; rfl
  | [b], h1, _ =>
    conv => lhs; unfold kt
    rw [if_neg (fun q => h1 q.1 (by rw [q.2]; rfl)), if_neg h]; rfl
  | b :: c :: r, h1, h2 =>
    conv => lhs; unfold kt
    rw [if_neg (fun q => h2 q.1 r (by rw [q.2.1, q.2.2])), if_neg (fun q => h1 q.1 (by rw [q.2]; rfl)), if_neg h]; rfl
theorem kt_dot1 {y : List Nat} (h : y.head? ≠ some 46) : kt (46 :: y) = 23 :: kt y :=
  kt_one (by decide) (fun q => absurd q (by decide)) fun _ r q => h (by rw [q]; rfl)
theorem kt_dot2 {y : List Nat} (h : y.head? ≠ some 46) : kt (46 :: 46 :: y) = 23 :: 23 :: kt y := by
  rw [kt_one (by decide) (fun q => absurd q (by decide)), kt_dot1 h]
  · rfl
  · intro _ r q
    have := (List.cons.inj q).2
    exact h (by rw [this]; rfl)
theorem kt_sign {a : Nat} (y : List Nat) (h : a ≠ 10) (h1 : a ≠ 42) (h2 : a ≠ 46) : kt (a :: y) = k1 a :: kt y :=
  kt_one h (fun q => absurd q h1) fun q => absurd q h2
theorem kt_star {y : List Nat} (h : y.head? ≠ some 42) : kt (42 :: y) = 16 :: kt y :=
  kt_one (by decide) (fun _ => h) fun q => absurd q (by decide)
noncomputable abbrev dotty (a : Nat) : Prop := a = 23 ∨ a = 52
theorem runW_cons (k : Nat) (ks : List Nat) (c : St) : runW (k :: ks) c = match stp k c with | some c' => runW ks c' | none => none := rfl
theorem run_some {k : Nat} {ks : List Nat} {c c' : St} (h : stp k c = some c') : runW (k :: ks) c = runW ks c' := by rw [runW_cons, h]
theorem stp_more {k x a : Nat} {ws wt : List Nat} (h : k = 23 ∨ k = 52) (ha : dotty a) : stp k ⟨x :: ws, wt, a⟩ = some ⟨(x + (if k = 23 then 1 else 3)) :: ws, wt, k⟩ := by
  unfold stp
  rw [if_pos h, if_pos ha]
theorem stp_new {k a : Nat} {ws wt : List Nat} (h : k = 23 ∨ k = 52) (ha : ¬ dotty a) : stp k ⟨ws, wt, a⟩ = some ⟨(if k = 23 then 1 else 3) :: ws, wt, k⟩ := by
  unfold stp
  rw [if_pos h, if_neg ha]
theorem run_more {y : List Nat} (hy : y.head? ≠ some 46) (ws wt : List Nat) : ∀ (m x a : Nat), dotty a → ∃ a', dotty a' ∧ ∀ z, runW (kt (dots m ++ y) ++ z) ⟨x :: ws, wt, a⟩ = runW (kt y ++ z) ⟨(x + m) :: ws, wt, a'⟩
  | 0, x, a, ha => ⟨a, ha, fun z => rfl⟩
  | 1, x, a, ha => ⟨23, .inl rfl, fun z => by
      show runW (kt (46 :: y) ++ z) _ = _
      rw [kt_dot1 hy, List.cons_append, run_some (stp_more (.inl rfl) ha)]; rfl⟩
  | 2, x, a, ha => ⟨23, .inl rfl, fun z => by
      show runW (kt (46 :: 46 :: y) ++ z) _ = _
      rw [kt_dot2 hy, List.cons_append, run_some (stp_more (.inl rfl) ha), List.cons_append, run_some (stp_more (.inl rfl) (.inl rfl))]; rfl⟩
  | m + 3, x, a, ha => by
    obtain ⟨a', ha', h⟩ := run_more hy ws wt m (x + 3) 52 (.inr rfl)
    refine ⟨a', ha', fun z => ?_⟩
    show runW (kt (46 :: 46 :: 46 :: (dots m ++ y)) ++ z) _ = _
    rw [kt_dot3, List.cons_append, run_some (stp_more (.inr rfl) ha)]
    show runW (kt (dots m ++ y) ++ z) ⟨(x + 3) :: ws, wt, 52⟩ = _
    rw [h, show x + (m + 3) = x + 3 + m from by omega]
theorem run_dots {y : List Nat} (hy : y.head? ≠ some 46) (ws wt : List Nat) (m : Nat) (hm : 1 ≤ m) (a : Nat) (ha : ¬ dotty a) : ∃ a', dotty a' ∧ ∀ z, runW (kt (dots m ++ y) ++ z) ⟨ws, wt, a⟩ = runW (kt y ++ z) ⟨m :: ws, wt, a'⟩ := by
  match m, hm with
  | 1, _ => exact ⟨23, .inl rfl, fun z => by
      show runW (kt (46 :: y) ++ z) _ = _
      rw [kt_dot1 hy, List.cons_append, run_some (stp_new (.inl rfl) ha)]; rfl⟩
  | 2, _ => exact ⟨23, .inl rfl, fun z => by
      show runW (kt (46 :: 46 :: y) ++ z) _ = _
      rw [kt_dot2 hy, List.cons_append, run_some (stp_new (.inl rfl) ha), List.cons_append, run_some (stp_more (.inl rfl) (.inl rfl))]; rfl⟩
  | m + 3, _ =>
    obtain ⟨a', ha', h⟩ := run_more hy ws wt m 3 52 (.inr rfl)
    refine ⟨a', ha', fun z => ?_⟩
    show runW (kt (46 :: 46 :: 46 :: (dots m ++ y)) ++ z) _ = _
    rw [kt_dot3, List.cons_append, run_some (stp_new (.inr rfl) ha)]
    show runW (kt (dots m ++ y) ++ z) ⟨3 :: ws, wt, 52⟩ = _
    rw [h, Nat.add_comm]
theorem stp_push' {k a : Nat} {ws wt wt' ws' : List Nat} (h : ¬ (k = 23 ∨ k = 52)) (h8 : k ≠ 8) (h0 : k ≠ 0) (hr : red k wt ws = some (wt', ws')) : stp k ⟨ws, wt, a⟩ = some ⟨ws', k :: wt', k⟩ := by
  unfold stp
  rw [if_neg h]
  show (match red k wt ws with | none => none | some (wt, ws) => _) = _
  rw [hr]
  show (if k = 8 then _ else _) = _
  rw [if_neg h8, if_neg h0]
theorem stp_close {a o : Nat} {ws wt wt' ws' : List Nat} (hr : red 8 wt ws = some (o :: wt', ws')) : stp 8 ⟨ws, wt, a⟩ = some ⟨ws', wt', 8⟩ := by
  unfold stp
  rw [if_neg (by decide)]
  show (match red 8 wt ws with | none => none | some (wt, ws) => _) = _
  rw [hr]
  rfl
theorem stp_end {a : Nat} {ws wt wt' ws' : List Nat} (hr : red 0 wt ws = some (wt', ws')) : stp 0 ⟨ws, wt, a⟩ = some ⟨ws', wt', 0⟩ := by
  unfold stp
  rw [if_neg (by decide)]
  show (match red 0 wt ws with | none => none | some (wt, ws) => _) = _
  rw [hr]
  rfl
theorem red_stop {k o : Nat} {wt ws : List Nat} (h : ¬ (k ≠ 7 ∧ k ≤ o)) : red k (o :: wt) ws = some (o :: wt, ws) := by
  unfold red
  rw [if_neg h]
theorem red_go {k o l r x : Nat} {wt ws : List Nat} (h : k ≠ 7 ∧ k ≤ o) (ha : app o l r = some x) : red k (o :: wt) (r :: l :: ws) = red k wt (x :: ws) := by
  conv => lhs; unfold red
  rw [if_pos h]
  show (match app o l r with | some x => _ | none => none) = _
  rw [ha]
/-- nothing waits that a factor would settle -/
noncomputable def Stop (wt : List Nat) : Prop := wt = [] ∨ ∃ o r, wt = o :: r ∧ o < 16
theorem stop_red {wt : List Nat} (h : Stop wt) {k : Nat} (hk : 16 ≤ k) (ws : List Nat) : red k wt ws = some (wt, ws) := by
  rcases h with rfl | ⟨o, r, rfl, ho⟩
  · rfl
  · exact red_stop (by omega)
end Mine
end
section
set_option maxRecDepth 100000
namespace Mine
theorem app_pow {l r : Nat} (h : l < 1099511627776) (h2 : r ≤ 1000000) : app 35 l r = some (l ^ r) := by unfold app; rw [if_neg (by decide), if_neg (by decide), if_neg (by decide), if_pos rfl, if_pos ⟨h, h2⟩]
theorem app_mul {l r : Nat} (h : l < 1099511627776) : app 16 l r = some (l * r) := by unfold app; rw [if_neg (by decide), if_neg (by decide), if_pos rfl, if_pos h]
theorem app_plus (l r : Nat) : app 14 l r = some (l + r) := by unfold app; rw [if_pos rfl]
theorem app_less {l r : Nat} (h : r ≤ l) : app 15 l r = some (l - r) := by unfold app; rw [if_neg (by decide), if_pos rfl, if_pos h]
/-- what waits comes to one number, over what stood before -/
noncomputable def Pend (c : St) (ws wt : List Nat) (v : Nat) : Prop := dotty c.ah ∧ ∀ k, k = 0 ∨ k = 8 ∨ k = 14 → red k c.wt c.ws = red k wt (v :: ws)
/-- a text's run, whatever follows that begins with no dot -/
noncomputable def Goes (x : List Nat) (c : St) (T : St → Prop) : Prop := ∀ y : List Nat, y.head? ≠ some 46 → ∃ c', T c' ∧ ∀ z, runW (kt (x ++ y) ++ z) c = runW (kt y ++ z) c'
/-- an exponent in its brackets: it is settled to e when they close -/
noncomputable def Expo (E : List Nat) (e : Nat) : Prop := ∀ ws wt : List Nat, Goes E ⟨ws, 7 :: wt, 7⟩ fun c => red 8 c.wt c.ws = some (7 :: wt, e :: ws)
theorem head_dots {m : Nat} (h : 1 ≤ m) (y : List Nat) : (dots m ++ y).head? = some 46 := by
  obtain ⟨k, rfl⟩ : ∃ k, m = k + 1 := ⟨m - 1, by omega⟩
  rfl
theorem expo_small (p : Nat) : Expo (dots (p + 1) ++ [45, 46]) p := by
  intro ws wt y hy
  obtain ⟨a, ha, h⟩ := run_dots (y := 45 :: 46 :: y) (by simp) ws (7 :: wt) (p + 1) (by omega) 7 (by decide)
  refine ⟨⟨1 :: (p + 1) :: ws, 15 :: 7 :: wt, 23⟩, ?_, fun z => ?_⟩
  · show red 8 (15 :: 7 :: wt) (1 :: (p + 1) :: ws) = _
    rw [red_go (by decide) (app_less (by omega)), red_stop (by decide)]
    rfl
  · rw [List.append_assoc]
    show runW (kt (dots (p + 1) ++ (45 :: 46 :: y)) ++ z) _ = _
    rw [h, kt_sign _ (by decide) (by decide) (by decide), List.cons_append]
    rw [show k1 45 = 15 from rfl, run_some (stp_push' (by decide) (by decide) (by decide) (red_stop (by decide)))]
    rw [kt_dot1 hy, List.cons_append, run_some (stp_new (.inl rfl) (by decide))]
    rfl
theorem run_term {rec : Nat → List Nat} {b sh p d e : Nat} (hs : 1 ≤ sh) (hs2 : sh < 1099511627776) (hd : 1 ≤ d) (he : e ≤ 1000000) (hE : Expo (if p < b then dots (p + 1) ++ [45, 46] else rec p) e)
    (ws wt : List Nat) (a : Nat) (ha : ¬ dotty a) (hw : Stop wt) : Goes (term rec b sh p d) ⟨ws, wt, a⟩ fun c => dotty c.ah ∧ c.wt = 16 :: wt ∧ c.ws = d :: sh ^ e :: ws := by
  intro y hy
  unfold term
  generalize hEE : (if p < b then dots (p + 1) ++ [45, 46] else rec p) = E at hE
  obtain ⟨a1, ha1, h1⟩ := run_dots (y := 42 :: 42 :: 40 :: (E ++ (41 :: 42 :: (dots d ++ y)))) (by simp) ws wt sh hs a ha
  obtain ⟨c2, hc2, h2⟩ := hE (sh :: ws) (35 :: wt) (41 :: 42 :: (dots d ++ y)) (by simp)
  obtain ⟨a3, ha3, h3⟩ := run_dots hy (sh ^ e :: ws) (16 :: wt) d hd 16 (by decide)
  refine ⟨⟨d :: sh ^ e :: ws, 16 :: wt, a3⟩, ⟨ha3, rfl, rfl⟩, fun z => ?_⟩
  have e0 : [10] ++ dots sh ++ [42, 42, 40] ++ E ++ [41, 42] ++ dots d ++ y = 10 :: (dots sh ++ (42 :: 42 :: 40 :: (E ++ (41 :: 42 :: (dots d ++ y))))) := by simp
  rw [e0, kt_lf, h1, kt_star2, List.cons_append]
  rw [run_some (stp_push' (by decide) (by decide) (by decide) (stop_red hw (by decide) _))]
  rw [kt_sign _ (by decide) (by decide) (by decide), List.cons_append, show k1 40 = 7 from rfl]
  rw [run_some (stp_push' (wt := 35 :: wt) (by decide) (by decide) (by decide) (red_stop (by decide)))]
  rw [h2, kt_sign _ (by decide) (by decide) (by decide), List.cons_append, show k1 41 = 8 from rfl]
  rw [run_some (c' := ⟨e :: sh :: ws, 35 :: wt, 8⟩) (stp_close hc2)]
  rw [kt_star (by rw [head_dots hd]; simp), List.cons_append]
  rw [run_some (c' := ⟨sh ^ e :: ws, 16 :: wt, 16⟩) (stp_push' (by decide) (by decide) (by decide) (by rw [red_go (by decide) (app_pow hs2 he)]; exact stop_red hw (by decide) _))]
  exact h3 z
theorem pow_lt_of {w e n : Nat} (hw : 2 ≤ w) (h : w ^ e ≤ n) (hn : n < 1099511627776) : e ≤ 1000000 := by
  have h1 : 2 ^ e ≤ w ^ e := Nat.pow_le_pow_left hw e
  have h2 : e < 2 ^ e := Nat.lt_two_pow_self
  by_cases he : e ≤ 40
  · omega
  · exfalso
    have : 2 ^ 41 ≤ 2 ^ e := Nat.pow_le_pow_right (by decide) (by omega)
    have : (2 : Nat) ^ 41 = 2199023255552 := by decide
    omega
/-- the later terms, each behind a plus -/
theorem run_tail {rec : Nat → List Nat} {val : Nat → Nat} {b sh : Nat} (hb : 2 ≤ b) (hs : 2 ≤ sh) (hs2 : sh < 1000) (ws wt : List Nat) (hw : ∀ v : Nat, ∀ r, red 14 wt (v :: r) = some (wt, v :: r)) :
    ∀ (f n p acc : Nat), (∀ p', (sh ^ val p' < 1099511627776 ∧ ∃ n', 0 < n' ∧ n' * 2 ^ (p' - p) ≤ n ∧ p ≤ p') → Expo (if p' < b then dots (p' + 1) ++ [45, 46] else rec p') (val p')) → acc + sumI val b sh f n p < 1099511627776 → ∀ c, Pend c ws wt acc →
      Goes ((items rec b sh f n p).flatMap fun y => [43, 10] ++ y) c fun c' => Pend c' ws wt (acc + sumI val b sh f n p)
  | 0, n, p, acc, _, _, c, hc => fun y hy => ⟨c, hc, fun z => rfl⟩
  | f + 1, n, p, acc, hE, ht, c, hc => by
    intro y hy
    unfold items
    unfold sumI at ht ⊢
    by_cases hn : n = 0
    · rw [if_pos hn, if_pos hn]
      exact ⟨c, hc, fun z => rfl⟩
    · rw [if_neg hn, if_neg hn]
      rw [if_neg hn] at ht
      have hE' : ∀ p', (sh ^ val p' < 1099511627776 ∧ ∃ n', 0 < n' ∧ n' * 2 ^ (p' - (p + 1)) ≤ n / b ∧ p + 1 ≤ p') → Expo (if p' < b then dots (p' + 1) ++ [45, 46] else rec p') (val p') := by
        rintro p' ⟨h9, n', h1, h2, h3⟩
        refine hE p' ⟨h9, n', h1, ?_, by omega⟩
        rw [show p' - p = (p' - (p + 1)) + 1 from by omega, Nat.pow_succ, ← Nat.mul_assoc]
        have : n / b * 2 ≤ n := by
          have h4 := Nat.div_mul_le_self n b
          have h5 : n / b * 2 ≤ n / b * b := Nat.mul_le_mul_left _ hb
          omega
        have := Nat.mul_le_mul_right 2 h2
        omega
      by_cases hz : n % b = 0
      · rw [if_pos hz, if_pos hz, List.nil_append, Nat.zero_add]
        rw [if_pos hz, Nat.zero_add] at ht
        exact run_tail hb hs hs2 ws wt hw f (n / b) (p + 1) acc hE' ht c hc y hy
      · rw [if_neg hz, if_neg hz, List.singleton_append, List.flatMap_cons]
        rw [if_neg hz] at ht
        have hd : 1 ≤ n % b := by omega
        have hp1 : sh ^ val p ≤ n % b * sh ^ val p := Nat.le_mul_of_pos_left _ hd
        have he : val p ≤ 1000000 := pow_lt_of hs hp1 (by omega)
        have hEp := hE p ⟨by omega, n, by omega, by simp, Nat.le_refl _⟩
        -- the rest's text begins with no dot
        let T := (items rec b sh f (n / b) (p + 1)).flatMap fun y => [43, 10] ++ y
        have hT : (T ++ y).head? ≠ some 46 := by
          show (List.flatMap _ (items rec b sh f (n / b) (p + 1)) ++ y).head? ≠ some 46
          cases items rec b sh f (n / b) (p + 1) with
          | nil => exact hy
          | cons x l => simp
        obtain ⟨c1, ⟨g1, g2, g3⟩, h1⟩ := run_term (sh := sh) (by omega) (by omega) hd he hEp (acc :: ws) (14 :: wt) 14 (by decide) (.inr ⟨14, wt, rfl, by decide⟩) (T ++ y) hT
        have hc1 : Pend c1 ws wt (acc + n % b * sh ^ val p) := by
          refine ⟨g1, fun k hk => ?_⟩
          rw [g2, g3, red_go (by omega) (app_mul (by omega)), red_go (by omega) (app_plus _ _), Nat.mul_comm]
        obtain ⟨c2, hc2, h2⟩ := run_tail hb hs hs2 ws wt hw f (n / b) (p + 1) (acc + n % b * sh ^ val p) hE' (by omega) c1 hc1 y hy
        refine ⟨c2, by rw [← Nat.add_assoc]; exact hc2, fun z => ?_⟩
        have e0 : [43, 10] ++ term rec b sh p (n % b) ++ T ++ y = 43 :: 10 :: (term rec b sh p (n % b) ++ (T ++ y)) := by simp
        show runW (kt ([43, 10] ++ term rec b sh p (n % b) ++ T ++ y) ++ z) c = _
        rw [e0, kt_sign _ (by decide) (by decide) (by decide), kt_lf, List.cons_append, show k1 43 = 14 from rfl]
        have hr : red 14 c.wt c.ws = some (wt, acc :: ws) := by rw [hc.2 14 (.inr (.inr rfl)), hw]
        have hst : stp 14 c = some ⟨acc :: ws, 14 :: wt, 14⟩ := stp_push' (a := c.ah) (by decide) (by decide) (by decide) hr
        rw [run_some hst, h1, h2]
/-- a number's terms from its first on -/
theorem run_items {rec : Nat → List Nat} {val : Nat → Nat} {b sh : Nat} (hb : 2 ≤ b) (hs : 2 ≤ sh) (hs2 : sh < 1000) (ws wt : List Nat) (a : Nat) (ha : ¬ dotty a) (hst : Stop wt) (hw : ∀ v : Nat, ∀ r, red 14 wt (v :: r) = some (wt, v :: r)) :
    ∀ (f n p : Nat), 0 < n → n ≤ f → (∀ p', (sh ^ val p' < 1099511627776 ∧ ∃ n', 0 < n' ∧ n' * 2 ^ (p' - p) ≤ n ∧ p ≤ p') → Expo (if p' < b then dots (p' + 1) ++ [45, 46] else rec p') (val p')) → sumI val b sh f n p < 1099511627776 →
      Goes (glue (items rec b sh f n p)) ⟨ws, wt, a⟩ fun c' => Pend c' ws wt (sumI val b sh f n p)
  | 0, n, p, hn, hf, _, _ => by omega
  | f + 1, n, p, hn, hf, hE, ht => by
    intro y hy
    unfold items
    unfold sumI at ht ⊢
    have h0 : ¬ n = 0 := by omega
    rw [if_neg h0, if_neg h0]
    rw [if_neg h0] at ht
    have hE' : ∀ p', (sh ^ val p' < 1099511627776 ∧ ∃ n', 0 < n' ∧ n' * 2 ^ (p' - (p + 1)) ≤ n / b ∧ p + 1 ≤ p') → Expo (if p' < b then dots (p' + 1) ++ [45, 46] else rec p') (val p') := by
      rintro p' ⟨h9, n', h1, h2, h3⟩
      refine hE p' ⟨h9, n', h1, ?_, by omega⟩
      rw [show p' - p = (p' - (p + 1)) + 1 from by omega, Nat.pow_succ, ← Nat.mul_assoc]
      have : n / b * 2 ≤ n := by
        have h4 := Nat.div_mul_le_self n b
        have h5 : n / b * 2 ≤ n / b * b := Nat.mul_le_mul_left _ hb
        omega
      have := Nat.mul_le_mul_right 2 h2
      omega
    by_cases hz : n % b = 0
    · rw [if_pos hz, if_pos hz, List.nil_append, Nat.zero_add]
      rw [if_pos hz, Nat.zero_add] at ht
      have h1 : 0 < n / b := Nat.div_pos (Nat.le_of_dvd hn (Nat.dvd_of_mod_eq_zero hz)) (by omega)
      have h2 : n / b < n := Nat.div_lt_self hn hb
      exact run_items hb hs hs2 ws wt a ha hst hw f (n / b) (p + 1) h1 (by omega) hE' ht y hy
    · rw [if_neg hz, if_neg hz, List.singleton_append]
      rw [if_neg hz] at ht
      have hd : 1 ≤ n % b := by omega
      have hp1 : sh ^ val p ≤ n % b * sh ^ val p := Nat.le_mul_of_pos_left _ hd
      have he : val p ≤ 1000000 := pow_lt_of hs hp1 (by omega)
      have hEp := hE p ⟨by omega, n, by omega, by simp, Nat.le_refl _⟩
      unfold glue
      let T := (items rec b sh f (n / b) (p + 1)).flatMap fun y => [43, 10] ++ y
      have hT : (T ++ y).head? ≠ some 46 := by
        show (List.flatMap _ (items rec b sh f (n / b) (p + 1)) ++ y).head? ≠ some 46
        cases items rec b sh f (n / b) (p + 1) with
        | nil => exact hy
        | cons x l => simp
      obtain ⟨c1, ⟨g1, g2, g3⟩, h1⟩ := run_term (sh := sh) (by omega) (by omega) hd he hEp ws wt a ha hst (T ++ y) hT
      have hc1 : Pend c1 ws wt (n % b * sh ^ val p) := by
        refine ⟨g1, fun k hk => ?_⟩
        rw [g2, g3, red_go (by omega) (app_mul (by omega)), Nat.mul_comm]
      obtain ⟨c2, hc2, h2⟩ := run_tail hb hs hs2 ws wt hw f (n / b) (p + 1) (n % b * sh ^ val p) hE' (by omega) c1 hc1 y hy
      refine ⟨c2, hc2, fun z => ?_⟩
      rw [List.append_assoc]
      show runW (kt (term rec b sh p (n % b) ++ (T ++ y)) ++ z) _ = _
      rw [h1, h2]
end Mine
end
section
set_option maxRecDepth 100000
namespace Mine
theorem sumI_zero (rec : Nat → Nat) (b w : Nat) : ∀ f p, sumI rec b w f 0 p = 0
  | 0, _ => rfl
  | f + 1, p => by unfold sumI; rw [if_pos rfl]
theorem bump_nought (b w : Nat) : ∀ k, bump k b w 0 = 0
  | 0 => rfl
  | k + 1 => sumI_zero _ _ _ _ _
theorem bump_small (b w p : Nat) (h : p < b) : ∀ k, p < tow k → bump k b w p = p
  | 0, h2 => by
    have : p = 0 := by have : tow 0 = 1 := rfl; omega
    subst this; rfl
  | k + 1, _ => by
    cases p with
    | zero => exact bump_nought b w _
    | succ p =>
      show sumI (bump k b w) b w (p + 1) (p + 1) 0 = p + 1
      unfold sumI
      have e : (p + 1) % b = p + 1 := Nat.mod_eq_of_lt h
      have e2 : (p + 1) / b = 0 := Nat.div_eq_of_lt h
      rw [if_neg (Nat.succ_ne_zero p), e, if_neg (Nat.succ_ne_zero p), e2, sumI_zero, bump_nought, Nat.pow_zero, Nat.mul_one]
theorem deep_lt (k n c p : Nat) (hn : n < tow (k + 1)) (hc : 0 < c) (h : c * 2 ^ p ≤ n) : p < tow k := by
  have h2 : 1 * 2 ^ p ≤ c * 2 ^ p := Nat.mul_le_mul_right _ hc
  have h3 : 2 ^ p < 2 ^ tow k := by
    have : tow (k + 1) = 2 ^ tow k := rfl
    omega
  exact (Nat.pow_lt_pow_iff_right (by decide)).mp h3
theorem run_terms (b sh : Nat) (hb : 2 ≤ b) (hs : 2 ≤ sh) (hs2 : sh < 1000) : ∀ k n, 0 < n → n < tow k → bump k b sh n < 1099511627776 →
    ∀ (ws wt : List Nat) (a : Nat), ¬ dotty a → Stop wt → (∀ v : Nat, ∀ r, red 14 wt (v :: r) = some (wt, v :: r)) → Goes (terms k b sh n) ⟨ws, wt, a⟩ fun c' => Pend c' ws wt (bump k b sh n)
  | 0, n, h0, hn, _, _, _, _, _, _, _ => by have : tow 0 = 1 := rfl; omega
  | k + 1, n, h0, hn, ht, ws, wt, a, ha, hst, hw => by
    refine run_items hb hs hs2 ws wt a ha hst hw n n 0 h0 (Nat.le_refl _) ?_ ht
    rintro p ⟨h9, n', h1, h2, -⟩
    have hp : p < tow k := deep_lt k n n' p hn h1 h2
    split
    · rename_i hpb
      rw [bump_small b sh p hpb k hp]
      exact expo_small p
    · rename_i hpb
      intro ws2 wt2 y hy
      have h3 : bump k b sh p < 1099511627776 := by
        have h4 : bump k b sh p < 2 ^ bump k b sh p := Nat.lt_two_pow_self
        have h5 : 2 ^ bump k b sh p ≤ sh ^ bump k b sh p := Nat.pow_le_pow_left hs _
        omega
      obtain ⟨c', hc', h⟩ := run_terms b sh hb hs hs2 k p (by omega) hp h3 ws2 (7 :: wt2) 7 (by decide) (.inr ⟨7, wt2, rfl, by decide⟩) (fun v r => red_stop (by decide)) y hy
      exact ⟨c', (hc'.2 8 (.inr (.inl rfl))).trans (red_stop (by decide)), h⟩
/-- what a page's rows but the first are worth -/
theorem worth_terms (b sh k n : Nat) (hb : 2 ≤ b) (hs : 2 ≤ sh) (hs2 : sh < 1000) (hn : n < tow k) (ht : bump k b sh n < 1099511627776) :
    runW (kt ((if n = 0 then [10, 40, 46, 45, 46, 41] else terms k b sh n) ++ [10]) ++ [0]) ⟨[], [], 0⟩ = some ⟨[bump k b sh n], [], 0⟩ := by
  by_cases h0 : n = 0
  · subst h0
    rw [if_pos rfl, bump_nought]
    rfl
  · rw [if_neg h0]
    obtain ⟨c', ⟨h1, h2⟩, h⟩ := run_terms b sh hb hs hs2 k n (by omega) hn ht [] [] 0 (by decide) (.inl rfl) (fun v r => rfl) [10] (by simp)
    rw [h, kt_lf]
    have h3 := h2 0 (.inl rfl)
    have : stp 0 c' = some ⟨[bump k b sh n], [], 0⟩ := stp_end (a := c'.ah) h3
    show runW [0] c' = _
    rw [run_some this]; rfl
/-- what a page's first row is worth -/
theorem worth_dots (m : Nat) (hm : 1 ≤ m) : runW (kt (dots m) ++ [0]) ⟨[], [], 0⟩ = some ⟨[m], [], 0⟩ := by
  obtain ⟨a, ha, h⟩ := run_dots (y := []) (by simp) [] [] m hm 0 (by decide)
  have := h [0]
  rw [List.append_nil] at this
  rw [this]
  show runW [0] _ = _
  rw [run_some (c' := ⟨[m], [], 0⟩) (stp_end rfl)]
  rfl
end Mine
end
section
set_option maxRecDepth 100000
namespace Mine
theorem k1_52 (a : Nat) : k1 a ≠ 52 := by unfold k1; repeat' (first | decide | split)
theorem k1_23 (a : Nat) : (k1 a = 23) ↔ a = 46 := by
  constructor
  · intro h
    by_cases e : a = 46
    · exact e
    · exfalso
      unfold k1 at h
      rw [if_neg e] at h
      revert h
      repeat' (first | decide | split)
  · rintro rfl; rfl
theorem occ_eat (sub : List Nat) (c : Nat) (r : List Nat) (i k : Nat) : occL sub (c :: r) i (k + 1) = occL sub r (i + 1) k := by
  rw [occL]
theorem occ_yes {sub : List Nat} {c : Nat} {r : List Nat} {i : Nat} (h : (c :: r).take sub.length = sub) : occL sub (c :: r) i 0 = i :: occL sub r (i + 1) (sub.length - 1) := by
  rw [occL, if_pos (by simpa using h)]
theorem occ_no {sub : List Nat} {c : Nat} {r : List Nat} {i : Nat} (h : (c :: r).take sub.length ≠ sub) : occL sub (c :: r) i 0 = occL sub r (i + 1) 0 := by
  rw [occL, if_neg (by simpa using h)]
noncomputable abbrev k1l (a : Nat) : List Nat := if a = 10 then [] else [k1 a]
theorem k1l_52 (a : Nat) : (k1l a).count 52 = 0 := by
  unfold k1l
  split
  · rfl
  · rw [List.count_singleton, if_neg (by simpa using k1_52 a)]
theorem k1l_23 (a : Nat) : (k1l a).count 23 = if a = 46 then 1 else 0 := by
  unfold k1l
  by_cases h : a = 46
  · subst h; rfl
  · rw [if_neg h]
    split
    · rfl
    · rw [List.count_singleton, if_neg (by simpa using fun q => h ((k1_23 a).mp q))]
theorem count3 : ∀ (l : List Nat) (i : Nat), (occL [46, 46, 46] l i 0).length = (kt l).count 52
  | [], i => rfl
  | [a], i => by
    rw [occ_no (by simp)]
    show 0 = (k1l a).count 52
    rw [k1l_52]
  | [a, b], i => by
    rw [occ_no (by simp), occ_no (by simp)]
    show 0 = List.count 52 (if a = 42 ∧ b = 42 then [35] else k1l a ++ k1l b)
    split
    · rfl
    · rw [List.count_append, k1l_52, k1l_52]
  | a :: b :: c :: r, i => by
    by_cases h : a = 46 ∧ b = 46 ∧ c = 46
    · obtain ⟨rfl, rfl, rfl⟩ := h
      rw [occ_yes rfl, kt_dot3, List.count_cons, List.length_cons]
      show (occL [46, 46, 46] (46 :: 46 :: r) (i + 1) 2).length + 1 = _
      rw [occ_eat, occ_eat, count3 r]
      rfl
    · have h1 : (a :: b :: c :: r).take 3 ≠ [46, 46, 46] := by
        intro q
        simp only [List.take_succ_cons, List.take_zero, List.cons.injEq, and_true] at q
        exact h q
      rw [occ_no (sub := [46, 46, 46]) h1]
      by_cases g : a = 42 ∧ b = 42
      · obtain ⟨rfl, rfl⟩ := g
        rw [occ_no (by simp), kt_star2, List.count_cons_of_ne (by decide), count3 (c :: r)]
      · rw [count3 (b :: c :: r)]
        conv => rhs; unfold kt
        rw [if_neg h, if_neg g, List.count_append, k1l_52, Nat.zero_add]
theorem count1 : ∀ (l : List Nat) (i : Nat), (occL [46] l i 0).length = (kt l).count 23 + 3 * (kt l).count 52
  | [], i => rfl
  | [a], i => by
    show _ = (k1l a).count 23 + 3 * (k1l a).count 52
    rw [k1l_52, k1l_23]
    by_cases h : a = 46
    · subst h; rfl
    · rw [occ_no (by simpa using h), if_neg h]; rfl
  | [a, b], i => by
    by_cases g : a = 42 ∧ b = 42
    · obtain ⟨rfl, rfl⟩ := g; rfl
    · show _ = List.count 23 (if a = 42 ∧ b = 42 then [35] else k1l a ++ k1l b) + 3 * List.count 52 (if a = 42 ∧ b = 42 then [35] else k1l a ++ k1l b)
      rw [if_neg g, List.count_append, List.count_append, k1l_52, k1l_52, k1l_23, k1l_23]
      by_cases h : a = 46
      · subst h
        rw [occ_yes rfl]
        by_cases h' : b = 46
        · subst h'; rfl
        · show (occL [46] [b] (i + 1) 0).length + 1 = _
          rw [occ_no (by simpa using h'), if_neg h']; rfl
      · rw [occ_no (by simpa using h), if_neg h]
        by_cases h' : b = 46
        · subst h'; rfl
        · rw [occ_no (by simpa using h'), if_neg h']; rfl
  | a :: b :: c :: r, i => by
    by_cases h : a = 46 ∧ b = 46 ∧ c = 46
    · obtain ⟨rfl, rfl, rfl⟩ := h
      rw [occ_yes rfl, kt_dot3, List.count_cons, List.count_cons, List.length_cons]
      show (occL [46] (46 :: 46 :: r) (i + 1) 0).length + 1 = _
      rw [occ_yes rfl, List.length_cons]
      show (occL [46] (46 :: r) (i + 1 + 1) 0).length + 1 + 1 = _
      rw [occ_yes rfl, List.length_cons]
      show (occL [46] r (i + 1 + 1 + 1) 0).length + 1 + 1 + 1 = _
      rw [count1 r]
      rw [if_neg (by decide), if_pos (by decide)]
      omega
    · by_cases g : a = 42 ∧ b = 42
      · obtain ⟨rfl, rfl⟩ := g
        rw [occ_no (by simp), occ_no (by simp), kt_star2, List.count_cons_of_ne (by decide), List.count_cons_of_ne (by decide), count1 (c :: r)]
      · conv => rhs; unfold kt
        rw [if_neg h, if_neg g, List.count_append, List.count_append, k1l_52, k1l_23]
        by_cases ha : a = 46
        · subst ha
          rw [occ_yes rfl, List.length_cons, if_pos rfl]
          show (occL [46] (b :: c :: r) (i + 1) 0).length + 1 = _
          rw [count1 (b :: c :: r)]
          omega
        · rw [occ_no (by simpa using ha), if_neg ha, count1 (b :: c :: r)]
          omega
end Mine
end
section
set_option maxRecDepth 100000
namespace Mine
noncomputable abbrev sign (c : Nat) : Prop := c = 46 ∨ c = 42 ∨ c = 40 ∨ c = 41 ∨ c = 45 ∨ c = 43
theorem sign_10 {c : Nat} (h : sign c) : c ≠ 10 := by
  unfold sign at h; omega
section
variable {P : List Nat → List Nat → Prop} {Yes : List Nat → Nat → Prop} {No : List Nat → Prop}
theorem cut_row (nil : P [] [])
    (three : ∀ l k ks, l ≠ [] → Yes (l.take 3) k → P (l.drop 3) ks → P l (k :: ks))
    (two : ∀ l k ks, l ≠ [] → No (l.take 3) → Yes (l.take 2) k → P (l.drop 2) ks → P l (k :: ks))
    (one : ∀ l k ks, l ≠ [] → No (l.take 3) → No (l.take 2) → Yes (l.take 1) k → P (l.drop 1) ks → P l (k :: ks))
    (y1 : ∀ a, sign a → Yes [a] (k1 a)) (y2 : Yes [42, 42] 35) (y3 : Yes [46, 46, 46] 52)
    (n2 : ∀ a b, sign a → sign b → ¬ (a = 42 ∧ b = 42) → No [a, b])
    (n3 : ∀ a b c, sign a → sign b → sign c → ¬ (a = 46 ∧ b = 46 ∧ c = 46) → No [a, b, c]) :
    ∀ l : List Nat, (∀ c ∈ l, sign c) → P l (kt l)
  | [], _ => nil
  | [a], h => by
    have ha := h a (.head _)
    have e : kt [a] = [k1 a] := by show (if a = 10 then [] else [k1 a]) = _; rw [if_neg (sign_10 ha)]
    rw [e]
    exact three [a] _ _ (by simp) (y1 a ha) nil
  | [a, b], h => by
    have ha := h a (.head _)
    have hb := h b (.tail _ (.head _))
    by_cases q : a = 42 ∧ b = 42
    · obtain ⟨rfl, rfl⟩ := q
      exact three [42, 42] _ _ (by simp) y2 nil
    · have e : kt [a, b] = k1 a :: kt [b] := by
        show (if a = 42 ∧ b = 42 then [35] else (if a = 10 then [] else [k1 a]) ++ (if b = 10 then [] else [k1 b])) = k1 a :: (if b = 10 then [] else [k1 b])
        rw [if_neg q, if_neg (sign_10 ha), if_neg (sign_10 hb)]; rfl
      rw [e]
      exact one [a, b] _ _ (by simp) (n2 a b ha hb q) (n2 a b ha hb q) (y1 a ha) (cut_row nil three two one y1 y2 y3 n2 n3 [b] fun c hc => h c (.tail _ hc))
  | a :: b :: c :: r, h => by
    have ha := h a (.head _)
    have hb := h b (.tail _ (.head _))
    have hc := h c (.tail _ (.tail _ (.head _)))
    by_cases q : a = 46 ∧ b = 46 ∧ c = 46
    · obtain ⟨rfl, rfl, rfl⟩ := q
      rw [kt_dot3]
      exact three _ _ _ (by simp) y3 (cut_row nil three two one y1 y2 y3 n2 n3 r fun c hc => h c (.tail _ (.tail _ (.tail _ hc))))
    · by_cases q2 : a = 42 ∧ b = 42
      · obtain ⟨rfl, rfl⟩ := q2
        rw [kt_star2]
        exact two _ _ _ (by simp) (n3 _ _ _ ha hb hc q) y2 (cut_row nil three two one y1 y2 y3 n2 n3 (c :: r) fun c hc => h c (.tail _ (.tail _ hc)))
      · have e : kt (a :: b :: c :: r) = k1 a :: kt (b :: c :: r) := by
          conv => lhs; unfold kt
          rw [if_neg q, if_neg q2, if_neg (sign_10 ha)]; rfl
        rw [e]
        exact one _ _ _ (by simp) (n3 _ _ _ ha hb hc q) (n2 _ _ ha hb q2) (y1 a ha) (cut_row nil three two one y1 y2 y3 n2 n3 (b :: c :: r) fun c hc => h c (.tail _ hc))
end
theorem spl1_front {y h : List Nat} {x : Nat} (e : (spl1 10 y).headD [] = x :: h) : ∃ y', y = x :: y' ∧ (spl1 10 y').headD [] = h := by
  cases y with
  | nil => cases e
  | cons a y =>
    rw [spl1_cons] at e
    split at e
    · cases e
    · obtain ⟨rfl, rfl⟩ := List.cons.inj e
      exact ⟨y, rfl, rfl⟩
theorem spl1_10 (y : List Nat) : spl1 10 (10 :: y) = [] :: spl1 10 y := by rw [spl1_cons, if_pos rfl]
theorem spl1_other {a : Nat} (h : a ≠ 10) (y : List Nat) : spl1 10 (a :: y) = (a :: (spl1 10 y).headD []) :: (spl1 10 y).tail := by rw [spl1_cons, if_neg h]
theorem kt_split (y : List Nat) : (spl1 10 y).flatMap kt = kt ((spl1 10 y).headD []) ++ (spl1 10 y).tail.flatMap kt := by
  conv => lhs; rw [← headD_tail (spl1 10 y) [] (spl1_ne 10 y)]
  rw [List.flatMap_cons]
theorem kt_rows : ∀ n (p : List Nat), p.length ≤ n → (spl1 10 p).flatMap kt = kt p
  | 0, p, h => by
    have : p = [] := List.length_eq_zero_iff.mp (by omega)
    subst this; rfl
  | n + 1, p, h => by
    cases p with
    | nil => rfl
    | cons a y =>
      have hy : y.length ≤ n := by simp only [List.length_cons] at h; omega
      by_cases ha : a = 10
      · subst ha
        rw [spl1_10, kt_lf, List.flatMap_cons, kt_rows n y hy]; rfl
      · by_cases h3 : a = 46 ∧ ∃ r, y = 46 :: 46 :: r
        · obtain ⟨rfl, r, rfl⟩ := h3
          have hr : r.length ≤ n := by simp only [List.length_cons] at hy; omega
          rw [spl1_other (by decide), spl1_other (by decide), spl1_other (by decide), List.flatMap_cons]
          show kt (46 :: 46 :: 46 :: (spl1 10 r).headD []) ++ (spl1 10 r).tail.flatMap kt = _
          rw [kt_dot3, kt_dot3, List.cons_append, ← kt_split, kt_rows n r hr]
        · by_cases h2 : a = 42 ∧ ∃ r, y = 42 :: r
          · obtain ⟨rfl, r, rfl⟩ := h2
            have hr : r.length ≤ n := by simp only [List.length_cons] at hy; omega
            rw [spl1_other (by decide), spl1_other (by decide), List.flatMap_cons]
            show kt (42 :: 42 :: (spl1 10 r).headD []) ++ (spl1 10 r).tail.flatMap kt = _
            rw [kt_star2, kt_star2, List.cons_append, ← kt_split, kt_rows n r hr]
          · rw [spl1_other ha, List.flatMap_cons]
            rw [kt_one ha, kt_one ha, List.cons_append, ← kt_split, kt_rows n y hy]
            · intro q e
              cases y with
              | nil => cases e
              | cons x t =>
                injection e with e; subst e
                exact h2 ⟨q, _, rfl⟩
            · intro q r e; exact h3 ⟨q, r, e⟩
            · intro q e
              cases hh : (spl1 10 y).headD [] with
              | nil => rw [hh] at e; cases e
              | cons x t =>
                rw [hh] at e
                obtain ⟨y', rfl, _⟩ := spl1_front hh
                injection e with e; subst e
                exact h2 ⟨q, y', rfl⟩
            · intro q r e
              obtain ⟨y', rfl, e2⟩ := spl1_front e
              obtain ⟨y'', rfl, _⟩ := spl1_front e2
              exact h3 ⟨q, y'', rfl⟩
theorem row_signs : ∀ {p : List Nat}, Al p → ∀ r ∈ spl1 10 p, ∀ c ∈ r, sign c
  | [], _, r, hr, c, hc => by
    have : r = [] := List.mem_singleton.mp hr
    subst this; cases hc
  | a :: y, h, r, hr, c, hc => by
    have ih := row_signs (p := y) fun c hc => h c (.tail _ hc)
    by_cases ha : a = 10
    · subst ha
      rw [spl1_10] at hr
      rcases List.mem_cons.mp hr with rfl | hr
      · cases hc
      · exact ih r hr c hc
    · rw [spl1_other ha] at hr
      have e := headD_tail (spl1 10 y) [] (spl1_ne 10 y)
      rcases List.mem_cons.mp hr with rfl | hr
      · rcases List.mem_cons.mp hc with rfl | hc
        · exact (h c (.head _)).resolve_left ha
        · exact ih _ (by rw [← e]; exact .head _) c hc
      · exact ih r (by rw [← e]; exact .tail _ hr) c hc
theorem page_rows (k b sh n : Nat) : spl1 10 (page k b sh n) = dots (1 + sh - b) :: spl1 10 ((if n = 0 then [10, 40, 46, 45, 46, 41] else terms k b sh n) ++ [10]) := by
  unfold page
  generalize (if n = 0 then [10, 40, 46, 45, 46, 41] else terms k b sh n) = x
  generalize 1 + sh - b = m
  rw [List.append_assoc, List.append_assoc]
  induction m with
  | zero => exact spl1_10 _
  | succ m ih =>
    have e : dots (m + 1) ++ ([10] ++ (x ++ [10])) = 46 :: (dots m ++ ([10] ++ (x ++ [10]))) := rfl
    rw [e, spl1_other (by decide), ih]
    rfl
theorem row_len (p : List Nat) : ∀ r ∈ spl1 10 p, r.length ≤ p.length := by
  induction p with
  | nil => intro r hr; rw [List.mem_singleton.mp hr]; exact Nat.le_refl _
  | cons a y ih =>
    intro r hr
    rw [spl1_cons] at hr
    have e := headD_tail (spl1 10 y) [] (spl1_ne 10 y)
    split at hr
    · rcases List.mem_cons.mp hr with rfl | hr
      · exact Nat.zero_le _
      · have := ih r hr; simp only [List.length_cons]; omega
    · rcases List.mem_cons.mp hr with rfl | hr
      · have := ih _ (by rw [← e]; exact .head _)
        simp only [List.length_cons]; omega
      · have := ih r (by rw [← e]; exact .tail _ hr)
        simp only [List.length_cons]; omega
theorem kt_len : ∀ n (p : List Nat), p.length ≤ n → (kt p).length ≤ p.length
  | 0, p, h => by
    have : p = [] := List.length_eq_zero_iff.mp (by omega)
    subst this; exact Nat.le_refl _
  | n + 1, p, h => by
    match p with
    | [] => exact Nat.le_refl _
    | [a] => show (if a = 10 then [] else [k1 a]).length ≤ 1; split <;> simp
    | [a, b] =>
      show (if a = 42 ∧ b = 42 then [35] else (if a = 10 then [] else [k1 a]) ++ (if b = 10 then [] else [k1 b])).length ≤ 2
      repeat' split
      all_goals simp
    | a :: b :: c :: r =>
      simp only [List.length_cons] at h
      have h1 := kt_len n r (by omega)
      have h2 := kt_len n (c :: r) (by simp only [List.length_cons]; omega)
      have h3 := kt_len n (b :: c :: r) (by simp only [List.length_cons]; omega)
      simp only [List.length_cons] at h1 h2 h3
      unfold kt
      repeat' split
      all_goals simp only [List.length_cons, List.length_append, List.length_nil]
      all_goals omega
end Mine
end
section
set_option maxRecDepth 100000
namespace Mine
theorem term_len {rec : Nat → List Nat} {b sh p d M : Nat} (hb : b ≤ 7) (hs : sh ≤ 7) (hd : d ≤ 6) (hM : 9 ≤ M) (h : (rec p).length ≤ M) : (term rec b sh p d).length ≤ 19 + M := by
  unfold term dots
  simp only [List.length_append, List.length_cons, List.length_nil, List.length_replicate]
  have : (if p < b then List.replicate (p + 1) 46 ++ [45, 46] else rec p).length ≤ M := by
    split
    · simp only [List.length_append, List.length_cons, List.length_nil, List.length_replicate]; omega
    · exact h
  omega
theorem items_len {rec : Nat → List Nat} {b sh M m : Nat} (h2 : 2 ≤ b) (hb : b ≤ 7) (hs : sh ≤ 7) (hM : 9 ≤ M) (h : ∀ p, p < m → (rec p).length ≤ M) :
    ∀ f n p j, n < 2 ^ j → p + j ≤ m → ((items rec b sh f n p).map List.length).sum + 2 * (items rec b sh f n p).length ≤ j * (21 + M)
  | 0, n, p, j, _, _ => by simp [items]
  | f + 1, n, p, j, hn, hj => by
    unfold items
    by_cases h0 : n = 0
    · rw [if_pos h0]; simp
    · rw [if_neg h0]
      cases j with
      | zero => exact absurd hn (by omega)
      | succ j =>
        have hd : n / b < 2 ^ j := by
          have h3 : n / b ≤ n / 2 := Nat.div_le_div_left h2 (by decide)
          have h4 : 2 ^ (j + 1) = 2 ^ j * 2 := Nat.pow_succ ..
          omega
        have ih := items_len h2 hb hs hM h f (n / b) (p + 1) j hd (by omega)
        have hmod : n % b ≤ 6 := by have := Nat.mod_lt n (show 0 < b by omega); omega
        have ht := term_len (b := b) (sh := sh) (d := n % b) hb hs hmod hM (h p (by omega))
        have e9 : (j + 1) * (21 + M) = j * (21 + M) + (21 + M) := Nat.succ_mul ..
        rw [e9]
        split
        · rw [List.nil_append]; omega
        · simp only [List.singleton_append, List.map_cons, List.sum_cons, List.length_cons]
          omega
theorem glue_len2 (l : List (List Nat)) : (glue l).length ≤ (l.map List.length).sum + 2 * l.length := by
  cases l with
  | nil => simp [glue]
  | cons x r =>
    unfold glue
    rw [List.length_append, List.map_cons, List.sum_cons, List.length_cons]
    have : ∀ r : List (List Nat), (r.flatMap fun y => [43, 10] ++ y).length = (r.map List.length).sum + 2 * r.length := by
      intro r
      induction r with
      | nil => rfl
      | cons y r ih =>
        rw [List.flatMap_cons, List.length_append, ih, List.map_cons, List.sum_cons, List.length_append, List.length_cons]
        simp only [List.length_cons, List.length_nil]; omega
    rw [this]; omega
theorem terms_len (b sh : Nat) (h2 : 2 ≤ b) (hb : b ≤ 7) (hs : sh ≤ 7) {M m k n : Nat} (hM : 9 ≤ M) (h : ∀ p, p < m → (terms k b sh p).length ≤ M) (hn : n < 2 ^ m) : (terms (k + 1) b sh n).length ≤ m * (21 + M) := by
  unfold terms
  exact Nat.le_trans (glue_len2 _) (items_len h2 hb hs hM h n n 0 m hn (by omega))
theorem terms_short (b sh n : Nat) (h2 : 2 ≤ b) (hb : b ≤ 7) (hs : sh ≤ 7) (hn : n < 2 ^ 21) : (terms 5 b sh n).length ≤ 2 ^ 16 := by
  have t0 : ∀ p, p < 1 → (terms 0 b sh p).length ≤ 9 := fun p _ => by simp [terms]
  have t1 : ∀ p, p < 2 → (terms 1 b sh p).length ≤ 30 := fun p hp => terms_len b sh h2 hb hs (m := 1) (by decide) t0 (by omega)
  have t2 : ∀ p, p < 3 → (terms 2 b sh p).length ≤ 102 := fun p hp => terms_len b sh h2 hb hs (m := 2) (by decide) t1 (by omega)
  have t3 : ∀ p, p < 5 → (terms 3 b sh p).length ≤ 369 := fun p hp => terms_len b sh h2 hb hs (m := 3) (by decide) t2 (by omega)
  have t4 : ∀ p, p < 21 → (terms 4 b sh p).length ≤ 1950 := fun p hp => terms_len b sh h2 hb hs (m := 5) (by decide) t3 (by omega)
  exact Nat.le_trans (terms_len b sh h2 hb hs (m := 21) (by decide) t4 hn) (by decide)
theorem page_len (b sh n : Nat) (h2 : 2 ≤ b) (hb : b ≤ 7) (hs : sh ≤ 7) (hn : n < 2 ^ 21) : (page 5 b sh n).length ≤ 2 ^ 16 + 100 := by
  have := terms_short b sh n h2 hb hs hn
  unfold page dots
  simp only [List.length_append, List.length_cons, List.length_nil, List.length_replicate]
  split
  · simp only [List.length_cons, List.length_nil]; omega
  · omega
/-- one case of the rounds -/
noncomputable def good (b n x y d : Nat) : Bool :=
  let stop := b + 1 + x
  let far := stop + 1 + y
  let t0 := bump 5 b far n
  let told := bump 5 b stop n
  let t1 := bump 5 stop far (told - min told (1 + d))
  Nat.blt t0 2097152 && Nat.blt told 2097152 && Nat.blt t1 2097152 && (Nat.beq t0 0 && Nat.beq t1 0 || Nat.blt t1 t0)
theorem all_good : ((List.range 2).all fun u => (List.range ((u + 2) ^ 4)).all fun n => (List.range 2).all fun x => (List.range 2).all fun y => (List.range 4).all fun d => good (u + 2) n x y d) = true := by decide +kernel
theorem rounds {b n x y d : Nat} (hb : b = 2 ∨ b = 3) (hn : n < b ^ 4) (hx : x < 2) (hy : y < 2) (hd : d < 4) :
    bump 5 b (b + 1 + x + 1 + y) n < 2 ^ 21 ∧ bump 5 b (b + 1 + x) n < 2 ^ 21 ∧
    bump 5 (b + 1 + x) (b + 1 + x + 1 + y) (bump 5 b (b + 1 + x) n - min (bump 5 b (b + 1 + x) n) (1 + d)) < 2 ^ 21 ∧
    (bump 5 b (b + 1 + x + 1 + y) n = 0 ∧ bump 5 (b + 1 + x) (b + 1 + x + 1 + y) (bump 5 b (b + 1 + x) n - min (bump 5 b (b + 1 + x) n) (1 + d)) = 0 ∨
     bump 5 (b + 1 + x) (b + 1 + x + 1 + y) (bump 5 b (b + 1 + x) n - min (bump 5 b (b + 1 + x) n) (1 + d)) < bump 5 b (b + 1 + x + 1 + y) n) := by
  have H := all_good
  simp only [List.all_eq_true, List.mem_range] at H
  have g : good b n x y d = true := by
    have := H (b - 2) (by omega)
    rw [show b - 2 + 2 = b from by omega] at this
    exact this n hn x hx y hy d hd
  unfold good at g
  simp only [Bool.and_eq_true, Bool.or_eq_true, Nat.blt_eq] at g
  obtain ⟨⟨⟨g1, g2⟩, g3⟩, g4⟩ := g
  exact ⟨g1, g2, g3, g4.imp (fun q => ⟨Nat.eq_of_beq_eq_true q.1, Nat.eq_of_beq_eq_true q.2⟩) fun q => q⟩
/-- a number in its own base stays -/
theorem sumI_same (rec : Nat → Nat) (b : Nat) (hb : 2 ≤ b) : ∀ f n p, n ≤ f → (∀ q, p ≤ q → 2 ^ (q - p) ≤ n → rec q = q) → sumI rec b b f n p = n * b ^ p
  | 0, n, p, hf, _ => by
    have : n = 0 := by omega
    subst this; simp [sumI]
  | f + 1, n, p, hf, hr => by
    unfold sumI
    by_cases h0 : n = 0
    · rw [if_pos h0, h0]; simp
    · rw [if_neg h0]
      have hlt : n / b ≤ n / 2 := Nat.div_le_div_left hb (by decide)
      rw [sumI_same rec b hb f (n / b) (p + 1) (by omega) fun q hq h2 => hr q (by omega) (by
        have h3 : q - p = (q - (p + 1)) + 1 := by omega
        rw [h3, Nat.pow_succ]
        omega)]
      have hp : rec p = p := hr p (Nat.le_refl _) (by rw [Nat.sub_self]; omega)
      rw [hp, Nat.pow_succ]
      have e : n = n % b + b * (n / b) := (Nat.mod_add_div n b).symm
      have e2 : n * b ^ p = n % b * b ^ p + n / b * (b ^ p * b) := by
        conv => lhs; rw [e, Nat.add_mul]
        congr 1
        rw [Nat.mul_comm b, Nat.mul_assoc, Nat.mul_comm b]
      rw [e2]
      split
      · rename_i hm; rw [hm]; simp
      · rfl
theorem bump_same (b : Nat) (hb : 2 ≤ b) : ∀ k n, n < tow k → bump k b b n = n
  | 0, n, h => by
    have : n = 0 := by unfold tow at h; omega
    subst this; rfl
  | k + 1, n, h => by
    unfold bump
    rw [sumI_same _ b hb n n 0 (Nat.le_refl _) fun q _ h2 => bump_same b hb k q ?_]
    · simp
    · unfold tow at h
      rw [Nat.sub_zero] at h2
      exact (Nat.pow_lt_pow_iff_right (by decide : 1 < 2)).mp (Nat.lt_of_le_of_lt h2 h)
end Mine
end
section
set_option maxRecDepth 100000
namespace Mine
open PySem PySem.W PySem.Calls PyProof.Rows PySem.Builtin PySem.Builtin.Str
section
variable {prog : Program} {w : World} {A : Around} {E : Value → Shared → Prop} {s : Shared} {u : Tok} {h₀ : Heap} {L D : Addr} {m : Str → Option Value} {news : List (Addr × Obj)} {Q : Value → Shared → Prop} {vs : List Value} {cnt k : Nat} {i : Int}
theorem w_lfrom {value slice : Expr} {ops : List Value} (hi : i = (k : Int)) (F : Fr h₀ L s.heap m) (N : News h₀ L s.heap news) (hm : (D, listOf vs.toArray cnt) ∈ news) (hz : vs.length ≤ 1048576)
    (h : ∀ D' h', Fr h₀ L h' m → News h₀ L h' ((D', listOf (vs.drop k).toArray 0) :: news) → (∀ p ∈ news, p.1 < D') → Q (.ref D') { s with heap := h' })
    (hs : subscripted slice false (.ref D) (.ref s.heap.objs.size) = operate ops (getItem (.ref D) (.ref s.heap.objs.size)) := by with_unfolding_all rfl)
    (ht : ∀ r, letTemporaryGo value (.ref D) r = pure () := by intro _; with_unfolding_all rfl) :
    wpAny (model prog w) A (subscriptTail value slice (.ref D) (.ref s.heap.objs.size)) Q E { s with heap := s.heap.push { cls := .type "slice", data := .fields #[.int i u, .none, .none] } } := by
  subst hi
  refine slice_list3 F N (N.isList hm) (.int _ _) .none .none (by simp) (fun h' F' N' => ?_) hs ht (by rw [List.size_toArray, sz]; omega)
  rw [slicePick_from'] at N'
  exact h _ h' F' N' fun p hp => Nat.lt_succ_of_lt (Heap.lt_size (N p hp).1)
theorem w_lupto {value slice : Expr} {ops : List Value} (hi : i = (k : Int)) (F : Fr h₀ L s.heap m) (N : News h₀ L s.heap news) (hm : (D, listOf vs.toArray cnt) ∈ news) (hz : vs.length ≤ 1048576)
    (h : ∀ D' h', Fr h₀ L h' m → News h₀ L h' ((D', listOf (vs.take k).toArray 0) :: news) → (∀ p ∈ news, p.1 < D') → Q (.ref D') { s with heap := h' })
    (hs : subscripted slice false (.ref D) (.ref s.heap.objs.size) = operate ops (getItem (.ref D) (.ref s.heap.objs.size)) := by with_unfolding_all rfl)
    (ht : ∀ r, letTemporaryGo value (.ref D) r = pure () := by intro _; with_unfolding_all rfl) :
    wpAny (model prog w) A (subscriptTail value slice (.ref D) (.ref s.heap.objs.size)) Q E { s with heap := s.heap.push { cls := .type "slice", data := .fields #[.none, .int i u, .none] } } := by
  subst hi
  refine slice_list3 F N (N.isList hm) .none (.int _ _) .none (by simp) (fun h' F' N' => ?_) hs ht (by rw [List.size_toArray, sz]; omega)
  rw [slicePick_upto'] at N'
  exact h _ h' F' N' fun p hp => Nat.lt_succ_of_lt (Heap.lt_size (N p hp).1)
theorem w_addL {D2 : Addr} {c1 c2 : Nat} {us vs : List (Nat × Tok)} (F : Fr h₀ L s.heap m) (N : News h₀ L s.heap news) (ha : (D, listOf (nats us).toArray c1) ∈ news) (hb : (D2, listOf (nats vs).toArray c2) ∈ news) (hz : us.length + vs.length ≤ 1048576)
    (h : ∀ D' h', Fr h₀ L h' m → News h₀ L h' ((D', listOf (nats (us ++ vs)).toArray 0) :: news) → (∀ p ∈ news, p.1 < D') → Q (.ref D') { s with heap := h' }) : wpAny (model prog w) A (binaryOp .Add (.ref D) (.ref D2)) Q E s := by
  have e : (nats us ++ nats vs) = nats (us ++ vs) := by simp [nats]
  refine kmk_add_lit F N (N.isList ha) (N.isList hb) e h (by simp only [List.size_toArray, nats_len, sz]; omega)
end
end Mine
end
section
set_option maxRecDepth 100000
namespace Mine
open PySem PySem.W PySem.Calls PyProof.Rows PySem.Builtin PySem.Builtin.Str
section
variable {C : Ctxt} {f : Addr} {sz : Nat} {vs : List Value} {dp un : Nat} {fr : Option (List Env)} {gd : Option (List Code)} {s : Shared} {Q E : Value → Shared → Prop}
    {h₀ : Heap} {L : Addr} {m : Str → Option Value} {news : List (Addr × Obj)} {pre : Heap → Prop}
theorem con_useIP {x : Int} (H : Con C f sz pre vs (OutInt x)) (F : Fr h₀ L s.heap m) (N : News h₀ L s.heap news) (X : (h0.heap_1 C.w.params).In h₀) (T : TP C.mean C.mg C.mb h₀)
    (hd : dp + sz < recursionLimit) (hu : un + 8 * sz < cLine) (hp : pre s.heap) (ret : ∀ t h' tk', Fr h₀ L h' m → News h₀ L h' news → Q (.int x t) { s with heap := h', toks := tk' }) :
    wpAny (model PG C.w) (AR dp un fr gd) (call (.ref f) vs) Q E s :=
  con_use H F N X T hd hu hp fun _ h' tk' _ F' N' o => by obtain ⟨t, rfl⟩ := o; exact ret t h' tk' F' N'
theorem new_list {h h' : Heap} {D : Addr} {o : Obj} (F : Fr h₀ L h m) (N : News h₀ L h news) (N' : News h₀ L h' news) (e : h.get? D = none) (e' : h'.get? D = some o) :
    News h₀ L h' ((D, o) :: news) := by
  refine List.forall_mem_cons.mpr ⟨⟨e', fun q => ?_, ?_⟩, N'⟩
  · obtain ⟨oL, _, _, hL, _⟩ := F.ns
    have q' : D = L := q
    rw [← q', e] at hL; cases hL
  · cases h0 : h₀.get? D with
    | none => rfl
    | some o' => have := F.keep _ _ h0; rw [e] at this; cases this
theorem con_useK {ks : List Nat} (H : Con C f sz pre vs (OutKinds ks)) (F : Fr h₀ L s.heap m) (N : News h₀ L s.heap news) (X : (h0.heap_1 C.w.params).In h₀) (T : TP C.mean C.mg C.mb h₀)
    (hd : dp + sz < recursionLimit) (hu : un + 8 * sz < cLine) (hp : pre s.heap)
    (ret : ∀ D us cnt h' tk', us.map (·.1) = ks → (∀ p ∈ us, OkT p.2) → Fr h₀ L h' m → News h₀ L h' ((D, listOf (nats us).toArray cnt) :: news) → (∀ p ∈ news, p.1 < D) → Q (.ref D) { s with heap := h', toks := tk' }) :
    wpAny (model PG C.w) (AR dp un fr gd) (call (.ref f) vs) Q E s :=
  con_use H F N X T hd hu hp fun _ h' tk' _ F' N' o => by
    obtain ⟨D, us, cnt, rfl, eD, e, e', hm, ht⟩ := o
    exact ret D us cnt h' tk' hm ht F' (new_list F N N' e e') fun p hp => Nat.lt_of_lt_of_le (Heap.lt_size (N p hp).1) eD
theorem con_useC (H : Con C f sz pre vs OutCells) (F : Fr h₀ L s.heap m) (N : News h₀ L s.heap news) (X : (h0.heap_1 C.w.params).In h₀) (T : TP C.mean C.mg C.mb h₀)
    (hd : dp + sz < recursionLimit) (hu : un + 8 * sz < cLine) (hp : pre s.heap)
    (ret : ∀ D (c0 : Nat) t0 (c1 : Nat) t1 (c2 : Nat) t2 (c3 : Nat) t3 cnt h' tk', c0 < 2 ^ 40 → c1 < 2 ^ 40 → c2 < 2 ^ 40 → c3 < 2 ^ 40 → Fr h₀ L h' m → News h₀ L h' ((D, listOf (nats [(c0, t0), (c1, t1), (c2, t2), (c3, t3)]).toArray cnt) :: news) → Q (.ref D) { s with heap := h', toks := tk' }) :
    wpAny (model PG C.w) (AR dp un fr gd) (call (.ref f) vs) Q E s :=
  con_use H F N X T hd hu hp fun _ h' tk' _ F' N' o => by
    obtain ⟨D, us, cnt, rfl, e, e', hl, hb⟩ := o
    have a := new_list F N N' e e'
    match us, hl, hb with
    | [p0, p1, p2, p3], _, hb =>
      exact ret D p0.1 p0.2 p1.1 p1.2 p2.1 p2.2 p3.1 p3.2 cnt h' tk' (hb _ (.head _)) (hb _ (.tail _ (.head _))) (hb _ (.tail _ (.tail _ (.head _)))) (hb _ (.tail _ (.tail _ (.tail _ (.head _))))) F' a
/-- a contract that wants a floor under the count of tokens -/
noncomputable def ConT (C : Ctxt) (f : Addr) (sz b : Nat) (pre : Heap → Prop) (vs : List Value) (Out : Heap → Value → Heap → Prop) : Prop :=
  ∀ (dp un : Nat) (fr : Option (List Env)) (gd : Option (List Code)) (s : Shared) (Q E : Value → Shared → Prop), b ≤ s.toks →
    (h0.heap_1 C.w.params).In s.heap → TP C.mean C.mg C.mb s.heap → dp + sz < recursionLimit → un + 8 * sz < cLine → pre s.heap →
    (∀ r h' tk', s.heap.StaysIn h' → Out s.heap r h' → Q r { s with heap := h', toks := tk' }) →
    wpAny (model PG C.w) (AR dp un fr gd) (call (.ref f) vs) Q E s
theorem con_defT {b : Nat} {Out : Heap → Value → Heap → Prop}
    {name qual : Str} {params : Arguments} {body : List Stmt} {scope : Scope} {dV kV doc pm cdv ct oc : Value} {an od : Option Addr} {osl : Array (Option Value)} {binds : List (Str × Value)}
    (ho : (h0.heap_1 C.w.params).lookup f = some ⟨oc, od, .func (fnOf name qual params body scope dV kV doc pm an cdv ct), osl⟩) (hcd : codeIn (h0.heap_1 C.w.params) cdv qual = true)
    (hbind : bindArgs (fnOf name qual params body scope dV kV doc pm an cdv ct) ⟨vs, []⟩ = pure binds)
    (hloc : (binds.all fun x => decide (scope.names.lookup x.1 = some .local)) = true)
    (hcell : ∀ x ∈ scope.names, x.2 ≠ .cell) (hco : scope.isCoroutine = false) (hgen : scope.isGenerator = false) (hk : scope.kind = .function)
    (hsz : 0 < sz)
    (h : ∀ (dp un : Nat) (fr : Option (List Env)) (gd : Option (List Code)) (s : Shared) (Q : Value → Shared → Prop) (h₀ h₁ : Heap) (L : Addr) (tk : Nat), b ≤ tk →
      (h0.heap_1 C.w.params).In h₀ → TP C.mean C.mg C.mb h₀ → dp + sz ≤ recursionLimit → un + 8 * sz < cLine + 3 → pre h₀ →
      Fr h₀ L h₁ (fun y => binds.reverse.lookup y) → News h₀ L h₁ [] → h₀.objs.size ≤ L →
      (∀ r h' tk', h₀.StaysIn h' → Out h₀ r h' → Q r { s with heap := h', toks := tk' }) →
      wpAny (model PG C.w) (AR dp un (fr.map (envOf qual scope L f cdv :: ·)) gd) (execs body (envOf qual scope L f cdv))
        (fun fl s' => Q (match fl with | .ret v => v | _ => .none) s') (fun _ _ => False)
        { s with heap := h₁, toks := tk }) :
    ConT C f sz b pre vs Out := by
  intro dp un fr gd s Q E hb X T hd hu hp hret
  refine wpAny_call ?_
  refine codeAny_call_def (fd := fnOf name qual params body scope dV kV doc pm an cdv ct) (body := body) (binds := binds) (by show dp < recursionLimit; omega) (X _ _ ho) rfl T.nolimit (codeRec_of X hcd) rfl (BindsTo.of_eq hbind) hcell (locs hloc) (fun h₁ hns hk₁ => ?_) hco hgen hk
  refine wpAny_mono (h (dp + 1) (un + 3) fr gd s Q s.heap h₁ s.heap.objs.size (s.toks + binds.length) (Nat.le_trans hb (Nat.le_add_right _ _)) X T (by omega) (by omega) hp ⟨hns, hk₁, Nat.le_refl _⟩ News.nil (Nat.le_refl _) hret) (fun _ _ x => x) (fun _ _ x => x.elim)
end
section
variable {prog : Program} {w : World} {A : Around} {E : Value → Shared → Prop} {s : Shared} {t u : Tok} {h₀ : Heap} {L D : Addr} {m : Str → Option Value} {news news' : List (Addr × Obj)} {Q : Value → Shared → Prop} {us : List (Nat × Tok)} {cnt : Nat} {x : Nat} {tx : Tok}
theorem w_getI (j : Nat) {i : Int} {value slice : Expr} (hi : i = (j : Int)) (N : News h₀ L s.heap news) (hm : (D, listOf (nats us).toArray cnt) ∈ news) (hj : us[j]? = some (x, tx)) (hz : j < 2 ^ 62) (h : Q (.int (x : Int) tx) s)
    (hs : subscripted slice false (.ref D) (.int i u) = operate [.ref D, .int i u] (getItem (.ref D) (.int i u)) := by with_unfolding_all rfl) :
    wpAny (model prog w) A (subscriptTail value slice (.ref D) (.int i u)) Q E s := by
  subst hi
  have hL := N.isList hm
  exact tail_any hL.typeIs slot_list_getitem.lookup (wpAny_getItem_list hL (by omega) (by omega) (by rw [Int.toNat_natCast]; exact nats_get hj) h) hs
theorem w_lastE {value slice : Expr} {vs : List (Nat × Tok)} (hv : us = vs ++ [(x, tx)]) (N : News h₀ L s.heap news) (hm : (D, listOf (nats us).toArray cnt) ∈ news) (hz : vs.length ≤ 1048576) (h : Q (.int (x : Int) tx) s)
    (hs : subscripted slice false (.ref D) (.int (-1) u) = operate [.ref D, .int (-1) u] (getItem (.ref D) (.int (-1) u)) := by with_unfolding_all rfl) :
    wpAny (model prog w) A (subscriptTail value slice (.ref D) (.int (-1) u)) Q E s := by
  subst hv
  exact w_lastN N hm hz h hs
theorem w_subN {a b : Nat} (hab : b ≤ a) (h : Q (.int ((a - b : Nat) : Int) s.toks) { s with toks := s.toks + 1 }) : wpAny (model prog w) A (binaryOp .Sub (.int (a : Int) t) (.int (b : Int) u)) Q E s := by
  refine sub_int ?_
  rw [show (a : Int) - (b : Int) = ((a - b : Nat) : Int) from by omega]
  exact h
theorem w_idivB {a b : Nat} (hb : 0 < b) (hz : b < 1073741824) (h : Q (.int ((a / b : Nat) : Int) s.toks) { s with toks := s.toks + 1 }) : wpAny (model prog w) A (binaryOp .FloorDiv (.int (a : Int) t) (.int (b : Int) u)) Q E s := by
  refine floordiv_int (by omega) ?_ (Or.inl (PyProof.noPylong_small (by omega)))
  rw [fdiv_nat]; exact h
theorem w_min {a b : Nat} (hh : A.handled = none) (F : Fr h₀ L s.heap m) (N : News h₀ L s.heap news) (h : ∀ t' h' tk, Fr h₀ L h' m → News h₀ L h' news → Q (.int ((min a b : Nat) : Int) t') { s with heap := h', toks := tk }) :
    wpAny (model prog w) A (call (.builtin "min") [.int (a : Int) t, .int (b : Int) u]) Q E s := by
  refine min_two_N hh F N fun h' tk F' N' => ?_
  have := h (if (b : Int) < a then u else t) h' tk F' N'
  rwa [show (if (b : Int) < (a : Int) then (b : Int) else (a : Int)) = ((min a b : Nat) : Int) from by split <;> omega]
/-- the text of a number -/
noncomputable def istr (a : Int) : Str := Str.ofString (toString a)
theorem w_str {a : Int} (h1 : -1099511627776 < a) (h2 : a < 1099511627776) (h : ∀ t' k, Q (.str (istr a) t') { s with toks := k }) : wpAny (model prog w) A (call (.type "str") [.int a t]) Q E s :=
  P.str_of_int (shown h1 h2 (by decide +kernel)) (h _ _)
theorem w_neStr {a b : Int} (hab : a = b) (h : Q (.bool false) s) : wpAny (model prog w) A (compareOp .NotEq (.str (istr a) t) (.str (istr b) u)) Q E s := by
  subst hab
  refine P.ne_str ?_
  rw [show ((istr a).cps.toList != (istr a).cps.toList) = false from by simp]
  exact h
theorem w_neS {a b : List Nat} (hab : a = b) (h : Q (.bool false) s) : wpAny (model prog w) A (compareOp .NotEq (.str (S a) t) (.str (S b) u)) Q E s := by
  subst hab
  refine P.ne_str ?_
  rw [show ((S a).cps.toList != (S a).cps.toList) = false from by simp]
  exact h
theorem w_isNotB {a b : Bool} (hab : a = b) (h : Q (.bool false) s) : wpAny (model prog w) A (compareOp .IsNot (.bool a) (.bool b)) Q E s := by
  subst hab
  refine wpAny_isNot_plain rfl ?_
  rw [show (!(Value.bool a == Value.bool a)) = false from by simp]
  exact h
theorem w_count {l : List Nat} {y : Str} (sub : List Nat) (hy : y = S sub) (hs : 1 ≤ sub.length) (h : Q (.int (((occL sub l 0 0).length : Nat) : Int) s.toks) { s with toks := s.toks + 1 }) :
    wpAny (model prog w) A (call (.builtin "str.count") [.str (S l) t, .str y u]) Q E s := by
  subst hy
  refine SC.count ?_
  rw [show (Txt.count (S l) (S sub) : Int) = (((occL sub l 0 0).length : Nat) : Int) from by rw [← t_count l sub hs]; rfl]
  exact h
end
end Mine
end
section
set_option maxRecDepth 100000
open PySem PySem.W PySem.Calls PyProof.Rows
set_option Elab.async false
namespace Mine
noncomputable def signs : List Nat := [46, 42, 40, 41, 45, 43]
/-- what the table should say -/
noncomputable def tabW (l : List Nat) : Option Nat :=
  match l with
  | [a] => some (k1 a)
  | [a, b] => if a = 42 ∧ b = 42 then some 35 else none
  | [a, b, c] => if a = 46 ∧ b = 46 ∧ c = 46 then some 52 else none
  | _ => none
noncomputable def chk (o : Option (Option Value)) (k : Option Nat) : Bool :=
  match o, k with
  | some (some (.int i t)), some k => i == (k : Int) && t != 0 && Nat.blt t 726
  | some none, none => true
  | _, _ => false
noncomputable def words : List (List Nat) := (signs.map fun a => [a]) ++ (signs.flatMap fun a => signs.map fun b => [a, b]) ++ (signs.flatMap fun a => signs.flatMap fun b => signs.map fun c => [a, b, c])
set_option maxHeartbeats 0 in
theorem tab_ok (C : Ctxt) : (words.all fun l => chk (lk C l) (tabW l)) = true := by kernel_rfl
theorem tab_at (C : Ctxt) {l : List Nat} (h : l ∈ words) : chk (lk C l) (tabW l) = true := List.all_eq_true.mp (tab_ok C) l h
theorem tab_yes (C : Ctxt) {l : List Nat} {k : Nat} (h : l ∈ words) (e : tabW l = some k) : ∃ t, lk C l = some (some (.int (k : Int) t)) ∧ OkT t := by
  have g := tab_at C h
  rw [e] at g
  unfold chk at g
  split at g
  · rename_i i t k' e1 e2
    cases e2
    simp only [Bool.and_eq_true, beq_iff_eq, bne_iff_ne, Nat.blt_eq] at g
    exact ⟨t, by rw [e1, g.1.1], g.1.2, g.2⟩
  · rename_i e1 e2; cases e2
  · cases g
theorem tab_no (C : Ctxt) {l : List Nat} (h : l ∈ words) (e : tabW l = none) : lk C l = some none := by
  have g := tab_at C h
  rw [e] at g
  unfold chk at g
  split at g
  · rename_i e1 e2; cases e2
  · assumption
  · cases g
theorem mem_signs {a : Nat} (h : sign a) : a ∈ signs := by
  unfold sign at h
  unfold signs
  rcases h with rfl | rfl | rfl | rfl | rfl | rfl <;> decide
theorem mem1 {a : Nat} (h : sign a) : [a] ∈ words :=
  List.mem_append_left _ (List.mem_append_left _ (List.mem_map.mpr ⟨a, mem_signs h, rfl⟩))
theorem mem2 {a b : Nat} (h : sign a) (g : sign b) : [a, b] ∈ words :=
  List.mem_append_left _ (List.mem_append_right _ (List.mem_flatMap.mpr ⟨a, mem_signs h, List.mem_map.mpr ⟨b, mem_signs g, rfl⟩⟩))
theorem mem3 {a b c : Nat} (h : sign a) (g : sign b) (f : sign c) : [a, b, c] ∈ words :=
  List.mem_append_right _ (List.mem_flatMap.mpr ⟨a, mem_signs h, List.mem_flatMap.mpr ⟨b, mem_signs g, List.mem_map.mpr ⟨c, mem_signs f, rfl⟩⟩⟩)
theorem cut_text (C : Ctxt) (l : List Nat) (h : ∀ c ∈ l, sign c) : Cut C l (kt l) := by
  refine cut_row (P := Cut C) (Yes := fun l k => ∃ t, lk C l = some (some (.int (k : Int) t)) ∧ OkT t) (No := fun l => lk C l = some none) .nil ?_ ?_ ?_ ?_ ?_ ?_ ?_ ?_ l h
  · rintro l k ks hl ⟨t, e, ht⟩ hc; exact .three hl e ht hc
  · rintro l k ks hl e1 ⟨t, e, ht⟩ hc; exact .two hl e1 e ht hc
  · rintro l k ks hl e1 e2 ⟨t, e, ht⟩ hc; exact .one hl e1 e2 e ht hc
  · exact fun a ha => tab_yes C (mem1 ha) rfl
  · exact tab_yes C (mem2 (.inr (.inl rfl)) (.inr (.inl rfl))) rfl
  · exact tab_yes C (mem3 (.inl rfl) (.inl rfl) (.inl rfl)) rfl
  · exact fun a b ha hb hn => tab_no C (mem2 ha hb) (if_neg hn)
  · exact fun a b c ha hb hc hn => tab_no C (mem3 ha hb hc) (if_neg hn)
theorem cuts_of (C : Ctxt) : ∀ rs : List (List Nat), (∀ r ∈ rs, ∀ c ∈ r, sign c) → Cuts C rs (rs.flatMap kt)
  | [], _ => .nil
  | r :: rs, h => by
    rw [List.flatMap_cons]
    exact .cons (cut_text C r (h r (.head _))) (cuts_of C rs fun r hr => h r (.tail _ hr))
/-- the body of a page -/
noncomputable def body (k b sh n : Nat) : List Nat := (if n = 0 then [10, 40, 46, 45, 46, 41] else terms k b sh n) ++ [10]
theorem page_split (k b sh n : Nat) : spl1 10 (page k b sh n) = dots (1 + sh - b) :: spl1 10 (body k b sh n) := page_rows k b sh n
theorem al_body (k b sh n : Nat) : ∀ r ∈ spl1 10 (body k b sh n), ∀ c ∈ r, sign c := fun r hr =>
  row_signs (al_page k b sh n) r (by rw [page_split]; exact .tail _ hr)
theorem cuts_tail (C : Ctxt) (k b sh n : Nat) : Cuts C (spl1 10 (body k b sh n)) (kt (body k b sh n)) := by
  have := cuts_of C _ (al_body k b sh n)
  rwa [kt_rows _ _ (Nat.le_refl _)] at this
theorem cuts_head (C : Ctxt) (m : Nat) : Cuts C [dots m] (kt (dots m)) := by
  have := cuts_of C [dots m] fun r hr c hc => by
    rw [List.mem_singleton.mp hr] at hc
    exact .inl (List.mem_replicate.mp hc).2
  rwa [List.flatMap_cons, List.flatMap_nil, List.append_nil] at this
theorem kt_page (k b sh n : Nat) : kt (page k b sh n) = kt (dots (1 + sh - b)) ++ kt (body k b sh n) := by
  rw [← kt_rows _ (page k b sh n) (Nat.le_refl _), page_split, List.flatMap_cons, kt_rows _ _ (Nat.le_refl _)]
end Mine
end
section
set_option maxRecDepth 100000
namespace Mine
open PySem PySem.W PySem.Calls PyProof.Rows PySem.Spec
section
variable {prog : Program} {w : World} {A : Around} {s : Shared} {env : Env} {h₀ : Heap}
/-- a loop that keeps a floor under the count of tokens -/
theorem forLoopT {R : Result → Shared → Prop} {E : Value → Shared → Prop} {x : Str} {px : Pos} {body : List Stmt} {I : Addr} {fp wr : List Addr} {n b : Nat} {P : Nat → Value → Prop} {St : Nat → Heap → Prop} {m : Str → Option Value}
    {news : List (Addr × Obj)} (W : Walks prog w A I fp wr n P St) (hx : env.kindOf x = some .local)
    (hp : (env.scope.kind == .class || (env.scope.kind == .module && env.locals != env.globals)) = false)
    (hLf : env.locals ∉ fp) (hwr : ∀ b ∈ wr, h₀.get? b = none) (hnw : ∀ p ∈ news, p.1 ∉ wr)
    (hst : St 0 s.heap) (F : Fr h₀ env.locals s.heap m) (N : News h₀ env.locals s.heap news) (hb : b ≤ s.toks)
    (J : Nat → (Str → Option Value) → List (Addr × Obj) → Prop) (hfix : ∀ a ∈ fp, a ∈ wr ∨ (∃ o, h₀.get? a = some o) ∨ ∃ o, ∀ i m nx, J i m nx → (a, o) ∈ nx) (h0 : J 0 m news) (hE : ∀ e s', E e s' → notedBy (model prog w) A env (fun e s' => R (.error e) s') e s')
    (step : ∀ i v m₁ news₁ h tk own, b ≤ tk → i < n → P i v → OwnOff own (news.map (·.1)) → J i m₁ news₁ →
      Fr h₀ env.locals h (fun y => if y = x then some v else m₁ y) → News h₀ env.locals h (news₁ ++ own) →
      wpAny (model prog w) A (execs body env) (InvPostN h₀ env.locals (J (i + 1)) own (news.map (·.1)) { s with heap := h, toks := tk } fun f s' => R (.ok f) s') E { s with heap := h, toks := tk })
    (done : ∀ h' tk m' news', b ≤ tk → Fr h₀ env.locals h' m' → News h₀ env.locals h' news' → J n m' news' → R (.ok .next) { s with heap := h', toks := tk }) :
    codeAny (model prog w) A (.forLoop (.Name x px) (.ref I) body [] env) R s := by
  have hLw : env.locals ∉ wr := fun h => hLf (W.sub _ h)
  refine codeAny_forLoop
    (fun k s' => ∃ h' tk m' nx i, s' = { s with heap := h', toks := tk } ∧ b ≤ tk ∧ St i h' ∧ Fr h₀ env.locals h' m' ∧ News h₀ env.locals h' nx ∧ nx.map (·.1) = news.map (·.1) ∧ J i m' nx ∧ i ≤ n ∧ k = n + 1 - i) ?_ (n + 1)
    ⟨s.heap, s.toks, m, news, 0, rfl, hb, hst, F, N, rfl, h0, Nat.zero_le _, rfl⟩
  rintro k s' ⟨h', tk, m', nx, i, rfl, hbk, hst', F', N', hadr, hJ, hi, rfl⟩
  have off : ∀ p ∈ nx, p.1 ∉ wr := fun p hp => by
    have h1 : p.1 ∈ news.map (·.1) := hadr ▸ List.mem_map.mpr ⟨p, hp, rfl⟩
    obtain ⟨q, hq, e⟩ := List.mem_map.mp h1
    exact e ▸ hnw q hq
  have next : ∀ h₁ : Heap, (∀ a o, a ∉ wr → h'.get? a = some o → h₁.get? a = some o) → Fr h₀ env.locals h₁ m' ∧ News h₀ env.locals h₁ nx := fun h₁ hk₁ =>
    ⟨⟨F'.ns.at' fun o e => hk₁ _ o hLw e, fun a o e => hk₁ a o (fun hm => by rw [hwr a hm] at e; cases e) (F'.keep a o e), F'.above⟩,
      fun p hp => ⟨hk₁ _ _ (fun hm => off p hp hm) (N' p hp).1, (N' p hp).2⟩⟩
  by_cases hlt : i < n
  · refine wpAny_toks (W.item i _ _ _ hlt hst' fun v h₁ tk₁ hP hst₁ hk₁ htk => ?_)
    obtain ⟨F₁, N₁⟩ := next h₁ hk₁
    refine wpAny_assign_Name (wpAny_storeName_local hx F₁.ns (fun h₂ hn₂ hs₂ => ?_) hp)
    have F₂ := F₁.set hn₂ hs₂
    have Nown : News h₀ env.locals h₂ (ownOf h₀ wr h₂) := news_ownOf hLw
    have hoff : OwnOff (ownOf h₀ wr h₂) (news.map (·.1)) := fun p hp a ha e => by
      obtain ⟨q, hq, e2⟩ := List.mem_map.mp ha
      exact hnw q hq (e2.symm ▸ e ▸ ownOf_sub p hp)
    have hb1 : b ≤ tk₁ := Nat.le_trans hbk htk
    refine wpAny_toks (wpAny_mono (step i v m' nx h₂ (tk₁ + 1) (ownOf h₀ wr h₂) (Nat.le_succ_of_le hb1) hlt hP hoff hJ F₂ ((N₁.set hs₂).append Nown)) (fun f s₃ h₃ htk3 => ?_) hE)
    have fin : InvEndN h₀ env.locals (J (i + 1)) (ownOf h₀ wr h₂) (news.map (·.1)) { s with heap := h₂, toks := tk₁ + 1 } s₃ → ∃ k', k' < n + 1 - i ∧ ∃ h' tk m' nx i, s₃ = { s with heap := h', toks := tk } ∧ b ≤ tk ∧ St i h' ∧ Fr h₀ env.locals h' m' ∧ News h₀ env.locals h' nx ∧ nx.map (·.1) = news.map (·.1) ∧ J i m' nx ∧ i ≤ n ∧ k' = n + 1 - i := by
      rintro ⟨h₃', tk₃, m₂, news', nx₂, rfl, F₃, N₃, hn, ho, ha, hJ₃⟩
      refine ⟨n + 1 - (i + 1), by omega, h₃', tk₃, m₂, nx₂, i + 1, rfl, Nat.le_trans (Nat.le_succ_of_le hb1) htk3, ?_, F₃, fun p hp => N₃ p (hn p hp), ha, hJ₃, hlt, rfl⟩
      refine W.frame _ _ _ hst₁ fun a hm o e => ?_
      have e₂ : h₂.get? a = some o := (hs₂.2 a fun q => hLf (q ▸ hm)).trans e
      cases hn0 : h₀.get? a with
      | some o₀ =>
        have : o₀ = o := by have := F₂.keep a o₀ hn0; rw [e₂] at this; exact (Option.some.inj this).symm
        exact this ▸ F₃.keep a o₀ hn0
      | none =>
        rcases hfix a hm with hw | ⟨o', e'⟩ | ⟨o', e'⟩
        · exact (N₃ _ (ho _ (mem_ownOf hw hn0 e₂))).1
        · rw [hn0] at e'; cases e'
        · have h1 := (N₁ _ (e' _ _ _ hJ)).1
          rw [e] at h1
          cases h1
          exact (N₃ _ (hn _ (e' _ _ _ hJ₃))).1
    cases f with
    | ret v => exact h₃
    | brk => exact h₃
    | cont => exact fin h₃
    | next => exact fin h₃
  · have hin : i = n := by omega
    subst hin
    refine wpAny_toks (W.done _ _ _ hst' fun h₁ tk₁ hk₁ htk => wpAny_execs_nil ?_)
    obtain ⟨F₁, N₁⟩ := next h₁ hk₁
    exact done h₁ tk₁ m' nx (Nat.le_trans hbk htk) F₁ N₁ hJ
noncomputable def LoopT (b : Nat) (prog : Program) (w : World) (A : Around) (h₀ : Heap) (env : Env) (x : Str) (body : List Stmt) (Q : Flow → Shared → Prop) (E : Value → Shared → Prop) (it : Value) (s : Shared) : Prop :=
  ∃ (I : Addr) (fp wr : List Addr) (n : Nat) (P : Nat → Value → Prop) (St : Nat → Heap → Prop) (m : Str → Option Value) (news : List (Addr × Obj)) (J : Nat → (Str → Option Value) → List (Addr × Obj) → Prop),
    it = .ref I ∧ Walks prog w A I fp wr n P St ∧ env.locals ∉ fp ∧ (∀ b ∈ wr, h₀.get? b = none) ∧ (∀ p ∈ news, p.1 ∉ wr) ∧ St 0 s.heap ∧ Fr h₀ env.locals s.heap m ∧ News h₀ env.locals s.heap news ∧ b ≤ s.toks ∧ (∀ a ∈ fp, a ∈ wr ∨ (∃ o, h₀.get? a = some o) ∨ ∃ o, ∀ i m nx, J i m nx → (a, o) ∈ nx) ∧ J 0 m news ∧
    (∀ i v m₁ news₁ h tk own, b ≤ tk → i < n → P i v → OwnOff own (news.map (·.1)) → J i m₁ news₁ →
      Fr h₀ env.locals h (fun y => if y = x then some v else m₁ y) → News h₀ env.locals h (news₁ ++ own) →
      wpAny (model prog w) A (execs body env) (InvPostN h₀ env.locals (J (i + 1)) own (news.map (·.1)) { s with heap := h, toks := tk } Q) E { s with heap := h, toks := tk }) ∧
    (∀ h' tk m' news', b ≤ tk → Fr h₀ env.locals h' m' → News h₀ env.locals h' news' → J n m' news' → Q .next { s with heap := h', toks := tk })
theorem For_T {E : Value → Shared → Prop} {Q : Flow → Shared → Prop} {x : Str} {px pos : Pos} {iter : Expr} {body : List Stmt} {m : Str → Option Value} (b : Nat) (_F : Fr h₀ env.locals s.heap m) (hb : b ≤ s.toks) (hx : env.kindOf x = some .local)
    (hp : (env.scope.kind == .class || (env.scope.kind == .module && env.locals != env.globals)) = false)
    (h : wpAny (model prog w) A (eval iter env) (fun xv s₁ => b ≤ s₁.toks → wpAny (model prog w) A (pyIter xv) (fun it s₂ => LoopT b prog w A h₀ env x body Q E it s₂) E s₁) E s)
    (hs : ∀ x, foldedSetIterable iter env x = pure x := by intro _; rfl)
    (hE : PassesOwn (model prog w) A env E := by passes_own) :
    wpAny (model prog w) A (exec (.For (.Name x px) iter body [] pos) env) Q E s := by
  refine wpAny_For (wpAny_toks (wpAny_mono h (fun xv s₁ h₁ htk => wpAny_mono (h₁ (Nat.le_trans hb htk)) (fun it s₂ h₂ => ?_) fun _ _ e => e) fun _ _ e => e)) hs
  obtain ⟨I, fp, wr, n, P, St, m, news, J, rfl, W, hLf, hwr, hnw, hst, F, N, hb2, hfix, h0, step, hQ⟩ := h₂
  exact forLoopT (R := fun r s' => match r with | .ok f => Q f s' | .error e => cameBackBy (model prog w) A env E e s') (E := E) W hx hp hLf hwr hnw hst F N hb2 J hfix h0 hE step hQ
/-- the next statement, with a floor under the count of tokens kept -/
theorem execs_consT {E : Value → Shared → Prop} {Q : Flow → Shared → Prop} {st : Stmt} {rest : List Stmt} (b : Nat) (hb : b ≤ s.toks)
    (h : ∀ tk, b ≤ tk → wpAny (model prog w) A (exec st env) (fun f s' => b ≤ s'.toks → match f with | .next => wpAny (model prog w) A (execs rest env) Q E s' | f => Q f s') E { s with toks := tk }) :
    wpAny (model prog w) A (execs (st :: rest) env) Q E s := by
  refine wpAny_execs_cons (wpAny_toks (wpAny_mono (h s.toks hb) (fun f s' h' htk => ?_) fun _ _ e => e))
  exact h' (Nat.le_trans hb htk)
end
section
variable {prog : Program} {w : World} {A : Around} {E : Value → Shared → Prop} {s : Shared} {env : Env} {h₀ : Heap} {x : Str} {body : List Stmt} {Q : Flow → Shared → Prop}
theorem listT {σ : Type} {l : Addr} {vs : List Value} {nn b : Nat} {m₀ : Str → Option Value} (Led : σ → List (Addr × Obj)) (ps : σ → List (Str × Value)) (stored : List Str) (P : Nat → σ → Prop) (c₀ : σ)
    (hh : A.handled = none) (hl : ∀ c : σ, (l, listOf vs.toArray nn) ∈ Led c) (F : Fr h₀ env.locals s.heap m₀) (N : News h₀ env.locals s.heap (Led c₀)) (hb : b ≤ s.toks) (hk : ∀ p ∈ ps c₀, m₀ p.1 = some p.2) (hp : P 0 c₀)
    (turn : ∀ (c : σ) i v (u : Str → Option Value) h tk own, b ≤ tk → vs[i]? = some v → OwnOff own ((Led c₀).map (·.1)) → P i c →
      Fr h₀ env.locals h (fun y => if y = x then some v else kstB (fun z => if stored.contains z then u z else m₀ z) (ps c) y) → News h₀ env.locals h (Led c ++ own) →
      wpAny (model prog w) A (execs body env) (InvPostN h₀ env.locals (ForJ Led ps stored x m₀ P (i + 1)) own ((Led c₀).map (·.1)) { s with heap := h, toks := tk } Q) E { s with heap := h, toks := tk })
    (done : ∀ (c : σ) (u : Str → Option Value) h tk, b ≤ tk → P vs.length c → Fr h₀ env.locals h (fun y => if y = x then u y else kstB (fun z => if stored.contains z then u z else m₀ z) (ps c) y) → News h₀ env.locals h (Led c) → Q .next { s with heap := h, toks := tk }) :
    wpAny (model prog w) A (pyIter (.ref l)) (fun it s₂ => LoopT b prog w A h₀ env x body Q E it s₂) E s := by
  have hls : s.heap.IsList l vs.toArray := N.isList (hl c₀)
  have hne : l ≠ s.heap.objs.size := Nat.ne_of_lt (Heap.lt_size (N _ (hl c₀)).1)
  refine wpAny_pyIter_list hls ?_
  have W := Walks.list (prog := prog) (w := w) hh s.heap.objs.size l hne vs.toArray
  have hsz : vs.toArray.size = vs.length := List.size_toArray
  rw [hsz] at W
  refine ⟨_, _, _, vs.length, _, _, m₀, Led c₀, ForJ Led ps stored x m₀ P, rfl, W, ?_, ?_, ?_, ⟨⟨_, Heap.get?_push_size _ rfl, rfl, rfl⟩, hls.at fun o e => Heap.get?_push_of_some _ e⟩, F.push _, fun p hp => ⟨Heap.get?_push_of_some _ (N p hp).1, (N p hp).2⟩, hb, ?_, ⟨c₀, rfl, hk, fun _ _ _ _ => rfl, hp⟩, ?_, ?_⟩
  · intro hm
    rcases List.mem_cons.mp hm with e | hm
    · exact absurd F.ns.lt (e ▸ Nat.lt_irrefl _)
    · exact (N _ (hl c₀)).2.1 ((List.mem_singleton.mp hm).symm)
  · intro a ha
    rw [List.mem_singleton.mp ha]
    exact next_is_new F
  · intro p hp hI
    exact absurd (Heap.lt_size (N p hp).1) ((List.mem_singleton.mp hI) ▸ Nat.lt_irrefl _)
  · intro a ha
    rcases List.mem_cons.mp ha with e | ha
    · exact .inl (e ▸ .head _)
    · rw [List.mem_singleton.mp ha]
      refine .inr (.inr ⟨listOf vs.toArray nn, ?_⟩)
      rintro i m nx ⟨c, rfl, _⟩
      exact hl c
  · rintro i v m₁ nx h tk own hb' hi hv hoff ⟨c, rfl, h1, h2, hp'⟩ F₁ N₁
    exact turn c i v m₁ h tk own hb' (by simpa using hv) hoff hp' (kst_fr h1 h2 F₁) N₁
  · rintro h tk m₁ nx hb' F₁ N₁ ⟨c, rfl, h1, h2, hp'⟩
    exact done c m₁ h tk hb' hp' (kst_frOut h1 h2 F₁) N₁
theorem rangeT {σ : Type} {r : Addr} {a₀ b₀ : Int} {t₀ u₀ v₀ : Tok} {n b : Nat} {m₀ : Str → Option Value} (Led : σ → List (Addr × Obj)) (ps : σ → List (Str × Value)) (stored : List Str) (P : Nat → σ → Prop) (c₀ : σ)
    (hh : A.handled = none) (hr : IsRange s.heap r a₀ b₀ 1 t₀ u₀ v₀) (hsmall : Builtin.Range.small a₀ b₀ 1 = true) (hn : Builtin.Range.rangeSize a₀ b₀ 1 = (n : Int)) (F : Fr h₀ env.locals s.heap m₀) (N : News h₀ env.locals s.heap (Led c₀)) (hb : b ≤ s.toks) (hk : ∀ p ∈ ps c₀, m₀ p.1 = some p.2) (hp : P 0 c₀)
    (turn : ∀ (c : σ) i t (u : Str → Option Value) h tk own, b ≤ tk → i < n → OwnOff own ((Led c₀).map (·.1)) → P i c →
      Fr h₀ env.locals h (fun y => if y = x then some (.int (a₀ + (i : Int)) t) else kstB (fun z => if stored.contains z then u z else m₀ z) (ps c) y) → News h₀ env.locals h (Led c ++ own) →
      wpAny (model prog w) A (execs body env) (InvPostN h₀ env.locals (ForJ Led ps stored x m₀ P (i + 1)) own ((Led c₀).map (·.1)) { s with heap := h, toks := tk } Q) E { s with heap := h, toks := tk })
    (done : ∀ (c : σ) (u : Str → Option Value) h tk, b ≤ tk → P n c → Fr h₀ env.locals h (fun y => if y = x then u y else kstB (fun z => if stored.contains z then u z else m₀ z) (ps c) y) → News h₀ env.locals h (Led c) → Q .next { s with heap := h, toks := tk }) :
    wpAny (model prog w) A (pyIter (.ref r)) (fun it s₂ => LoopT b prog w A h₀ env x body Q E it s₂) E s := by
  refine wpAny_pyIter_range hr hsmall ?_
  have W : Walks prog w A s.heap.objs.size [s.heap.objs.size] [s.heap.objs.size] n (fun i v => ∃ t, v = .int (a₀ + i * 1) t)
      (fun i h => IsRangeIter h s.heap.objs.size (a₀ + (i : Nat) * 1) ((n : Int) - (i : Nat)) 1) := Walks.range hh _ a₀ 1 n
  refine ⟨_, _, _, n, _, _, m₀, Led c₀, ForJ Led ps stored x m₀ P, rfl, W, ?_, ?_, ?_, (by show IsRangeIter _ _ _ _ _; rw [hn]; simpa using Heap.get?_push_size _ rfl), F.push _, fun p hp => ⟨Heap.get?_push_of_some _ (N p hp).1, (N p hp).2⟩, hb, ?_, ⟨c₀, rfl, hk, fun _ _ _ _ => rfl, hp⟩, ?_, ?_⟩
  · intro hm
    exact absurd F.ns.lt ((List.mem_singleton.mp hm) ▸ Nat.lt_irrefl _)
  · intro a ha
    rw [List.mem_singleton.mp ha]
    exact next_is_new F
  · intro p hp hI
    exact absurd (Heap.lt_size (N p hp).1) ((List.mem_singleton.mp hI) ▸ Nat.lt_irrefl _)
  · exact fun a ha => .inl ha
  · rintro i v m₁ nx h tk own hb' hi ⟨t, rfl⟩ hoff ⟨c, rfl, h1, h2, hp'⟩ F₁ N₁
    have e1 : a₀ + (i : Int) * 1 = a₀ + (i : Int) := by omega
    rw [e1] at F₁
    exact turn c i t m₁ h tk own hb' hi hoff hp' (kst_fr h1 h2 F₁) N₁
  · rintro h tk m₁ nx hb' F₁ N₁ ⟨c, rfl, h1, h2, hp'⟩
    exact done c m₁ h tk hb' hp' (kst_frOut h1 h2 F₁) N₁
end
end Mine
end
section
set_option maxRecDepth 100000
namespace Mine
open PySem PySem.W PySem.Calls PyProof.Rows PySem.Builtin PySem.Builtin.Str
theorem tow5 {n : Nat} (h : n < 2 ^ 21) : n < tow 5 := by
  refine Nat.lt_of_lt_of_le h ?_
  show 2 ^ 21 ≤ 2 ^ tow 4
  exact Nat.pow_le_pow_right (by decide) (by decide)
section
variable {C : Ctxt} {b sh n : Nat} {t u v : Tok}
theorem page_con (h2 : 2 ≤ b) (hb : b ≤ sh) (hs : sh ≤ 7) (hn : n < 2 ^ 21) : Con C 121 7 Any [.int (n : Int) t, .int (b : Int) u, .int (sh : Int) v] (OutStr (S (page 5 b sh n))) :=
  c_page C b sh 4 n t u v h2 hb (by omega) (tow5 hn) (Nat.le_trans (terms_short b sh n h2 (by omega) hs hn) (by decide))
theorem bump_con (h2 : 2 ≤ b) (hb : b ≤ sh) (hs : sh ≤ 7) (hn : n < 2 ^ 21) (hl : bump 5 b sh n < 2 ^ 21) : Con C 135 6 Any [.int (n : Int) t, .int (b : Int) u, .int (sh : Int) v] (OutInt ((bump 5 b sh n : Nat) : Int)) :=
  c_bump C b sh h2 (by omega) (by omega) (by omega) 5 n t u v (tow5 hn) (Nat.lt_trans hl (by decide))
theorem body_len (h2 : 2 ≤ b) (hb : b ≤ sh) (hs : sh ≤ 7) (hn : n < 2 ^ 21) : (body 5 b sh n).length ≤ 2 ^ 17 := by
  have := terms_short b sh n h2 (by omega) hs hn
  unfold body
  rw [List.length_append]
  split <;> simp only [List.length_cons, List.length_nil] <;> omega
theorem typed_con (h2 : 2 ≤ b) (hb : b ≤ sh) (hs : sh ≤ 7) (hn : n < 2 ^ 21) {turn : Nat} (ht : turn < 2 ^ 40) : Con C 128 1 Any [.str (S (page 5 b sh n)) t, .int (turn : Int) u] (OutStr (S (typed (page 5 b sh n) turn))) :=
  c_typed C (page 5 b sh n) turn t u (Nat.le_trans (page_len b sh n h2 (by omega) hs hn) (by decide)) (Nat.lt_trans ht (by decide))
variable {ts : List (List Nat × Tok)} {us : List (Nat × Tok)} {D : Addr}
theorem txts_take (k : Nat) : (txts ts).take k = txts (ts.take k) := by simp [txts, strValues, List.map_take]
theorem txts_drop (k : Nat) : (txts ts).drop k = txts (ts.drop k) := by simp [txts, strValues, List.map_drop]
theorem kinds_head (h2 : 2 ≤ b) (hb : b ≤ sh) (hs : sh ≤ 7) (ht : ts.map (·.1) = spl1 10 (page 5 b sh n)) : Con C 142 1 (fun h => h.IsList D ((txts ts).take 1).toArray) [.ref D] (OutKinds (kt (dots (1 + sh - b)))) := by
  rw [txts_take]
  have e : (ts.take 1).map (·.1) = [dots (1 + sh - b)] := by rw [List.map_take, ht, page_split]; rfl
  refine c_kinds C (ts.take 1) D _ (by rw [e]; exact cuts_head C _) (fun r hr => ?_) ?_
  · have : r.1 ∈ (ts.take 1).map (·.1) := List.mem_map.mpr ⟨r, hr, rfl⟩
    rw [e] at this
    rw [List.mem_singleton.mp this]
    simp only [dots, List.length_replicate]; omega
  · refine Nat.le_trans (kt_len _ _ (Nat.le_refl _)) ?_
    simp only [dots, List.length_replicate]; omega
theorem kinds_tail (h2 : 2 ≤ b) (hb : b ≤ sh) (hs : sh ≤ 7) (hn : n < 2 ^ 21) (ht : ts.map (·.1) = spl1 10 (page 5 b sh n)) : Con C 142 1 (fun h => h.IsList D ((txts ts).drop 1).toArray) [.ref D] (OutKinds (kt (body 5 b sh n))) := by
  rw [txts_drop]
  have e : (ts.drop 1).map (·.1) = spl1 10 (body 5 b sh n) := by rw [List.map_drop, ht, page_split]; rfl
  have hl := body_len (n := n) h2 hb hs hn
  refine c_kinds C (ts.drop 1) D _ (by rw [e]; exact cuts_tail C _ _ _ _) (fun r hr => ?_) ?_
  · have : r.1 ∈ (ts.drop 1).map (·.1) := List.mem_map.mpr ⟨r, hr, rfl⟩
    rw [e] at this
    exact Nat.le_trans (row_len _ _ this) hl
  · exact Nat.le_trans (kt_len _ _ (Nat.le_refl _)) hl
theorem worth_head (h2 : 2 ≤ b) (hb : b ≤ sh) (hs : sh ≤ 7) (hm : us.map (·.1) = kt (dots (1 + sh - b))) : Con C 156 10 (fun h => h.IsList D (nats us).toArray) [.ref D] (OutInt ((1 + sh - b : Nat) : Int)) := by
  refine c_worth C us D _ 0 (by rw [hm]; exact worth_dots _ (by omega)) ?_
  have : us.length = (us.map (·.1)).length := by rw [List.length_map]
  rw [this, hm]
  refine Nat.le_trans (kt_len _ _ (Nat.le_refl _)) ?_
  simp only [dots, List.length_replicate]; omega
theorem worth_tail (h2 : 2 ≤ b) (hb : b ≤ sh) (hs : sh ≤ 7) (hn : n < 2 ^ 21) (hl : bump 5 b sh n < 2 ^ 21) (hm : us.map (·.1) = kt (body 5 b sh n)) : Con C 156 10 (fun h => h.IsList D (nats us).toArray) [.ref D] (OutInt ((bump 5 b sh n : Nat) : Int)) := by
  refine c_worth C us D _ 0 (by rw [hm]; exact worth_terms b sh 5 n h2 (by omega) (by omega) (tow5 hn) (Nat.lt_trans hl (by decide))) ?_
  have : us.length = (us.map (·.1)).length := by rw [List.length_map]
  rw [this, hm]
  exact Nat.le_trans (kt_len _ _ (Nat.le_refl _)) (body_len h2 hb hs hn)
theorem count_con {l : List Nat} {c : Nat} (hm : us.map (·.1) = kt l) (ht : ∀ p ∈ us, OkT p.2) (hv : 726 ≤ v) (hl : l.length ≤ 2 ^ 18) (hc : smallInt (c : Int) = true) : Con C 90 1 (fun h => h.IsList D (nats us).toArray) [.ref D, .int (c : Int) v] (OutInt (((kt l).count c : Nat) : Int)) := by
  have := c_count C us c v D (by intro e; rw [e] at hv; exact absurd hv (by decide)) (fun p hp => ⟨(ht p hp).1, fun e => by have h1 := (ht p hp).2; rw [e] at h1; exact absurd hv (Nat.not_le_of_lt h1)⟩) (by
    have e : us.length = (us.map (·.1)).length := by rw [List.length_map]
    rw [e, hm]
    exact Nat.le_trans (kt_len _ _ (Nat.le_refl _)) hl) hc
  rwa [hm] at this
theorem quote_con {l : List Nat} (h2 : 2 ≤ b) (hb : b ≤ sh) (hs : sh ≤ 6) (hl : l.length ≤ 2 ^ 18) (hf : fx l = crlf (page 5 b sh n)) : Con C 48 1 Any [.str (S l) t] (OutStr (S (crlf (page 5 b (sh + 1) n)))) := by
  have := c_quote C l t hl
  rwa [hf, quote_page 5 b sh n hb (by omega)] at this
theorem fix_con {turn : Nat} (hl : (typed (page 5 b sh n) turn).length ≤ 2 ^ 18) : Con C 55 1 Any [.str (S (typed (page 5 b sh n) turn)) t] (OutStr (S (crlf (page 5 b sh n)))) := by
  have := c_fix C _ t hl
  rwa [fx_typed turn (al_13 (al_page 5 b sh n))] at this
end
section
variable {prog : Program} {w : World} {A : Around} {E : Value → Shared → Prop} {s : Shared} {t u : Tok} {Q : Value → Shared → Prop} {l : List Nat}
theorem w_count3 (h : Q (.int (((kt l).count 52 : Nat) : Int) s.toks) { s with toks := s.toks + 1 }) :
    wpAny (model prog w) A (call (.builtin "str.count") [.str (S l) t, .str (Str.ofString "...") u]) Q E s :=
  w_count [46, 46, 46] l_dots (by decide) (by rw [count3]; exact h)
theorem w_count1 (h : Q (.int (((kt l).count 23 + 3 * (kt l).count 52 : Nat) : Int) s.toks) { s with toks := s.toks + 1 }) :
    wpAny (model prog w) A (call (.builtin "str.count") [.str (S l) t, .str (Str.ofString ".") u]) Q E s :=
  w_count [46] l_dot (by decide) (by rw [count1]; exact h)
end
theorem crlf_len : ∀ l : List Nat, (crlf l).length ≤ 2 * l.length
  | [] => Nat.le_refl _
  | a :: r => by
    have := crlf_len r
    rw [crlf_cons]
    split <;> simp only [List.length_cons] <;> omega
end Mine
end
section
set_option maxRecDepth 100000
namespace Mine
open PySem PySem.W PySem.Calls PyProof.Rows PySem.Builtin PySem.Builtin.Str
section
variable {prog : Program} {w : World} {A : Around} {E : Value → Shared → Prop} {s : Shared} {h₀ : Heap} {L D1 D2 : Addr} {m : Str → Option Value} {news : List (Addr × Obj)} {Q : Value → Shared → Prop}
theorem w_neTup {o1 o2 : Obj} {a b a' b' : Int} {t1 t2 u1 u2 : Tok} {n1 n2 : Nat} (N : News h₀ L s.heap news) (hm : (D1, o1) ∈ news) (hc : o1.cls = .type "tuple") (hd : o1.data = .seq #[.int a t1, .int b t2] n1)
    (hm2 : (D2, o2) ∈ news) (hc2 : o2.cls = .type "tuple") (hd2 : o2.data = .seq #[.int a' u1, .int b' u2] n2) (hu : A.units < cLine) (e1 : a = a') (e2 : b = b') (h : Q (.bool false) s) :
    wpAny (model prog w) A (compareOp .NotEq (.ref D1) (.ref D2)) Q E s := by
  subst e1; subst e2
  have h1 : s.heap.IsTuple D1 #[.int a t1, .int b t2] := ⟨o1, (N _ hm).1, hc, n1, hd⟩
  have h2 : s.heap.IsTuple D2 #[.int a u1, .int b u2] := ⟨o2, (N _ hm2).1, hc2, n2, hd2⟩
  refine SeqAt.RcNeAt.tuples (e := fun _ => true) h1 h2 hu (fun j hj1 hj2 => ?_) prog w E Q ?_
  · match j, hj1 with
    | 0, _ => 
      have := SeqAt.EqAt.int_int (A := A.in1) (s := s) a t1 a u1
      rw [beq_self_eq_true] at this
      exact this
    | 1, _ =>
      have := SeqAt.EqAt.int_int (A := A.in1) (s := s) b t2 b u2
      rw [beq_self_eq_true] at this
      exact this
  · exact h
end
section
variable {prog : Program} {w : World} {A : Around} {E : Value → Shared → Prop} {s : Shared} {t u : Tok} {a b : Nat} {Q : Value → Shared → Prop}
theorem l_mod2 (h : Q (.int ((a % 2 : Nat) : Int) s.toks) { s with toks := s.toks + 1 }) : wpAny (model prog w) A (binaryOp .Mod (.int (a : Int) t) (.int 2 u)) Q E s := w_mod (b := 2) (by decide) h
theorem l_mod4 (h : Q (.int ((a % 4 : Nat) : Int) s.toks) { s with toks := s.toks + 1 }) : wpAny (model prog w) A (binaryOp .Mod (.int (a : Int) t) (.int 4 u)) Q E s := w_mod (b := 4) (by decide) h
theorem l_div2 (h : Q (.int ((a / 2 : Nat) : Int) s.toks) { s with toks := s.toks + 1 }) : wpAny (model prog w) A (binaryOp .FloorDiv (.int (a : Int) t) (.int 2 u)) Q E s := w_idivB (b := 2) (by decide) (by decide) h
theorem l_2add (h : Q (.int ((2 + b : Nat) : Int) s.toks) { s with toks := s.toks + 1 }) : wpAny (model prog w) A (binaryOp .Add (.int 2 t) (.int (b : Int) u)) Q E s := w_addN (a := 2) h
theorem l_1add (h : Q (.int ((1 + b : Nat) : Int) s.toks) { s with toks := s.toks + 1 }) : wpAny (model prog w) A (binaryOp .Add (.int 1 t) (.int (b : Int) u)) Q E s := w_addN (a := 1) h
theorem l_add2 (h : Q (.int ((a + 2 : Nat) : Int) s.toks) { s with toks := s.toks + 1 }) : wpAny (model prog w) A (binaryOp .Add (.int (a : Int) t) (.int 2 u)) Q E s := w_addN (b := 2) h
theorem l_pow4 (ha : a < 1099511627776) (h : Q (.int ((a ^ 4 : Nat) : Int) s.toks) { s with toks := s.toks + 1 }) : wpAny (model prog w) A (binaryOp .Pow (.int (a : Int) t) (.int 4 u)) Q E s := w_pow (b := 4) ha (by decide) h
theorem l_3mul (h : Q (.int ((3 * b : Nat) : Int) s.toks) { s with toks := s.toks + 1 }) : wpAny (model prog w) A (binaryOp .Mult (.int 3 t) (.int (b : Int) u)) Q E s := w_mulN (a := 3) (by decide) h
theorem pow4_pos {a : Nat} (h : 2 ≤ a) : 0 < a ^ 4 := Nat.pow_pos (by omega)
end
end Mine
end
section
set_option maxRecDepth 100000
namespace Mine
/-- what a round needs: its base, its number, its cell, the far base -/
structure Rd (b n c far : Nat) : Prop where
  b2 : 2 ≤ b
  sf : b + 1 + c % 2 ≤ far
  f7 : far ≤ 7
  n21 : n < 2 ^ 21
  tf : bump 5 b far n < 2 ^ 21
  ts : bump 5 b (b + 1 + c % 2) n < 2 ^ 21
  cc : c < 2 ^ 40
noncomputable def nxtN (b n c : Nat) : Nat := bump 5 b (b + 1 + c % 2) n - min (bump 5 b (b + 1 + c % 2) n) (1 + c / 2 % 4)
theorem two_rounds (c0 c1 c2 c3 : Nat) (h2 : c2 < 2 ^ 40) (h3 : c3 < 2 ^ 40) :
    ∃ (far : Nat) (B N : Nat → Nat) (T : Nat → List Nat) (t0 t1 : Nat), far = 2 + c0 % 2 + 2 + c2 % 2 + c3 % 2 ∧ B 0 = 2 + c0 % 2 ∧ N 0 = c1 % (2 + c0 % 2) ^ 4 ∧ T 0 = [] ∧
      (∀ i c, [c2, c3][i]? = some c → Rd (B i) (N i) c far ∧ B (i + 1) = B i + 1 + c % 2 ∧ N (i + 1) = nxtN (B i) (N i) c ∧ T (i + 1) = T i ++ [bump 5 (B i) far (N i)]) ∧
      B 2 = far ∧ T 2 = [t0, t1] ∧ N 2 < 2 ^ 21 ∧ t0 < 2 ^ 21 ∧ t1 < 2 ^ 21 ∧ (t0 = 0 ∧ t1 = 0 ∨ t1 < t0) ∧ (t1 = 0 ∧ N 2 = 0 ∨ N 2 < t1) ∧ (∀ i, (T i).length ≤ 2) := by
  have e7 : ∀ b x y : Nat, b + 2 + x + y = b + 1 + x + 1 + y := by omega
  rw [e7]
  have hb : 2 + c0 % 2 = 2 ∨ 2 + c0 % 2 = 3 := by omega
  have hn : c1 % (2 + c0 % 2) ^ 4 < (2 + c0 % 2) ^ 4 := Nat.mod_lt _ (pow4_pos (by omega))
  generalize 2 + c0 % 2 = b at *
  have hn21 : c1 % b ^ 4 < 2 ^ 21 := Nat.lt_trans hn (by rcases hb with rfl | rfl <;> decide)
  generalize c1 % b ^ 4 = n at *
  have hx : c2 % 2 < 2 := Nat.mod_lt _ (by decide)
  have hy : c3 % 2 < 2 := Nat.mod_lt _ (by decide)
  have hd : c2 / 2 % 4 < 4 := Nat.mod_lt _ (by decide)
  obtain ⟨g1, g2, g3, g4⟩ := rounds hb hn hx hy hd
  have hb1 : b + 1 + c2 % 2 + 1 + c3 % 2 ≤ 7 := by omega
  have hmin : nxtN b n c2 < 2 ^ 21 := Nat.lt_of_le_of_lt (Nat.sub_le _ _) g2
  generalize hfar : b + 1 + c2 % 2 + 1 + c3 % 2 = far at *
  change bump 5 (b + 1 + c2 % 2) far (nxtN b n c2) < 2 ^ 21 at g3
  change bump 5 b far n = 0 ∧ bump 5 (b + 1 + c2 % 2) far (nxtN b n c2) = 0 ∨ bump 5 (b + 1 + c2 % 2) far (nxtN b n c2) < bump 5 b far n at g4
  have e2 : nxtN (b + 1 + c2 % 2) (nxtN b n c2) c3 = bump 5 (b + 1 + c2 % 2) far (nxtN b n c2) - min (bump 5 (b + 1 + c2 % 2) far (nxtN b n c2)) (1 + c3 / 2 % 4) := by
    unfold nxtN
    rw [hfar]
  refine ⟨far, fun i => if i = 0 then b else if i = 1 then b + 1 + c2 % 2 else far, fun i => if i = 0 then n else if i = 1 then nxtN b n c2 else nxtN (b + 1 + c2 % 2) (nxtN b n c2) c3,
    fun i => if i = 0 then [] else if i = 1 then [bump 5 b far n] else [bump 5 b far n, bump 5 (b + 1 + c2 % 2) far (nxtN b n c2)], bump 5 b far n, bump 5 (b + 1 + c2 % 2) far (nxtN b n c2), rfl, rfl, rfl, rfl, ?_, rfl, rfl, ?_, g1, g3, g4, ?_, ?_⟩
  · intro i c hc
    match i with
    | 0 =>
      cases hc
      exact ⟨⟨by show 2 ≤ b; omega, by show b + 1 + c2 % 2 ≤ far; omega, hb1, hn21, g1, g2, h2⟩, rfl, rfl, rfl⟩
    | 1 =>
      cases hc
      refine ⟨⟨by show 2 ≤ b + 1 + c2 % 2; omega, by show b + 1 + c2 % 2 + 1 + c3 % 2 ≤ far; omega, hb1, hmin, g3, ?_, h3⟩, hfar.symm, rfl, rfl⟩
      show bump 5 (b + 1 + c2 % 2) (b + 1 + c2 % 2 + 1 + c3 % 2) (nxtN b n c2) < 2 ^ 21
      rw [hfar]; exact g3
    | i + 2 => cases hc
  · show nxtN (b + 1 + c2 % 2) (nxtN b n c2) c3 < 2 ^ 21
    rw [e2]
    exact Nat.lt_of_le_of_lt (Nat.sub_le _ _) g3
  · show _ ∧ nxtN (b + 1 + c2 % 2) (nxtN b n c2) c3 = 0 ∨ nxtN (b + 1 + c2 % 2) (nxtN b n c2) c3 < _
    rw [e2]
    generalize bump 5 (b + 1 + c2 % 2) far (nxtN b n c2) = t
    omega
  · intro i
    dsimp only
    split
    · exact Nat.zero_le _
    · split <;> simp
section
open PySem PySem.W PySem.Calls PyProof.Rows
variable {C : Ctxt} {us : List (Nat × Tok)} {D : Addr} {l : List Nat} {v : Tok}
theorem count52 (hm : us.map (·.1) = kt l) (ht : ∀ p ∈ us, OkT p.2) (hv : 726 ≤ v) (hl : l.length ≤ 2 ^ 18) : Con C 90 1 (fun h => h.IsList D (nats us).toArray) [.ref D, .int 52 v] (OutInt (((kt l).count 52 : Nat) : Int)) := count_con (c := 52) hm ht hv hl (by decide)
theorem count23 (hm : us.map (·.1) = kt l) (ht : ∀ p ∈ us, OkT p.2) (hv : 726 ≤ v) (hl : l.length ≤ 2 ^ 18) : Con C 90 1 (fun h => h.IsList D (nats us).toArray) [.ref D, .int 23 v] (OutInt (((kt l).count 23 : Nat) : Int)) := count_con (c := 23) hm ht hv hl (by decide)
end
section
open PySem PySem.W PySem.Builtin PySem.Builtin.Str PySem.StrLaws
theorem allLt_ne {d : Addr} : ∀ {l : List (Addr × Obj)}, AllLt d l → ∀ p ∈ l, p.1 ≠ d
  | [], _, p, hp => by cases hp
  | q :: l, h, p, hp => by
    rcases List.mem_cons.mp hp with rfl | hp
    · exact Nat.ne_of_lt h.1
    · exact allLt_ne h.2 p hp
theorem w_replaceT {prog : Program} {w : World} {A : Around} {E : Value → Shared → Prop} {s : Shared} {t : Tok} {u : Nat} {l : List Nat} {Q : Value → Shared → Prop} (hu : 726 ≤ u) (hl : l.length ≤ 1048576) (h : ∀ t' k, Q (.str (S (crlf l)) t') { s with toks := k }) :
    wpAny (model prog w) A (call (.builtin "str.replace") [.str (S l) t, .str (Str.ofString "\n") u, .str (Str.ofString "\r\n") (u + 1)]) Q E s :=
  w_replace (by intro e; rw [e] at hu; exact absurd hu (by decide)) (Nat.succ_ne_zero u) (Nat.ne_of_lt (Nat.lt_succ_self u)) hl h
theorem rows_fit {ts : List (List Nat × Tok)} {p : List Nat} (h : ts.map (·.1) = spl1 10 p) (hl : p.length ≤ 2 ^ 18) : (txts ts).length ≤ 1048576 := by
  have h1 := spl1_len 10 p
  have h2 := congrArg List.length h
  rw [List.length_map] at h2
  rw [txts_len]
  omega
theorem con_useIT {C : Ctxt} {f : Addr} {sz : Nat} {vs : List Value} {dp un : Nat} {fr : Option (List Env)} {gd : Option (List Code)} {s : Shared} {Q E : Value → Shared → Prop}
    {h₀ : Heap} {L : Addr} {m : Str → Option Value} {news : List (Addr × Obj)} {pre : Heap → Prop} {x : Int} (b : Nat) (hb : b ≤ s.toks) (H : Con C f sz pre vs (OutInt x)) (F : PyProof.Rows.Fr h₀ L s.heap m) (N : PyProof.Rows.News h₀ L s.heap news) (X : (h0.heap_1 C.w.params).In h₀) (T : TP C.mean C.mg C.mb h₀)
    (hd : dp + sz < recursionLimit) (hu : un + 8 * sz < cLine) (hp : pre s.heap) (ret : ∀ t h' tk', b ≤ tk' → PyProof.Rows.Fr h₀ L h' m → PyProof.Rows.News h₀ L h' news → Q (.int x t) { s with heap := h', toks := tk' }) :
    wpAny (model PG C.w) (AR dp un fr gd) (call (.ref f) vs) Q E s :=
  wpAny_toks (con_useIP H F N X T hd hu hp fun t h' tk' F' N' htk => ret t h' tk' (Nat.le_trans hb htk) F' N')
theorem w_inSplit {prog : Program} {w : World} {A : Around} {E : Value → Shared → Prop} {s : Shared} {h₀ : Heap} {L D : Addr} {news : List (Addr × Obj)} {o : Obj} {k a b : Int} {t t1 t2 : Tok} {n : Nat} {Q : Value → Shared → Prop} (N : PyProof.Rows.News h₀ L s.heap news) (hm : (D, o) ∈ news) (hc : o.cls = .type "tuple") (hd : o.data = .seq #[.int a t1, .int b t2] n)
    (hy : (k = a ∨ k = b) → Q (.bool true) s) (hn : ¬ (k = a ∨ k = b) → Q (.bool false) s) : wpAny (model prog w) A (compareOp .In (.int k t) (.ref D)) Q E s := by
  by_cases h : k = a ∨ k = b
  · exact w_inYes N hm hc hd h (hy h)
  · exact w_inNo N hm hc hd h (hn h)
theorem cat_kt {us vs : List (Nat × PySem.Tok)} {b sh n : Nat} (h1 : us.map (·.1) = kt (dots (1 + sh - b))) (h2 : vs.map (·.1) = kt (body 5 b sh n)) : (us ++ vs).map (·.1) = kt (page 5 b sh n) := by
  rw [List.map_append, h1, h2, kt_page]
theorem cat_fit {us vs : List (Nat × PySem.Tok)} {b sh n : Nat} (h1 : us.map (·.1) = kt (dots (1 + sh - b))) (h2 : vs.map (·.1) = kt (body 5 b sh n)) (hl : (page 5 b sh n).length ≤ 2 ^ 18) : us.length + vs.length ≤ 1048576 := by
  have h3 := congrArg List.length (cat_kt h1 h2)
  have h4 := kt_len _ (page 5 b sh n) (Nat.le_refl _)
  rw [List.length_map, List.length_append] at h3
  omega
theorem cat_ok {us vs : List (Nat × PySem.Tok)} (h1 : ∀ p ∈ us, OkT p.2) (h2 : ∀ p ∈ vs, OkT p.2) : ∀ p ∈ us ++ vs, OkT p.2 := fun p hp => (List.mem_append.mp hp).elim (h1 p) (h2 p)
theorem split_page (b sh n : Nat) : Txt.split (S (crlf (page 5 b sh n))) (S [13, 10]) = (spl1 10 (page 5 b sh n)).map S := by
  rw [t_split2, spl2_crlf (al_13 (al_page 5 b sh n))]
theorem crlf_len2 : ∀ l : List Nat, (crlf l).length ≤ 2 * l.length
  | [] => Nat.le_refl _
  | a :: r => by
    have := crlf_len2 r
    rw [crlf_cons]
    split <;> simp only [List.length_cons] <;> omega
end
theorem sumI_mono {rec rec' : Nat → Nat} {b w w' : Nat} (hr : ∀ p, rec p ≤ rec' p) (h1 : 1 ≤ w) (hw : w ≤ w') : ∀ f n p, sumI rec b w f n p ≤ sumI rec' b w' f n p
  | 0, _, _ => Nat.le_refl _
  | f + 1, n, p => by
    have ih := sumI_mono (b := b) hr h1 hw f (n / b) (p + 1)
    unfold sumI
    split
    · exact Nat.le_refl _
    · refine Nat.add_le_add ?_ ih
      split
      · exact Nat.le_refl _
      · exact Nat.mul_le_mul_left _ (Nat.le_trans (Nat.pow_le_pow_right h1 (hr p)) (Nat.pow_le_pow_left hw _))
theorem bump_mono {b w w' : Nat} (h1 : 1 ≤ w) (hw : w ≤ w') : ∀ k n, bump k b w n ≤ bump k b w' n
  | 0, _ => Nat.le_refl _
  | k + 1, n => sumI_mono (bump_mono h1 hw k) h1 hw n n 0
/-- what the inner loop has told so far -/
noncomputable def toldL (b stop far n i : Nat) : List Nat := (if stop ≤ b + i then [bump 5 b stop n] else []) ++ (if stop < far ∧ far ≤ b + i then [bump 5 b far n] else [])
theorem toldL_len (b stop far n i : Nat) : (toldL b stop far n i).length ≤ 2 := by
  unfold toldL
  rw [List.length_append]
  split <;> split <;> simp
theorem told_0 {b stop far n : Nat} (h : b < stop) (h2 : stop ≤ far) : toldL b stop far n 0 = [] := by
  unfold toldL
  rw [if_neg (by omega), if_neg (by omega)]; rfl
theorem told_in {b stop far n i : Nat} (h2 : stop ≤ far) (hs : b + i + 1 = stop ∨ b + i + 1 = far) : toldL b stop far n (i + 1) = toldL b stop far n i ++ [bump 5 b (b + i + 1) n] := by
  unfold toldL
  rcases hs with e | e
  · subst e
    rw [if_pos (by omega), if_neg (by omega), if_neg (by omega), if_neg (by omega)]; rfl
  · subst e
    by_cases q : stop = b + i + 1
    · subst q
      rw [if_pos (by omega), if_neg (by omega), if_neg (by omega), if_neg (by omega)]; rfl
    · rw [if_pos (by omega), if_pos (by omega), if_pos (by omega), if_neg (by omega)]; rfl
theorem told_out {b stop far n i : Nat} (hs : ¬ (b + i + 1 = stop ∨ b + i + 1 = far)) : toldL b stop far n (i + 1) = toldL b stop far n i := by
  unfold toldL
  have e1 : (stop ≤ b + (i + 1)) = (stop ≤ b + i) := by apply propext; omega
  have e2 : (stop < far ∧ far ≤ b + (i + 1)) = (stop < far ∧ far ≤ b + i) := by apply propext; omega
  simp only [e1, e2]
theorem told_end {b stop far n : Nat} (h : b < stop) (h2 : stop ≤ far) {us : List (Nat × PySem.Tok)} (hu : us.map (·.1) = toldL b stop far n (far - b)) :
    (∃ t, us[0]? = some (bump 5 b stop n, t)) ∧ ∃ vs t, us = vs ++ [(bump 5 b far n, t)] ∧ vs.length ≤ 1 := by
  unfold toldL at hu
  rw [if_pos (by omega)] at hu
  by_cases q : stop < far
  · rw [if_pos ⟨q, by omega⟩] at hu
    match us, hu with
    | [(x, t), (y, u)], hu =>
      simp only [List.map_cons, List.map_nil, List.singleton_append, List.cons.injEq, and_true] at hu
      obtain ⟨rfl, rfl⟩ := hu
      exact ⟨⟨t, rfl⟩, [(_, t)], u, rfl, Nat.le_refl _⟩
  · have e : stop = far := by omega
    subst e
    rw [if_neg (by omega)] at hu
    match us, hu with
    | [(x, t)], hu =>
      simp only [List.map_cons, List.map_nil, List.append_nil, List.cons.injEq, and_true] at hu
      subst hu
      exact ⟨⟨t, rfl⟩, [], t, rfl, Nat.zero_le _⟩
end Mine
end
section
set_option maxRecDepth 100000
open PySem PySem.W PySem.Calls PyProof.Rows
set_option Elab.async false
namespace Mine
local macro_rules | `(tactic| k_all) => `(tactic| assumption)
structure OS where
  b : Nat
  n : Nat
  tb : Tok
  tn : Tok
  tl : List (Nat × Tok)
  ct : Nat
structure IS where
  txt : List Nat
  tt : Tok
  us : List (Nat × Tok)
  ct : Nat
set_option maxHeartbeats 4000000 in
theorem c_law (C : Ctxt) (vs : List Value) (ns : List Int) (D : Addr) (hi : IntsAre vs ns) (hl : ns.length ≤ 1000) :
    ConT C 170 12 726 (fun h => h.IsList D vs.toArray) [.ref D] (OutBool true) := by
  k_with_none
  k_with "con_enter" => (w_top off; (case k6 => k_is); (case k7 => k_is); (case k9 => exact rfl); (case kB => exact rfl); (case c5 => decide); (case c2 => exact rfl); (case c3 => exact rfl); (case c4 => exact rfl); (try (case sz => decide)))
  k_with "isS" => (first | with_reducible rfl | exact l_dot | exact l_nl | exact l_open | exact l_minus | exact l_close | exact l_plus | exact l_nought | exact l_empty | exact l_cr | exact l_crnl | exact l_dots)
  k_with "lens" => ((try simp only [List.length_append, List.length_cons, List.length_nil, dots, List.length_replicate]); omega)
  k_with "steps" => (repeat' (first | (k_unfold; (try dsimp only)) | ((fail_if_success (with_reducible show wpAny _ _ (exec (Stmt.While _ _ _ _) _) _ _ _)); (fail_if_success (with_reducible show wpAny _ _ (exec (Stmt.For _ _ _ _ _) _) _ _ _)); (fail_if_success (with_reducible show wpAny _ _ (pyIter (Value.ref _)) _ _ _)); first | walk1 | (dsimp only; walk1) | (leave1; walk_say "STEP leave1"; try dsimp only)) | fail "no step"))
  k_with "binaryOp Add str str" => (k_here; (refine w_add (by walk_at "isS") (by walk_at "isS") ?zqz ?_); (case zqz => walk_at "lens"); intro t8 k8; (try dsimp only))
  k_with "inplaceOp Add str str" => (k_here; (refine w_iadd (by walk_at "isS") (by walk_at "isS") ?zqz ?_); (case zqz => walk_at "lens"); intro t8 k8; (try dsimp only))
  k_with "binaryOp Mult str int" => (k_here; (first | ((with_reducible refine w_dotsN ?zqz ?_); (case zqz => omega)) | ((with_reducible refine w_dots ?zqz ?zqz2 ?_); (case zqz => omega); (case zqz2 => omega))); intro t8 k8; (try dsimp only))
  k_with "binaryOp Mod int int" => (k_here; first | ((with_reducible refine w_mod ?zqz ?_); (case zqz => omega)) | ((with_reducible refine w_modL ?zqz ?_); (case zqz => decide)))
  k_with "inplaceOp FloorDiv int int" => (k_here; (with_reducible refine w_idiv ?zqz ?zqz2 ?_); (case zqz => omega); (case zqz2 => omega))
  k_with "binaryOp Add int int" => (k_here; first | (with_reducible refine w_add1 ?_) | (with_reducible refine w_addN ?_))
  k_with "inplaceOp Add int int" => (k_here; first | (with_reducible refine w_iadd1 ?_) | (with_reducible refine w_iaddN ?_))
  k_with "binaryOp Mult int int" => (k_here; (with_reducible refine w_mulN ?zqz ?_); (case zqz => omega))
  k_with "binaryOp Pow int int" => (k_here; (with_reducible refine w_pow ?zqz ?zqz2 ?_); (case zqz => omega); (case zqz2 => omega))
  k_with "call builtin:list.append" => (k_here; k_dflt (refine' w_append ?zqF ?zqN ?zqU ?zqz ?_; (case zqF => k_asm); (case zqN => k_asm); (case zqU => k_upd); (case zqz => omega)); intro h8 F8 N8; (try k_sweep))
  k_with "sides" => ((case zqH => walk_at "con"); (case zqF => assumption); (case zqN => assumption); (case zqX => assumption); (case zqT => assumption); (case zqd => first | assumption | omega); (case zqu => first | assumption | omega))
  k_with "call ref" => ((k_here; first | ((refine' con_useI ?zqH ?zqF ?zqN ?zqX ?zqT ?zqd ?zqu ?_; walk_at "sides"); intro t8 h8 tk8 F8 N8) | ((refine' con_useS ?zqH ?zqF ?zqN ?zqX ?zqT ?zqd ?zqu ?_; walk_at "sides"); intro t8 h8 tk8 F8 N8) | ((refine' con_useB ?zqH ?zqF ?zqN ?zqX ?zqT ?zqd ?zqu ?_; walk_at "sides"); intro h8 tk8 F8 N8)); (try dsimp only); (try k_sweep))
  k_with "for" => ((rename Fr _ _ _ _ => lF'); (with_unfolding_all refine' For_invVF lF' ?zqk1 ?zqk2 ?_; (case zqk1 => exact rfl); (case zqk2 => exact rfl)))
  k_with "call builtin:len" => (k_here; k_dflt (refine' w_len ?zqN ?zqm ?zqz ?_; (case zqN => k_asm); (case zqm => k_mem); (case zqz => omega)))
  k_with "stepsT" => (repeat' (first | ((with_reducible show @LE.le Nat instLENat _ _ → _); intro hTok; (try dsimp only at hTok); (try ((with_reducible rename Fr _ _ _ _ => F9); dsimp only at F9)); try dsimp only) | (k_unfold; (try dsimp only)) | ((fail_if_success (with_reducible show wpAny _ _ (exec (Stmt.For _ _ _ _ _) _) _ _ _)); (fail_if_success (with_reducible show wpAny _ _ (pyIter (Value.ref _)) _ _ _)); first | walk1 | (dsimp only; walk1) | (leave1; walk_say "STEP leave1"; try dsimp only)) | fail "no step"))
  k_with "execs cons" => (k_here; (with_reducible rename @LE.le Nat instLENat 726 _ => hOld); (refine execs_consT 726 ?zqhb ?_); (case zqhb => first | exact hOld | (dsimp only; omega)); clear hOld; intro tkS hTokS; try dsimp only)
  k_with "forT" => ((rename Fr _ _ _ _ => lF'); (with_unfolding_all refine' For_T 726 lF' ?zqkb ?zqk1 ?zqk2 ?_; (case zqkb => first | assumption | (dsimp only; omega)); (case zqk1 => exact rfl); (case zqk2 => exact rfl)))
  k_with "ao" => (first | assumption | omega)
  k_with "cside" => ((case zqF => k_asm); (case zqN => k_asm); (case zqX => assumption); (case zqT => assumption); (case zqd => walk_at "ao"); (case zqu => walk_at "ao"))
  k_with "call ref" => (k_here; (with_reducible show wpAny _ _ (call (Value.ref 163) _) _ _ _); k_dflt (refine' con_useC (c_cells _ _ _ _ ?zqhi ?zqhl) ?zqF ?zqN ?zqX ?zqT ?zqd ?zqu ?zqp ?_; (case zqhi => assumption); (case zqhl => assumption); walk_at "cside"; (case zqp => exact Heap.IsList.at (by assumption) (fun o e => Fr.keep (by assumption) _ o e))); intro D8 c0 t0 c1 t1 c2 t2 c3 t3 cnt8 h8 tk8 i0 i1 i2 i3 F8 N8; (try dsimp only); (try k_sweep))
  k_with "subscriptTail" => (k_here; (with_reducible show wpAny _ _ (subscriptTail _ _ (Value.ref _) (Value.int _ _)) _ _ _); with_unfolding_all (first | (refine' w_getI 0 ?zqi ?zqN ?zqm ?zqj ?zqz ?_; (case zqi => exact rfl); (case zqN => k_asm); (case zqm => k_mem); (case zqj => first | exact rfl | assumption); (case zqz => decide)) | (refine' w_getI 1 ?zqi ?zqN ?zqm ?zqj ?zqz ?_; (case zqi => exact rfl); (case zqN => k_asm); (case zqm => k_mem); (case zqj => first | exact rfl | assumption); (case zqz => decide)) | (refine' w_getI 2 ?zqi ?zqN ?zqm ?zqj ?zqz ?_; (case zqi => exact rfl); (case zqN => k_asm); (case zqm => k_mem); (case zqj => first | exact rfl | assumption); (case zqz => decide)) | (refine' w_getI 3 ?zqi ?zqN ?zqm ?zqj ?zqz ?_; (case zqi => exact rfl); (case zqN => k_asm); (case zqm => k_mem); (case zqj => first | exact rfl | assumption); (case zqz => decide))))
  k_with "binaryOp Add int int" => (k_here; first | (with_reducible refine w_add1 ?_) | (with_reducible refine l_2add ?_) | (with_reducible refine l_add2 ?_) | (with_reducible refine l_1add ?_) | (with_reducible refine w_addN ?_))
  k_with "binaryOp Mod int int" => (k_here; first | (with_reducible refine l_mod2 ?_) | (with_reducible refine l_mod4 ?_) | ((with_reducible refine w_mod ?zqz ?_); (case zqz => first | omega | (exact pow4_pos (by omega)))))
  k_with "binaryOp Pow int int" => (k_here; (with_reducible refine l_pow4 ?zqz ?_); (case zqz => walk_at "ao"))
  k_with "binaryOp FloorDiv int int" => (k_here; (with_reducible refine l_div2 ?_))
  k_with "binaryOp Mult int int" => (k_here; (with_reducible refine l_3mul ?_))
  k_with "subscriptTail" => (k_here; (with_reducible show wpAny _ _ (subscriptTail _ (Expr.Slice (some _) none none _) (Value.ref _) (Value.ref _)) _ _ _); with_unfolding_all (first | (refine' w_lfrom (s := ⟨_, _, _, _, _⟩) (k := 2) ?zqi ?zqF ?zqN ?zqm ?zqz ?_; (case zqi => exact rfl); (case zqF => k_asm); (case zqN => k_asm); (case zqm => k_mem); (case zqz => first | decide | (exact rows_fit (by assumption) (by assumption)))) | (refine' w_lfrom (s := ⟨_, _, _, _, _⟩) (k := 1) ?zqi ?zqF ?zqN ?zqm ?zqz ?_; (case zqi => exact rfl); (case zqF => k_asm); (case zqN => k_asm); (case zqm => k_mem); (case zqz => first | decide | (exact rows_fit (by assumption) (by assumption))))); intro D8 h8 F8 N8 O8; (try k_lt O8); (try dsimp only); (try k_sweep))
  k_with "subscriptTail" => (k_here; (with_reducible show wpAny _ _ (subscriptTail _ (Expr.Slice none (some _) none _) (Value.ref _) (Value.ref _)) _ _ _); with_unfolding_all (refine' w_lupto (s := ⟨_, _, _, _, _⟩) (k := 1) ?zqi ?zqF ?zqN ?zqm ?zqz ?_; (case zqi => exact rfl); (case zqF => k_asm); (case zqN => k_asm); (case zqm => k_mem); (case zqz => first | decide | (exact rows_fit (by assumption) (by assumption)))); intro D8 h8 F8 N8 O8; (try k_lt O8); (try dsimp only); (try k_sweep))
  k_with "call ref" => (k_here; (with_reducible show wpAny _ _ (call (Value.ref 121) _) _ _ _); k_dflt (refine' con_useS (page_con ?zqa ?zqb ?zqc ?zqe) ?zqF ?zqN ?zqX ?zqT ?zqd ?zqu ?_; (case zqa => walk_at "ao"); (case zqb => walk_at "ao"); (case zqc => walk_at "ao"); (case zqe => walk_at "ao"); walk_at "cside"); intro t8 h8 tk8 F8 N8; (try dsimp only); (try k_sweep))
  k_with "call ref" => (k_here; (with_reducible show wpAny _ _ (call (Value.ref 128) _) _ _ _); k_dflt (refine' con_useS (typed_con ?zqa ?zqb ?zqc ?zqe ?zqf) ?zqF ?zqN ?zqX ?zqT ?zqd ?zqu ?_; (case zqa => walk_at "ao"); (case zqb => walk_at "ao"); (case zqc => walk_at "ao"); (case zqe => walk_at "ao"); (case zqf => walk_at "ao"); walk_at "cside"); intro t8 h8 tk8 F8 N8; (try dsimp only); (try k_sweep))
  k_with "call ref" => (k_here; (with_reducible show wpAny _ _ (call (Value.ref 48) _) _ _ _); k_dflt (refine' con_useS (quote_con ?zqa ?zqb ?zqc ?zql ?zqf) ?zqF ?zqN ?zqX ?zqT ?zqd ?zqu ?_; (case zqf => assumption); (case zqa => walk_at "ao"); (case zqb => walk_at "ao"); (case zqc => walk_at "ao"); (case zql => assumption); walk_at "cside"); intro t8 h8 tk8 F8 N8; (try dsimp only); (try k_sweep))
  k_with "call ref" => (k_here; (with_reducible show wpAny _ _ (call (Value.ref 55) _) _ _ _); k_dflt (refine' con_useS (fix_con ?zql) ?zqF ?zqN ?zqX ?zqT ?zqd ?zqu ?_; (case zql => assumption); walk_at "cside"); intro t8 h8 tk8 F8 N8; (try dsimp only); (try k_sweep))
  k_with "call ref" => (k_here; (with_reducible show wpAny _ _ (call (Value.ref 135) _) _ _ _); k_dflt (refine' con_useI (bump_con ?zqa ?zqb ?zqc ?zqe ?zqf) ?zqF ?zqN ?zqX ?zqT ?zqd ?zqu ?_; (case zqa => walk_at "ao"); (case zqb => walk_at "ao"); (case zqc => walk_at "ao"); (case zqe => walk_at "ao"); (case zqf => assumption); walk_at "cside"); intro t8 h8 tk8 F8 N8; (try dsimp only); (try k_sweep))
  k_with "call ref" => (k_here; (with_reducible show wpAny _ _ (call (Value.ref 83) _) _ _ _); k_dflt (refine' con_useI (c_sub _ _ _ _ _) ?zqF ?zqN ?zqX ?zqT ?zqd ?zqu ?_; walk_at "cside"); intro t8 h8 tk8 F8 N8; (try dsimp only); (try k_sweep))
  k_with "call ref" => (k_here; (with_reducible show wpAny _ _ (call (Value.ref 62) _) _ _ _); k_dflt (refine' con_useB (c_gt _ _ _ _ _) ?zqF ?zqN ?zqX ?zqT ?zqd ?zqu ?_; walk_at "cside"); intro h8 tk8 F8 N8; (try dsimp only); (try k_sweep))
  k_with "call ref" => (k_here; (with_reducible show wpAny _ _ (call (Value.ref 107) _) _ _ _); k_dflt (refine' con_useB (c_eof _ _ _) ?zqF ?zqN ?zqX ?zqT ?zqd ?zqu ?_; walk_at "cside"); intro h8 tk8 F8 N8; (try dsimp only); (try k_sweep))
  k_with "isl" => (refine' News.isList ?zqN0 ?zqm0; (case zqN0 => k_asm); (case zqm0 => k_mem))
  k_with "call ref" => (k_here; (with_reducible show wpAny _ _ (call (Value.ref 142) _) _ _ _); k_dflt (first | (refine' con_useK (kinds_head ?zqa ?zqb ?zqc ?zqt) ?zqF ?zqN ?zqX ?zqT ?zqd ?zqu ?zqp ?_; (case zqp => walk_at "isl"); (case zqt => assumption); (case zqa => walk_at "ao"); (case zqb => walk_at "ao"); (case zqc => walk_at "ao"); walk_at "cside") | (refine' con_useK (kinds_tail ?zqa ?zqb ?zqc ?zqe ?zqt) ?zqF ?zqN ?zqX ?zqT ?zqd ?zqu ?zqp ?_; (case zqp => walk_at "isl"); (case zqt => assumption); (case zqa => walk_at "ao"); (case zqb => walk_at "ao"); (case zqc => walk_at "ao"); (case zqe => walk_at "ao"); walk_at "cside")); intro D8 us8 cnt8 h8 tk8 hm8 ht8 F8 N8 O8; (try k_lt O8); (try dsimp only); (try k_sweep))
  k_with "call ref" => (k_here; (with_reducible show wpAny _ _ (call (Value.ref 156) _) _ _ _); k_dflt (first | (refine' con_useIP (worth_head ?zqa ?zqb ?zqc ?zqt) ?zqF ?zqN ?zqX ?zqT ?zqd ?zqu ?zqp ?_; (case zqp => walk_at "isl"); (case zqt => assumption); (case zqa => walk_at "ao"); (case zqb => walk_at "ao"); (case zqc => walk_at "ao"); walk_at "cside") | (refine' con_useIP (worth_tail ?zqa ?zqb ?zqc ?zqe ?zqf ?zqt) ?zqF ?zqN ?zqX ?zqT ?zqd ?zqu ?zqp ?_; (case zqp => walk_at "isl"); (case zqt => assumption); (case zqa => walk_at "ao"); (case zqb => walk_at "ao"); (case zqc => walk_at "ao"); (case zqe => walk_at "ao"); (case zqf => assumption); walk_at "cside")); intro t8 h8 tk8 F8 N8; (try dsimp only); (try k_sweep))
  k_with "call builtin:list.append" => (k_here; k_dflt (refine' w_appendN ?zqF ?zqN ?zqU ?zqz ?_; (case zqF => k_asm); (case zqN => k_asm); (case zqU => k_upd); (case zqz => first | assumption | omega | (simp only [List.length_append, List.length_cons, List.length_nil]; omega))); intro h8 F8 N8; (try k_sweep))
  k_with "compareOp In int ref" => (k_here; with_unfolding_all (refine' w_inSplit ?zqN ?zqm ?zqc ?zqd ?zqyes ?zqno; (case zqN => k_asm); (case zqm => k_mem); (case zqc => exact rfl); (case zqd => exact rfl)); intro hIn; (try dsimp only))
  k_with "compareOp NotEq str str" => (k_here; first | ((with_reducible refine w_neS ?zqe ?_); (case zqe => first | exact rfl | assumption)) | ((with_reducible refine w_neStr ?zqe ?_); (case zqe => first | exact rfl | omega)))
  k_with "call type:str" => (k_here; (refine w_str ?zqa ?zqb ?_); (case zqa => walk_at "ao"); (case zqb => walk_at "ao"); intro t8 k8; (try dsimp only))
  k_with "call builtin:str.replace" => (k_here; (refine w_replaceT ?zqa ?zql ?_); (case zqa => assumption); (case zql => walk_at "ao"); intro t8 k8; (try dsimp only))
  k_with "call builtin:str.count" => (k_here; first | (with_reducible refine w_count3 ?_) | (with_reducible refine w_count1 ?_))
  k_with "binaryOp Sub int int" => (k_here; (with_reducible refine w_subN ?zqa ?_); (case zqa => walk_at "ao"))
  k_with "call builtin:min" => (k_here; (refine' w_min ?zqh ?zqF ?zqN ?_; (case zqh => exact rfl); (case zqF => k_asm); (case zqN => k_asm)); intro t8 h8 tk8 F8 N8; (try dsimp only); (try k_sweep))
  k_with "compareOp NotEq ref ref" => (k_here; with_unfolding_all (refine' w_neTup ?zqN ?zqm ?zqc ?zqd ?zqm2 ?zqc2 ?zqd2 ?zqu ?zqe ?zqf ?_; (case zqN => k_asm); (case zqm => k_mem); (case zqc => exact rfl); (case zqd => exact rfl); (case zqm2 => k_mem); (case zqc2 => exact rfl); (case zqd2 => exact rfl); (case zqu => (dsimp only [AR]; omega)); (case zqe => first | exact rfl | omega); (case zqf => first | exact rfl | omega)))
  k_with "ite" => (first | (exfalso; omega) | (refine ite_pos ?zqiteC ?_; (case zqiteC => first | omega | (rw [beq_iff_eq]; omega))) | (refine ite_neg ?zqiteC ?_; (case zqiteC => first | omega | (rw [beq_iff_eq]; omega))))
  k_with "sameZ" => (intro z hz1 hz2 hz3; (simp only [List.forall_mem_cons, List.not_mem_nil, false_implies, implies_true, and_true, ne_eq] at hz2); (simp only [List.contains_cons, List.contains_nil, Bool.or_false, Bool.or_eq_false_iff, beq_eq_false_iff_ne, ne_eq] at hz3); (simp [kstB, hz1, hz2, hz3]))
  k_with "call ref" => (k_here; (with_reducible show wpAny _ _ (call (Value.ref 90) _) _ _ _); k_dflt (first | (refine' con_useIT 726 ?zqhb (count52 ?zqt ?zqo ?zqv ?zql) ?zqF ?zqN ?zqX ?zqT ?zqd ?zqu ?zqp ?_; (case zqhb => first | assumption | (dsimp only; omega)); (case zqp => walk_at "isl"); (case zqt => exact cat_kt (by assumption) (by assumption)); (case zqo => exact cat_ok (by assumption) (by assumption)); (case zqv => first | assumption | (dsimp only; omega)); (case zql => assumption); walk_at "cside") | (refine' con_useIT 726 ?zqhb (count23 ?zqt ?zqo ?zqv ?zql) ?zqF ?zqN ?zqX ?zqT ?zqd ?zqu ?zqp ?_; (case zqhb => first | assumption | (dsimp only; omega)); (case zqp => walk_at "isl"); (case zqt => exact cat_kt (by assumption) (by assumption)); (case zqo => exact cat_ok (by assumption) (by assumption)); (case zqv => first | assumption | (dsimp only; omega)); (case zql => assumption); walk_at "cside")); intro t8 h8 tk8 g8 F8 N8; (try dsimp only); (try k_sweep))
  k_with "call builtin:str.split" => (k_here; k_dflt (refine' w_split (sep := [13, 10]) ?zqF ?zqN ?zqy ?zqs ?zqe ?zqz ?_; (case zqF => k_asm); (case zqN => k_asm); (case zqy => exact l_crnl); (case zqs => decide); (case zqe => assumption); (case zqz => walk_at "ao")); intro ts8 D8 h8 k8 e8 F8 N8 O8 l8; (try k_lt O8); (try dsimp only); (try k_sweep))
  k_with "subscriptTail" => (k_here; (with_reducible show wpAny _ _ (subscriptTail _ _ (Value.ref _) (Value.int (-1) _)) _ _ _); with_unfolding_all (refine' w_lastE ?zqv ?zqN ?zqm ?zqz ?_; (case zqN => k_asm); (case zqm => k_mem); (case zqv => first | exact rfl | assumption); (case zqz => walk_at "ao")))
  k_with "binaryOp Add ref ref" => (k_here; with_unfolding_all (refine' w_addL ?zqF ?zqN ?zqa ?zqb ?zqz ?_; (case zqF => k_asm); (case zqN => k_asm); (case zqa => k_mem); (case zqb => k_mem); (case zqz => exact cat_fit (by assumption) (by assumption) (by assumption))); intro D8 h8 F8 N8 O8; (try k_lt O8); (try dsimp only); (try k_sweep))
  k_with "memL" => (intro p hp; repeat (first | exact List.mem_append_left _ hp | exact List.mem_append_right _ hp | exact hp | refine List.Mem.tail _ ?_))
  k_with "compareOp IsNot bool bool" => (k_here; k_dflt ((refine w_isNotB ?zqe ?_); (case zqe => first | exact rfl | ((rw [Bool.eq_iff_iff]; simp only [beq_iff_eq, decide_eq_true_eq, Bool.false_eq_true, iff_false]); omega))))
  refine' con_defT (binds := [(Str.ofString "script", .ref D)]) ?k6 ?k7 ?k9 ?kB ?c5 ?c2 ?c3 ?c4 (Nat.succ_pos _) ?_
  walk_at "con_enter"
  intro dp un fr gd s Q h₀ h₁ L tk htk X T hd hu hp F N hL hret
  have d1 : dp + 1 < recursionLimit := by omega
  have d6 : dp + 6 < recursionLimit := by omega
  have d7 : dp + 7 < recursionLimit := by omega
  have d10 : dp + 10 < recursionLimit := by omega
  have u0 : un < cLine := by omega
  have u1 : un + 8 * 1 < cLine := by omega
  have u6 : un + 8 * 6 < cLine := by omega
  have u7 : un + 8 * 7 < cLine := by omega
  have u10 : un + 8 * 10 < cLine := by omega
  try dsimp only
  walk_at "stepsT"
  walk_at "forT"
  walk_at "stepsT"
  rename_i _ _ _ _ _ _ _ _ _ _ _ _ TL _ lT _ SL _ FF NN lS
  rename @LE.le Nat instLENat 726 _ => hTk
  obtain ⟨far, B, Nm, T2, tl0, tl1, hfar, hB0, hN0, hT0, hrd, hB2, hT2, hn2, ht0, ht1, hf0, hf1, hTl⟩ := two_rounds c0 c1 c2 c3 i2 i3
  have lTS : @LT.lt Nat instLTNat TL SL := lS.1
  have N0 : News h₀ L _ [(TL, listOf (nats []).toArray 0), (SL, listOf (nats [(c2, t2), (c3, t3)]).toArray 0)] := List.forall_mem_cons.mpr ⟨NN _ (.tail _ (.head _)), List.forall_mem_cons.mpr ⟨NN _ (.head _), List.forall_mem_nil _⟩⟩
  refine' listT (σ := OS) (l := SL) (vs := nats [(c2, t2), (c3, t3)]) (nn := 0) (fun c => [(TL, listOf (nats c.tl).toArray c.ct), (SL, listOf (nats [(c2, t2), (c3, t3)]).toArray 0)]) (fun c => [(Str.ofString "base", .int (c.b : Int) c.tb), (Str.ofString "number", .int (c.n : Int) c.tn)])
    [Str.ofString "text", Str.ofString "stop", Str.ofString "told", Str.ofString "shown", Str.ofString "page", Str.ofString "first", Str.ofString "kinds", Str.ofString "threes", Str.ofString "taken"]
    (fun i c => c.b = B i ∧ c.n = Nm i ∧ c.tl.map (·.1) = T2 i) ⟨2 + c0 % 2, c1 % (2 + c0 % 2) ^ 4, _, _, [], 0⟩ rfl (fun c => .tail _ (.head _)) FF N0 hTk (List.forall_mem_cons.mpr ⟨rfl, List.forall_mem_cons.mpr ⟨rfl, List.forall_mem_nil _⟩⟩) ⟨hB0.symm, hN0.symm, hT0.symm⟩ ?turn ?done
  case turn =>
    clear NN FF N0
    rintro ⟨b, n, tb, tn, tl, ct⟩ i v u2 h2 tk2 own htk2 hv hoff ⟨hP1, hP2, hP3⟩ F2 N2
    dsimp only at hP1 hP2 hP3 F2 N2
    obtain ⟨cell, tc, hc, rfl⟩ : ∃ cell tc, [c2, c3][i]? = some cell ∧ v = .int (cell : Int) tc := by
      match i, hv with
      | 0, hv => exact ⟨c2, t2, rfl, (Option.some.inj hv).symm⟩
      | 1, hv => exact ⟨c3, t3, rfl, (Option.some.inj hv).symm⟩
    obtain ⟨hr, hBs, hNs, hTs⟩ := hrd i cell hc
    rw [← hP1, ← hP2] at hr hTs hNs
    rw [← hP1] at hBs
    obtain ⟨g1, g2, g3, g4, g5, g6, g7⟩ := hr
    have own1 : ∀ p ∈ own, p.1 ≠ TL := OwnOff.ne hoff (.head _)
    have f0 : b ≤ b := Nat.le_refl b
    have f7 : b ≤ 7 := by omega
    simp only [List.cons_append, List.nil_append] at N2
    clear hoff hrd hB0 hN0 hT0 hB2 hT2 hn2 ht0 ht1 hf0 hf1 lT i0 i1 i2 i3 lS
    walk_at "stepsT"
    walk_at "forT"
    walk_at "stepsT"
    rename_i TO _ lTO _ _ _ _ tkR _ _ _ hR FF NN _
    rename @LE.le Nat instLENat 726 _ => hTk
    have own2 : ∀ p ∈ own, p.1 ≠ TO := allLt_ne lTO.2.2
    have q1 : @LT.lt Nat instLTNat TL TO := lTO.1
    have q2 : @LT.lt Nat instLTNat SL TO := lTO.2.1
    clear lTO
    have pl0 := page_len b b n g1 (by omega) (by omega) g4
    refine' rangeT (σ := IS) (n := far - b) (fun c => (TO, listOf (nats c.us).toArray c.ct) :: (TL, listOf (nats tl).toArray ct) :: (SL, listOf (nats [(c2, t2), (c3, t3)]).toArray 0) :: own) (fun c => [(Str.ofString "text", .str (S c.txt) c.tt)])
      [Str.ofString "page", Str.ofString "first", Str.ofString "kinds", Str.ofString "threes"]
      (fun j c => fx c.txt = crlf (page 5 b (b + j) n) ∧ c.txt.length ≤ 2 ^ 18 ∧ c.us.map (·.1) = toldL b (b + 1 + cell % 2) far n j)
      ⟨typed (page 5 b b n) cell, _, [], 0⟩ rfl hR (small_one (by omega) (by omega) (by omega) (by omega)) ?hn FF NN hTk (List.forall_mem_cons.mpr ⟨rfl, List.forall_mem_nil _⟩)
      ⟨fx_typed cell (al_13 (al_page 5 b b n)), Nat.le_trans (typed_len _ _) (by omega), (told_0 (by omega) g2).symm⟩ ?turn2 ?done2
    case hn =>
      rw [PyProof.Rows.rangeSize_nat]
      omega
    case turn2 =>
      rintro ⟨txt, tt, us, ct2⟩ j tj u3 h3 tk3 ownJ htk3 hj hoff3 ⟨hP4, hP5, hP6⟩ F3 N3
      dsimp only at hP4 hP5 hP6 F3 N3
      have ownJ1 : ∀ p ∈ ownJ, p.1 ≠ TO := OwnOff.ne hoff3 (.head _)
      have ownJ2 : ∀ p ∈ ownJ, p.1 ≠ TL := OwnOff.ne hoff3 (.tail _ (.head _))
      have ownA : ∀ p ∈ own ++ ownJ, p.1 ≠ TO := fun p hp => (List.mem_append.mp hp).elim (own2 p) (ownJ1 p)
      clear hoff3 FF NN hR
      have e3 : ((b + 1 : Nat) : Int) + (j : Int) = ((b + j + 1 : Nat) : Int) := by omega
      rw [e3] at F3
      clear e3
      simp only [List.cons_append] at N3
      have pl1 := page_len b (b + j + 1) n g1 (by omega) (by omega) g4
      have pl2 : (page 5 b (b + j + 1) n).length ≤ 2 ^ 18 := by omega
      have pl3 := crlf_len2 (page 5 b (b + j + 1) n)
      have pl4 : (crlf (page 5 b (b + j + 1) n)).length ≤ 1048576 := by omega
      have pl5 : (crlf (page 5 b (b + j + 1) n)).length ≤ 2 ^ 18 := by omega
      have pl6 : (page 5 b (b + j + 1) n).length ≤ 1048576 := by omega
      have f1 : b ≤ b + j + 1 := by omega
      have f2 : b + j + 1 ≤ 7 := by omega
      have f3 : b ≤ b + j := by omega
      have f4 : b + j ≤ 6 := by omega
      clear pl1 pl3
      have hbm : bump 5 b (b + j + 1) n < 2 ^ 21 := Nat.lt_of_le_of_lt (bump_mono (by omega) (by omega) 5 n) g5
      have hsp := split_page b (b + j + 1) n
      have hul : us.length ≤ 1048576 := by
        have := congrArg List.length hP6
        rw [List.length_map] at this
        have h9 := toldL_len b (b + 1 + cell % 2) far n j
        omega
      have hfx : fx (crlf (page 5 b (b + j + 1) n)) = crlf (page 5 b (b + (j + 1)) n) := fx_crlf (al_13 (al_page 5 b (b + j + 1) n))
      walk_at "stepsT"
      · rename News _ _ _ _ => NE
        exact for_end (x := Str.ofString "shown") (⟨crlf (page 5 b (b + j + 1) n), _, us ++ [(bump 5 b (b + j + 1) n, _)], _⟩ : IS) (by assumption) NE (by walk_at "memL") (by walk_at "memL") rfl (List.forall_mem_cons.mpr ⟨rfl, List.forall_mem_nil _⟩) (by walk_at "sameZ")
          ⟨hfx, pl5, by rw [List.map_append, hP6, told_in g2 (by omega)]; rfl⟩
      · rename News _ _ _ _ => NE
        exact for_end (x := Str.ofString "shown") (⟨crlf (page 5 b (b + j + 1) n), _, us, _⟩ : IS) (by assumption) NE (by walk_at "memL") (by walk_at "memL") rfl (List.forall_mem_cons.mpr ⟨rfl, List.forall_mem_nil _⟩) (by walk_at "sameZ")
          ⟨hfx, pl5, by rw [hP6, told_out (by omega)]⟩
    case done2 =>
      rintro ⟨txt, tt, us, ct2⟩ u3 h3 tk3 htk3 ⟨-, -, hP6⟩ F3 N3
      dsimp only at hP6 F3 N3
      obtain ⟨⟨tu0, hu0⟩, uv, tu1, hu1, hu2⟩ := told_end (by omega) g2 hP6
      have htl : tl.length ≤ 1048576 := by
        have h8 := congrArg List.length hP3
        rw [List.length_map] at h8
        have h9 := hTl i
        omega
      clear FF NN hR hP6 hTl
      walk_at "stepsT"
      rename News _ _ _ _ => NE
      exact for_end (x := Str.ofString "cell") (⟨b + 1 + cell % 2, bump 5 b (b + 1 + cell % 2) n - min (bump 5 b (b + 1 + cell % 2) n) (1 + cell / 2 % 4), _, _, tl ++ [(bump 5 b far n, _)], _⟩ : OS) (by assumption) NE (by walk_at "memL") (by walk_at "memL") rfl (List.forall_mem_cons.mpr ⟨rfl, List.forall_mem_cons.mpr ⟨rfl, List.forall_mem_nil _⟩⟩) (by walk_at "sameZ")
        ⟨hBs.symm, hNs.symm, by rw [List.map_append, hP3, hTs]; rfl⟩
  case done =>
    clear NN FF N0 hrd hB0 hN0 hT0 hTl
    rintro ⟨b, n, tb, tn, tl, ct⟩ u2 h2 tk2 htk2 ⟨hP1, hP2, hP3⟩ F2 N2
    dsimp only at hP1 hP2 hP3 F2 N2
    rw [show (nats [(c2, t2), (c3, t3)]).length = 2 from rfl] at hP1 hP2 hP3
    rw [hB2] at hP1
    rw [← hP2] at hn2 hf1
    rw [hT2] at hP3
    obtain ⟨ta, tb', rfl⟩ : ∃ ta tb', tl = [(tl0, ta), (tl1, tb')] := by
      match tl, hP3 with
      | [(x, a), (y, b)], hP3 =>
        simp only [List.map_cons, List.map_nil, List.cons.injEq, and_true] at hP3
        obtain ⟨rfl, rfl⟩ := hP3
        exact ⟨a, b, rfl⟩
    clear hB2 hT2 hP2 hP3
    have g1 : 2 ≤ b := by omega
    have g3 : b ≤ 7 := by omega
    have pl1 := page_len b b n g1 g3 g3 hn2
    have pl2 : (page 5 b b n).length ≤ 2 ^ 18 := by omega
    have tyl : (typed (page 5 b b n) b).length ≤ 2 ^ 18 := Nat.le_trans (typed_len _ _) (by omega)
    have hsp := split_page b b n
    have pl3 := crlf_len2 (page 5 b b n)
    have hbs : bump 5 b b n = n := bump_same b g1 5 n (tow5 hn2)
    have hbm : bump 5 b b n < 2 ^ 21 := by rw [hbs]; exact hn2
    walk_at "stepsT"
    clear hsp pl3 tyl pl1 pl2
    walk_at "forT"
    walk_at "stepsT"
    rename_i hpX _ _ _ _ hR FF NN _
    rename @LE.le Nat instLENat 726 _ => hTk
    obtain ⟨tz, N1⟩ : ∃ tz, News h₀ L hpX [(TL, listOf (nats [(tl0, ta), (tl1, tb'), (bump 5 b b n, tz)]).toArray (ct + 1))] := ⟨_, List.forall_mem_cons.mpr ⟨NN _ (.tail _ (.tail _ (.tail _ (.head _)))), List.forall_mem_nil _⟩⟩
    rw [hbs] at N1
    clear NN hbm hbs
    refine' rangeT (σ := Unit) (n := 2) (fun _ => [(TL, listOf (nats [(tl0, ta), (tl1, tb'), (n, tz)]).toArray (ct + 1))]) (fun _ => []) [Str.ofString "falls"] (fun _ _ => True) () rfl hR (by decide) rfl FF N1 hTk (List.forall_mem_nil _) trivial ?turn3 ?done3
    case turn3 =>
      rintro - j tj u4 h4 tk4 own4 htk4 hj - - F4 N4
      try dsimp only at F4 N4
      clear FF N1 hR
      simp only [List.cons_append, List.nil_append] at N4
      obtain rfl | rfl : j = 0 ∨ j = 1 := by omega
      · rw [show (0 : Int) + ((0 : Nat) : Int) = ((0 : Nat) : Int) from rfl] at F4
        walk_at "stepsT"
        rename News _ _ _ _ => NE
        exact for_end (x := Str.ofString "k") () (by assumption) NE (by walk_at "memL") (by walk_at "memL") rfl (List.forall_mem_nil _) (by walk_at "sameZ") trivial
      · rw [show (0 : Int) + ((1 : Nat) : Int) = ((1 : Nat) : Int) from rfl] at F4
        walk_at "stepsT"
        rename News _ _ _ _ => NE
        exact for_end (x := Str.ofString "k") () (by assumption) NE (by walk_at "memL") (by walk_at "memL") rfl (List.forall_mem_nil _) (by walk_at "sameZ") trivial
    case done3 =>
      rintro - u4 h4 tk4 htk4 - F4 N4
      try dsimp only at F4 N4
      clear FF N1 hR
      walk_at "stepsT"
      walk_at "forT"
      walk_at "stepsT"
      rename @LE.le Nat instLENat 726 _ => hTk
      rename Fr _ _ _ _ => FF
      rename News _ _ _ _ => NN
      refine' listT (σ := Unit) (l := TL) (vs := nats [(tl0, ta), (tl1, tb'), (n, tz)]) (nn := ct + 1) (fun _ => [(TL, listOf (nats [(tl0, ta), (tl1, tb'), (n, tz)]).toArray (ct + 1))]) (fun _ => []) [] (fun _ _ => True) () rfl (fun _ => .head _) FF NN hTk (List.forall_mem_nil _) trivial ?turn4 ?done4
      case turn4 =>
        rintro - j v u5 h5 tk5 own5 htk5 hv - - F5 N5
        try dsimp only at F5 N5
        clear FF NN
        simp only [List.cons_append, List.nil_append] at N5
        obtain ⟨x, tx, hx, rfl⟩ : ∃ (x : Nat) (tx : Tok), x < 2 ^ 21 ∧ v = .int (x : Int) tx := by
          match j, hv with
          | 0, hv => exact ⟨tl0, _, ht0, (Option.some.inj hv).symm⟩
          | 1, hv => exact ⟨tl1, _, ht1, (Option.some.inj hv).symm⟩
          | 2, hv => exact ⟨n, tz, hn2, (Option.some.inj hv).symm⟩
        walk_at "stepsT"
        rename News _ _ _ _ => NE
        exact for_end (x := Str.ofString "one") () (by assumption) NE (by walk_at "memL") (by walk_at "memL") rfl (List.forall_mem_nil _) (by walk_at "sameZ") trivial
      case done4 =>
        rintro - u5 h5 tk5 htk5 - F5 N5
        try dsimp only at F5 N5
        clear FF NN
        walk_at "stepsT"
        exact hret _ _ _ F5.keep rfl
end Mine
end
section
set_option maxRecDepth 100000
open PySem PySem.W PySem.Calls PyProof.Rows PySem.W.X
namespace Mine
-- names kept free of the library's helpers: without them the compiled file is too big
noncomputable def head.tw5104563664521345299 : Nat := 0
noncomputable def head.tw10748227973586771634 : Nat := 0
noncomputable def head.tw1274252538826045579 : Nat := 0
noncomputable def head.tw3750269706036327832 : Nat := 0
noncomputable def head.tw14714839384489012191 : Nat := 0
noncomputable def head.tw14656809155038842477 : Nat := 0
noncomputable def head.tw10541447591316938147 : Nat := 0
noncomputable def head.tw14195316510222423288 : Nat := 0
noncomputable def head.tw6296030409177025659 : Nat := 0
noncomputable def head.tw9625377726130185387 : Nat := 0
noncomputable def head.tw16065720564569863766 : Nat := 0
noncomputable def head.tw2728595385866086531 : Nat := 0
noncomputable def head.tw14028522991509751376 : Nat := 0
noncomputable def head.tw1919001801439425371 : Nat := 0
noncomputable def head.tw10536233145010300345 : Nat := 0
noncomputable def head.tw4328326069544100732 : Nat := 0
noncomputable def head.tw496868785162813753 : Nat := 0
noncomputable def head.tw12397968759161991312 : Nat := 0
noncomputable def head.tw12472887615940459650 : Nat := 0
noncomputable def head.tw5143670084557414638 : Nat := 0
noncomputable def head.tw5110904390464784769 : Nat := 0
noncomputable def head.tw16278871845796110771 : Nat := 0
noncomputable def head.tw604627371996746742 : Nat := 0
noncomputable def head.tw8035625575855466936 : Nat := 0
noncomputable def head.tw742351954350328859 : Nat := 0
noncomputable def head.tw16903022960794457021 : Nat := 0
noncomputable def head.tw13743032657059413451 : Nat := 0
noncomputable def head.tw16576625349610184965 : Nat := 0
noncomputable def head.tw14969872817325187116 : Nat := 0
noncomputable def head.tw1620002657737552111 : Nat := 0
noncomputable def head.tw3792679915021438858 : Nat := 0
noncomputable def head.tw17608190574486352970 : Nat := 0
noncomputable def head.tw4945251732147069371 : Nat := 0
noncomputable def head.tw13252461654885649509 : Nat := 0
noncomputable def head.tw12074249297620881909 : Nat := 0
noncomputable def head.tw17275705279478898512 : Nat := 0
noncomputable def head.tw7404141018258913797 : Nat := 0
noncomputable def head.tw5187041380464763778 : Nat := 0
noncomputable def head.tw18240164343135922154 : Nat := 0
noncomputable def head.tw1389810093214676884 : Nat := 0
noncomputable def head.tw11923155195566972133 : Nat := 0
noncomputable def head.tw4277651752456152607 : Nat := 0
noncomputable def head.tw7277520189549225825 : Nat := 0
noncomputable def head.tw6079359036626576793 : Nat := 0
noncomputable def head.tw5788964047882338313 : Nat := 0
noncomputable def head.tw2172669909848549399 : Nat := 0
noncomputable def head.tw7928285938522686346 : Nat := 0
noncomputable def head.tw12853159631425181966 : Nat := 0
noncomputable def head.tw5644874648253431006 : Nat := 0
noncomputable def head.tw17905491414393134947 : Nat := 0
noncomputable def head.tw16871623187472473471 : Nat := 0
noncomputable def head.tw6053349399257934933 : Nat := 0
noncomputable def head.tw2503913181223954130 : Nat := 0
noncomputable def head.tw15647378281017813147 : Nat := 0
noncomputable def head.tw1869210281665392429 : Nat := 0
set_option Elab.async true in
set_option maxHeartbeats 8000000 in
theorem head : PySem.Challenge.rw_tl0008_01.Holds := by
  w_on; o_law; z_head; (case hw => w_witness2)
  intro w s₀ s₁ mg mb G Y fa o pm cd doc dV kV ho hd' hcd hD hmg hg args vals as L hpre hlay hrd hwl hlo
  obtain ⟨_, ZI, ZN, ZT⟩ := z_facts (K := head.heap_1_186) (fun _ => rfl) Y
  have KX := InK.keeps w _ _ ZI L.keeps
  have X : (h0.heap_1 w.params).In s₁.heap := in_sub (by kernel_rfl) KX
  have hfa : mg (Str.ofString "law") = some (.ref 170) := mg_of X G.T.g (by kernel_rfl)
  refine Ground.open G ?_
  intro T B D TE TW
  wrow_args hpre hlay hrd hwl hlo
  rename Heap.IsList _ _ _ => hL
  rename IntsAre _ _ => hI
  have htk := script_toks L ZT
  have e := hmg.symm.trans hfa
  injection e with e
  injection e with e
  subst e
  refine c_law ⟨w, ExcName.means s₀.heap, mg, mb⟩ _ _ _ hI (by omega) 301 4 (some []) (some []) s₁ _ _ htk X T (by decide) (by decide) hL ?_
  rintro r h' tk' st rfl
  refine GoodW.toG ⟨.inl ⟨_, .bool true, [], rfl, ?raises, ?reads, ?post, ?un⟩, st, rfl, hg⟩
  case raises => intro cls; rfl
  case reads => exact ReadsW.bool _
  case post => wrow_post
  case un => intro h; exact ⟨List.nodup_nil, fun a ha => by cases ha⟩
end Mine
end
theorem PySem.Challenge.cw_tl0008_01_holds : PySem.Challenge.rw_tl0008_01.Holds := by
  exact Mine.head
