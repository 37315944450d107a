import PyProof.Rows.All
import Wide.All
import OpenK.AllK
import Wide.FinOn
import Lean
import PySem.Challenge.RW_ij0141_01
set_option Elab.async false
set_option compiler.extract_closed false
set_option genInjectivity false
set_option genSizeOf false

-- part HD
section
open PySem PySem.W PyProof.Rows PySem.Calls
namespace Mine
noncomputable def topRunT (tb : String → Option Builtin) (p : Program) (w : World) (n₀ : Nat) (ann : Option Value) : Nat → SharedT → Thread → Option SharedT
  | 0, _, _ => none
  | n + 1, s, t => match through t with
    | true => some s
    | false => match stepOk n₀ ann t with
      | false => none
      | true => match stepT (denote tb) p w s t with
        | some (s', t') => topRunT tb p w n₀ ann n s' t'
        | none => none
theorem topRunT_of {tb : String → Option Builtin} {p : Program} {w : World} {n₀ : Nat} {ann : Option Value} : ∀ {n : Nat} {s r : SharedT} {t : Thread}, topRunT tb p w n₀ ann n s t = some r → topRun tb p w n₀ ann n s.abs t = some r.abs
  | 0, _, _, _, h => by cases h
  | n + 1, s, r, t, h => by
    unfold topRunT at h
    unfold topRun
    cases he : through t with
    | true => rw [he] at h; cases h; rfl
    | false =>
      rw [he] at h
      cases hk : stepOk n₀ ann t with
      | false => rw [hk] at h; cases h
      | true =>
        rw [hk] at h
        cases hs : stepT (denote tb) p w s t with
        | none => rw [hs] at h; cases h
        | some r => obtain ⟨s₂, t₂⟩ := r; rw [hs] at h; rw [stepT_spec hs]; exact topRunT_of h
noncomputable def treeOf : List Obj → BT → Nat → Option (BT × Nat)
  | [], t, n => some (t, n)
  | o :: l, t, n => match ((t.ins n o).get n).isSome with
    | true => treeOf l (t.ins n o) (n + 1)
    | false => none
theorem treeOf_abs {life : Life} : ∀ {l : List Obj} {t : BT} {n : Nat} {r : BT × Nat}, treeOf l t n = some r → (absHeap r.1 r.2 life).objs.toList = (absHeap t n life).objs.toList ++ l
  | [], t, n, r, h => by cases h; simp
  | o :: l, t, n, r, h => by
    unfold treeOf at h
    cases g : ((t.ins n o).get n).isSome with
    | false => rw [g] at h; cases h
    | true =>
      rw [g] at h
      rw [treeOf_abs (life := life) h, absHeap_ins g]
      simp [Heap.push]
theorem treeOf_heap {h : Heap} {r : BT × Nat} (e : treeOf h.objs.toList .nil 0 = some r) : absHeap r.1 r.2 h.life = h := by
  have := treeOf_abs (life := h.life) e
  obtain ⟨⟨l⟩, life⟩ := h
  show Heap.mk _ _ = Heap.mk _ _
  congr 1
  apply Array.toList_inj.mp
  show (absHeap r.1 r.2 life).objs.toList = _
  refine (show (absHeap r.1 r.2 life).objs.toList = _ from this).trans ?_
  simp [absHeap, BT.list]
noncomputable def topFromT (tb : String → Option Builtin) (p : Program) (w : World) (N : Nat) (s₀ : Shared) : Option Shared :=
  match s₀.heap.isNs mainGlobals && s₀.gens.size == 0 with
  | true => match treeOf s₀.heap.objs.toList .nil 0 with
    | some (t, n) => (topRunT tb p w s₀.heap.objs.size (s₀.heap.nsMap mainGlobals "__annotations__") N ⟨t, n, s₀.heap.life, s₀.gens, s₀.drawn, s₀.toks, s₀.os⟩ (topStub p)).bind fun r =>
      match staticsOk (importedModules p.main.body) s₀.heap r.abs.heap && namesBound p r.abs.heap && gensDone r.abs && laidKept s₀.heap r.abs.heap with
      | true => some r.abs
      | false => none
    | none => none
  | false => none
theorem topFromT_of {tb : String → Option Builtin} {p : Program} {w : World} {N : Nat} {s₀ s₁ : Shared} (h : topFromT tb p w N s₀ = some s₁) : topFrom tb p w N s₀ = some s₁ := by
  unfold topFromT at h
  unfold topFrom
  cases e : s₀.heap.isNs mainGlobals && s₀.gens.size == 0 with
  | false => rw [e] at h; cases h
  | true =>
    rw [e] at h
    cases g : treeOf s₀.heap.objs.toList .nil 0 with
    | none => rw [g] at h; cases h
    | some r =>
      obtain ⟨t, n⟩ := r
      rw [g] at h
      obtain ⟨r, hr, k⟩ := Option.bind_eq_some_iff.mp h
      have x := topRunT_of hr
      have y : (SharedT.mk t n s₀.heap.life s₀.gens s₀.drawn s₀.toks s₀.os).abs = s₀ := by
        have := treeOf_heap g
        obtain ⟨hp, gs, d, tk, os⟩ := s₀
        show Shared.mk _ _ _ _ _ = _
        rw [show absHeap t n hp.life = hp from this]
      rw [y] at x
      show (topRun _ _ _ _ _ _ _ _).bind _ = _
      rw [x]
      exact k
noncomputable def endsT (tb : String → Option Builtin) (p : Program) (w : World) (N : Nat) : Option Shared := (fencedOpening tb p w N).bind (topFromT tb p w N)
theorem endsT_of {tb : String → Option Builtin} {p : Program} {w : World} {N : Nat} {s : Shared} (h : endsT tb p w N = some s) : openEnds tb p w N = some s := by
  obtain ⟨s₀, a, b⟩ := Option.bind_eq_some_iff.mp h
  exact Option.bind_eq_some_iff.mpr ⟨s₀, a, topFromT_of b⟩
theorem left_of {p q : Program} {loose : List Str} {Xt : Shared → Bool} {α : Type} {Yf : Shared → α} {Ya : World → α} {N : Nat} {g0 : Bool}
    (h : ∀ w, (endsT treeTable p w N).map (fun s => (openSeen q loose (importedModules p.main.body) Xt g0 s, Yf s)) = some (openGood q loose, Ya w)) : LeftO p q loose Xt Yf Ya N g0 := fun w => by
  obtain ⟨s, a, b⟩ := Option.map_eq_some_iff.mp (h w)
  rw [endsT_of a]
  exact congrArg some b
end Mine
section
set_option maxRecDepth 100000
set_option maxHeartbeats 8000000
namespace Mine
noncomputable def hview (p : Program) : Program := PySem.W.view p [0, 1, 2, 4, 5, 6, 8, 9, 10, 11, 12, 13, 14, 15, 17, 18, 19, 20, 22, 23, 25, 27, 28, 29, 30, 32, 33, 34, 35, 36]
noncomputable def hloose : List Str := ["_twin_re_1", "UnsupportedOperation", "IOBase", "BufferedIOBase", "TextIOBase", "BytesIO", "StringIO", "join_path", "shlex", "split", "join_shlex", "_find_unsafe"]
noncomputable def hXt (p : Program) (r : RowW) (s : Shared) : Bool := xlAt (hview p) [] s && recOk (RowW.records r) s
noncomputable def hseen (p : Program) (r : RowW) (w : World) := (endsT treeTable p w 10332).map fun s => openSeen (hview p) hloose (importedModules p.main.body) (hXt p r) true s
noncomputable def hheap (p : Program) (as : List Addr) (w : World) := (endsT treeTable p w 10332).map fun s => (as.map s.heap.get?, [753].map s.heap.get?)
noncomputable def hgood (p : Program) := some (openGood (hview p) hloose)
noncomputable def hwell (l : OpenLaw) : Bool := l.wellSaid
lay_quick Mine.hwell
lay_quick Mine.hgood
lay_quick Mine.hseen
lay_quick Mine.hheap
theorem hsaid : hwell PySem.Challenge.rw_ij0141_01 = true := by
  rewrite [PySem.W.Fast.te4058663120364546561]
  kernel_rfl
theorem hrun (w : World) : hseen PySem.Challenge.pw_ij0141_01 PySem.Challenge.rw_ij0141_01.row.toRowW w = hgood PySem.Challenge.pw_ij0141_01 := by
  rewrite [PySem.W.Fast.te2561175940332130176, PySem.W.Fast.te172523069759446859]
  kernel_rfl
theorem map_pair {α β γ : Type} {o : Option α} {f : α → β} {g : α → γ} {b : β} {c : γ} (x : o.map f = some b) (y : o.map g = some c) : o.map (fun s => (f s, g s)) = some (b, c) := by
  cases o with
  | none => cases x
  | some a => cases x; cases y; rfl
end Mine
end
namespace Mine
local macro_rules | `(tactic| o_law) => `(tactic| refine holds_law hsaid fun said => ?_)
local macro_rules | `(tactic| o_head ($_h $k $a $e)) => `(tactic| (
  refine holds_open (q := hview PySem.Challenge.pw_ij0141_01) (loose := hloose) (Xt := hXt PySem.Challenge.pw_ij0141_01 PySem.Challenge.rw_ij0141_01.row.toRowW) (XP := XL (hview PySem.Challenge.pw_ij0141_01) []) (Yf := Hook.obs (kmHook $k $a $e [753])) (Ya := Hook.val (kmHook $k $a $e [753])) (YP := Hook.says (kmHook $k $a $e [753])) (N := 10332) (left_of (p := PySem.Challenge.pw_ij0141_01) fun w => map_pair (hrun w) ?hl) (Hook.of _) (Hook.keeps _) (fun s e => xl_of s (Bool.and_eq_true_iff.mp e).1) XL.keeps (by rfl) (by rfl) (by rfl) (fun s e => recFacts_of (Bool.and_eq_true_iff.mp e).2) (by rfl) (by first | assumption | decide +kernel) (by decide +kernel) ⟨rfl, rfl, rfl, rfl, rfl, by decide +kernel⟩ ?hw ?hc
  case hl =>
    show hheap PySem.Challenge.pw_ij0141_01 $a w = some (Hook.val (kmHook $k $a $e [753]) w)
    rewrite [PySem.W.Fast.te197649769155466864]
    kernel_rfl
  all_goals (rename_i said; clear said)))
set_option maxRecDepth 100000 in
set_option maxHeartbeats 8000000 in
open_top hd for PySem.Challenge.rw_ij0141_01
end Mine
end

theorem Mine.off_HD : True := by
  w_top off
  first | walk1 | trivial

-- part S0
section
open PySem PySem.W PyProof.Rows
set_option maxRecDepth 100000
namespace Mine
open PySem.Sre

noncomputable def reCode : Array Nat := #[14,17,4,1,1,21,9,0,604043296,1,0,0,0,0,0,8,4,0,13,14,21,9,0,604043296,1,0,0,0,0,0,8,4,0,1]

noncomputable def inBits (c : Nat) : Bool := decide (c < 256) && (reCode.getD (6 + (1 + c / 32)) 0).testBit (c % 32)
/-- the signs that need no quotation marks -/
noncomputable def safe (c : Nat) : Bool := inBits c || isWord c

theorem inSet_head (c : Nat) (seen : Sre.Seen) : ∃ seen', inSet reCode c reCode.size 5 true seen = .ok (!safe c, seen') := by
  have e : inSet reCode c reCode.size 5 true seen = inSet reCode c 33 6 false (seen.add 21) := rfl
  rw [e]
  have e2 : inSet reCode c 33 6 false (seen.add 21) = if inBits c = true then .ok (false, (seen.add 21).add 9) else inSet reCode c 32 15 false ((seen.add 21).add 9) := rfl
  rw [e2]
  unfold safe
  by_cases hb : inBits c = true
  · rw [if_pos hb, hb]; exact ⟨_, rfl⟩
  · rw [if_neg hb]
    have hb' : inBits c = false := by simpa using hb
    rw [hb']
    have e3 : ∀ s : Sre.Seen, inSet reCode c 32 15 false s = (do if ← category 4 c then pure (false, (s.add 8).add 59) else inSet reCode c 31 17 false ((s.add 8).add 59)) := fun _ => rfl
    rw [e3]
    have e4 : category 4 c = .ok (isWord c) := by
      show (Except.ok (isWord c)).map (· != false) = _
      cases isWord c <;> rfl
    rw [e4]
    cases isWord c
    · exact ⟨_, rfl⟩
    · exact ⟨_, rfl⟩

theorem bits_again (c : Nat) : (decide (c < 256) && (reCode.getD (21 + (1 + c / 32)) 0).testBit (c % 32)) = inBits c := by
  unfold inBits
  by_cases h : c < 256
  · have hk : c / 32 < 8 := by omega
    have e : ∀ k : Nat, k < 8 → reCode.getD (21 + (1 + k)) 0 = reCode.getD (6 + (1 + k)) 0 := by decide
    rw [e _ hk]
  · simp [h]

theorem inSet_body (c : Nat) (seen : Sre.Seen) : ∃ seen', inSet reCode c reCode.size 20 true seen = .ok (!safe c, seen') := by
  have e : inSet reCode c reCode.size 20 true seen = inSet reCode c 33 21 false (seen.add 21) := rfl
  rw [e]
  have e2 : inSet reCode c 33 21 false (seen.add 21) = if (decide (c < 256) && (reCode.getD (21 + (1 + c / 32)) 0).testBit (c % 32)) = true then .ok (false, (seen.add 21).add 9) else inSet reCode c 32 30 false ((seen.add 21).add 9) := rfl
  rw [e2, bits_again]
  unfold safe
  by_cases hb : inBits c = true
  · rw [if_pos hb, hb]; exact ⟨_, rfl⟩
  · rw [if_neg hb]
    have hb' : inBits c = false := by simpa using hb
    rw [hb']
    have e3 : ∀ s : Sre.Seen, inSet reCode c 32 30 false s = (do if ← category 4 c then pure (false, (s.add 8).add 59) else inSet reCode c 31 32 false ((s.add 8).add 59)) := fun _ => rfl
    rw [e3]
    have e4 : category 4 c = .ok (isWord c) := by
      show (Except.ok (isWord c)).map (· != false) = _
      cases isWord c <;> rfl
    rw [e4]
    cases isWord c
    · exact ⟨_, rfl⟩
    · exact ⟨_, rfl⟩

theorem admitted_spec (m : Sre.M) (hc : m.code = reCode) : ∀ (fuel s : Nat) (seen : Sre.Seen), m.lim + 1 - s ≤ fuel →
    (∃ i seen', M.admitted m fuel s seen = .ok (some i, seen') ∧ s ≤ i ∧ i < m.lim ∧ safe (m.text.getD i 0) = false) ∨
    ((∃ seen', M.admitted m fuel s seen = .ok (none, seen')) ∧ ∀ i, s ≤ i → i < m.lim → safe (m.text.getD i 0) = true)
  | 0, s, seen, h => .inr ⟨⟨seen, rfl⟩, fun i h1 h2 => by omega⟩
  | fuel + 1, s, seen, h => by
    unfold M.admitted
    by_cases hs : s ≥ m.lim
    · rw [if_pos hs]
      exact .inr ⟨⟨_, rfl⟩, fun i h1 h2 => by omega⟩
    · rw [if_neg hs]
      obtain ⟨seen', e⟩ := inSet_head (m.text.getD s 0) seen
      rw [hc, e]
      cases hb : safe (m.text.getD s 0) with
      | false => exact .inl ⟨s, seen', rfl, Nat.le_refl _, by omega, hb⟩
      | true =>
        rcases admitted_spec m hc fuel (s + 1) seen' (by omega) with ⟨i, s2, e1, h1, h2, h3⟩ | ⟨⟨s2, e1⟩, h1⟩
        · exact .inl ⟨i, s2, e1, by omega, h2, h3⟩
        · refine .inr ⟨⟨s2, e1⟩, fun i h2 h3 => ?_⟩
          by_cases hi : i = s
          · rw [hi]; exact hb
          · exact h1 i (by omega) h3
end Mine
end

-- part S0b
section
open PySem PySem.W PyProof.Rows
set_option maxRecDepth 100000
namespace Mine
open PySem.Sre

theorem step_in (m : Sre.M) (hc : m.code = reCode) (hp : m.pc = 18) (ho : m.outcome = none) (ha : m.answer = none) (hl : m.pos < m.lim) (hs : safe (m.text.getD m.pos 0) = false) :
    ∃ seen', m.step = { m with seen := seen', pc := 33, pos := m.pos + 1 } := by
  obtain ⟨code, text, lim, start, lastStart, wholeText, mustAdvance, pc, pos, handed, outermost, marks, lastmark, lastindex, loops, inner, frames, weight, answer, seen, outcome⟩ := m
  dsimp only at hc hp ho ha hl hs
  subst hc hp ho ha
  obtain ⟨seen', e⟩ := inSet_body (text.getD pos 0) (seen.add 13)
  rw [hs] at e
  refine ⟨seen', ?_⟩
  unfold M.step
  have h2 : accepts reCode 18 (text.getD pos 0) (seen.add 13) = .ok (true, seen') := e
  show (if pos ≥ lim then _ else (match accepts reCode 18 (text.getD pos 0) (seen.add 13) with | .error why => _ | .ok (false, s) => _ | .ok (true, s) => _) : Sre.M) = _
  rw [if_neg (by omega), h2]
  rfl

theorem run_found (m : Sre.M) (i : Nat) (hc : m.code = reCode) (hp : m.pc = 18) (ho : m.outcome = none) (ha : m.answer = none) (hw : m.wholeText = false) (hf : m.frames = []) (hg : m.weight = 0) (hl : i < m.lim) (hs : safe (m.text.getD i 0) = false) (seen : Sre.Seen) :
    ∃ m', ({ m with mustAdvance := false, seen := seen }.attemptAt i true).runFor 4 = m' ∧ m'.outcome = some .matched := by
  obtain ⟨code, text, lim, start, lastStart, wholeText, mustAdvance, pc, pos, handed, outermost, marks, lastmark, lastindex, loops, inner, frames, weight, answer, seen0, outcome⟩ := m
  dsimp only at hc hp ho ha hl hs hw hf hg
  subst hc hp ho ha hw hf hg
  refine ⟨_, rfl, ?_⟩
  let mA : Sre.M := ⟨reCode, text, lim, i, lastStart, false, false, 18, i, i, true, marks, -1, -1, loops, inner, [{ wait := .nextStart, pc := 18, pos := i, outermost := true }], 1, none, seen, none⟩
  obtain ⟨s1, e1⟩ := step_in mA rfl rfl rfl rfl hl hs
  have e0 : (⟨reCode, text, lim, start, lastStart, false, false, 18, pos, handed, outermost, marks, lastmark, lastindex, loops, inner, [], 0, none, seen, none⟩ : Sre.M).attemptAt i true = mA := rfl
  show (M.runFor 4 ((⟨reCode, text, lim, start, lastStart, false, false, 18, pos, handed, outermost, marks, lastmark, lastindex, loops, inner, [], 0, none, seen, none⟩ : Sre.M).attemptAt i true)).outcome = _
  rw [e0]
  show (M.runFor 3 mA.step).outcome = _
  rw [e1]
  rfl

theorem search_runs (text : Array Nat) (h : 1 ≤ text.size) :
    (∃ m', (forSearch reCode text 0 0 text.size false).runFor 4 = m' ∧ m'.outcome = some .failed ∧ ∀ i, i < text.size → safe (text.getD i 0) = true) ∨
    (∃ m', (forSearch reCode text 0 0 text.size false).runFor 4 = m' ∧ m'.outcome = some .matched ∧ ∃ i, i < text.size ∧ safe (text.getD i 0) = false) := by
  let m0 : Sre.M := ⟨reCode, text, text.size, 0, text.size, false, false, 18, 0, 0, true, #[], -1, -1, #[], none, [], 0, none, ({} : Sre.Seen).add 14, none⟩
  have e : forSearch reCode text 0 0 text.size false = m0.attemptFrom 0 true := by
    unfold forSearch
    show (if (decide (0 > text.size) || decide (text.size - 0 < 1)) = true then _ else _ : Sre.M) = _
    rw [if_neg (by rw [Bool.or_eq_true, decide_eq_true_eq, decide_eq_true_eq]; omega)]
    rfl
  rw [e]
  have e2 : m0.attemptFrom 0 true = (match M.admitted m0 (text.size + 1 - 0) 0 m0.seen with
    | .ok (some s, seen) => { m0 with mustAdvance := false, seen := seen }.attemptAt s true
    | .ok (none, seen) => { m0 with seen := seen }.say false
    | .error why => m0.stick why) := rfl
  rw [e2]
  rcases admitted_spec m0 rfl (text.size + 1 - 0) 0 m0.seen (Nat.le_refl _) with ⟨i, s1, e1, _, h2, h3⟩ | ⟨⟨s1, e1⟩, h1⟩
  · rw [e1]
    obtain ⟨m', e3, e4⟩ := run_found m0 i rfl rfl rfl rfl rfl rfl rfl h2 h3 s1
    exact .inr ⟨m', e3, e4, i, h2, h3⟩
  · rw [e1]
    exact .inl ⟨_, rfl, rfl, fun i hi => h1 i (Nat.zero_le _) hi⟩
end Mine
end

-- part S1
section
open PySem PySem.W PyProof.Rows PySem.Calls
set_option maxRecDepth 100000
namespace Mine
open PySem.Sre PySem.Builtin.Re

theorem entry_search : entryFor table "re.Pattern.search" = some Builtin.«re.Pattern.search» := entryFor_of_tree (by kernel_rfl)
theorem quiet_search {as : Args} : (Code.builtin "re.Pattern.search" as).quiet = true := Code.quiet_builtin _ (by decide +kernel)

section
variable {prog : Program} {w : World} {M : Model} {A : Around} {E : Value → Shared → Prop} {s : Shared} {h₀ : Heap} {L : Addr} {m : PySem.Str → Option Value} {news : List (Addr × Obj)}

theorem check_search {P : Params} {pr : Program} {x : PySem.Str} {t : Tok} : peek (Mine.hd.heap_1 P) ⟨pr, P⟩ (checkBoundCall "re.Pattern.search" ⟨[.ref 56, .str x t], []⟩) = some () := by kernel_rfl

theorem target_search {P : Params} {pr : Program} {x : PySem.Str} {t : Tok} : peek (Mine.hd.heap_1 P) ⟨pr, P⟩ (reTarget "re.Pattern.search" "search" ⟨[.ref 56, .str x t], []⟩) =
   some { pattern := .ref 56, string := .str x t, code := reCode, text := x.cps, kind := 0, groups := 0, pos := min (0:Int).toNat x.cps.size, lim := min (2^63-1 : Int).toNat x.cps.size } := by kernel_rfl
end
end Mine
end

-- part S2
section
open PySem PySem.W PyProof.Rows PySem.Calls
set_option maxRecDepth 100000
namespace Mine
open PySem.Sre PySem.Builtin.Re

section
variable {prog : Program} {w : World} {M : Model} {A : Around} {E : Value → Shared → Prop} {s : Shared} {h₀ : Heap} {L : Addr} {m : PySem.Str → Option Value} {news : List (Addr × Obj)}

theorem if_no {α : Type} {M : Model} {A : Around} {E : Value → Shared → Prop} {s : Shared} {c : Bool} {a b : Sem α} {Q : α → Shared → Prop} (hc : c = false) (h : wpAny M A b Q E s) : wpAny M A (if c = true then a else b) Q E s := by
  subst hc; exact h
theorem if_yes {α : Type} {M : Model} {A : Around} {E : Value → Shared → Prop} {s : Shared} {c : Bool} {a b : Sem α} {Q : α → Shared → Prop} (hc : c = true) (h : wpAny M A a Q E s) : wpAny M A (if c = true then a else b) Q E s := by
  subst hc; exact h

theorem drive_eq (n : Nat) (hn : 0 < n) (m : Sre.M) (hm : (m.runFor 4).outcome.isSome = true) : reDrive n m = pure (m.runFor 4) := by
  cases n with
  | zero => cases hn
  | succ n =>
    unfold reDrive
    show (if (m.runFor 4).outcome.isSome = true then pure (m.runFor 4) else _) = _
    rw [if_pos hm]

theorem rules_pass {α : Type} (l : List α) (c : α → Bool) (tag : α → String) {Q : PUnit → Shared → Prop} (h : Q ⟨⟩ s) :
    wpAny M A (forIn l PUnit.unit (fun i _ => if c i = true then rule (tag i) >>= fun _ => pure (ForInStep.yield PUnit.unit) else pure (ForInStep.yield PUnit.unit))) Q E s := by
  induction l with
  | nil => exact wpAny_pure h
  | cons a r ih =>
    rw [List.forIn_cons]
    refine wpAny_bind ?_
    cases c a
    · exact wpAny_pure ih
    · exact wpAny_bind (wpAny_rule (wpAny_pure ih))

theorem run_to_end {m : Sre.M} {o : Sre.Outcome} (ho : (m.runFor 4).outcome = some o) {Q : Option Sre.M → Shared → Prop}
   (h : match o with | .matched => Q (some (m.runFor 4)) s | .failed => Q none s | .stuck _ => False) : wpAny M A (reRunToEnd m) Q E s := by
  unfold reRunToEnd
  refine wpAny_bind (wpAny_of_eq (drive_eq (2 ^ 64) (Nat.two_pow_pos 64) m (by rw [ho]; rfl)) ?_)
  refine wpAny_bind (rules_pass _ _ _ ?_)
  rw [ho]
  cases o with
  | matched => exact wpAny_pure h
  | failed => exact wpAny_pure h
  | stuck why => exact h.elim

theorem find_call {x : PySem.Str} {t : Tok} {Q : Value → Shared → Prop} (F : Fr h₀ L s.heap m) (X₀ : (Mine.hd.heap_1 w.params).In h₀) (N : News h₀ L s.heap news) (hx : 1 ≤ x.cps.size) (hx2 : x.cps.size ≤ 2 ^ 24)
    (h0 : (∀ i, i < x.cps.size → safe (x.cps.getD i 0) = true) → Q .none s)
    (h1 : (∃ i, i < x.cps.size ∧ safe (x.cps.getD i 0) = false) → ∀ a h', Fr h₀ L h' m → News h₀ L h' news → Q (.ref a) { s with heap := h' }) :
    wpAny (model prog w) A (call (.ref 759) [.str x t]) Q E s := by
  have X := X₀.keeps F.keep
  have ho := X 759 _ (by kernel_rfl : (Mine.hd.heap_1 w.params).lookup 759 = some { cls := .type "builtin_function_or_method", data := .fields #[.builtin "re.Pattern.search", .ref 56] })
  refine wpAny_call (codeAny_of_tree ?_)
  show wpAny _ A.in1 (callAny (.ref 759) ⟨[.str x t], []⟩) _ _ s
  simp only [callAny]
  refine wpAny_bind (wpAny_load ho ?_)
  simp only [show (Value.type "builtin_function_or_method" == Value.type "method" || Value.type "builtin_function_or_method" == Value.type "builtin_function_or_method" || Value.type "builtin_function_or_method" == Value.type "method-wrapper") = true by decide, if_true]
  refine if_yes (by decide) ?_
  refine wpAny_bind ((Looks.of_peek (K := Mine.hd.heap_1 w.params) (r := ()) X check_search).here ?_)
  refine wpAny_bind (wpAny_pure (wpAny_pure ?_))
  refine ⟨quiet_search, codeAny_builtin entry_search ?_⟩
  unfold Builtin.«re.Pattern.search»
  refine wpAny_bind ((Looks.of_peek X target_search).here ?_)
  have e1 : min (0:Int).toNat x.cps.size = 0 := Nat.zero_min _
  have e2 : min (2^63-1 : Int).toNat x.cps.size = x.cps.size := by
    have e3 : (2^63-1 : Int).toNat = 9223372036854775807 := by decide
    rw [e3]; omega
  dsimp only
  rw [e1, e2]
  unfold reAnswer
  rcases search_runs x.cps hx with ⟨m', hm, ho', hs⟩ | ⟨m', hm, ho', hs⟩
  · refine wpAny_bind (run_to_end (o := .failed) (by rw [hm]; exact ho') ?_)
    exact wpAny_pure (h0 hs)
  · refine wpAny_bind (run_to_end (o := .matched) (by rw [hm]; exact ho') ?_)
    refine wpAny_bind ?_
    unfold reNewMatch
    refine wpAny_bind ?_
    refine wpAny_newObj_type ?_ (by show (2:Nat) ≤ sizeLine; decide)
    refine wpAny_newObj_type ?_
    exact wpAny_pure (h1 hs _ _ ((F.push _).push _) (fun p hp => ((News.push (F.push _) (News.push F N _) _) p (.tail _ (.tail _ hp)))))
end
end Mine
end

-- part P1
section
open PySem PySem.W PyProof.Rows
set_option maxRecDepth 100000
namespace Mine

/-- each sign c for the signs z -/
noncomputable def swap (c : Nat) (z : List Nat) (l : List Nat) : List Nat := l.flatMap fun d => if d = c then z else [d]

theorem swap_append (c : Nat) (z a b : List Nat) : swap c z (a ++ b) = swap c z a ++ swap c z b := by
  unfold swap; rw [List.flatMap_append]
theorem swap_free (c : Nat) (z : List Nat) : ∀ l : List Nat, c ∉ l → swap c z l = l
  | [], _ => rfl
  | k :: r, h => by
    have h1 : ¬ k = c := fun e => h (e ▸ List.mem_cons_self ..)
    have ih := swap_free c z r fun m => h (List.mem_cons_of_mem _ m)
    unfold swap at ih ⊢
    rw [List.flatMap_cons, if_neg h1, ih]; rfl
theorem swap_one (c : Nat) (z : List Nat) : swap c z [c] = z := by simp [swap]

theorem swap_join (c : Nat) (z : PySem.Str) : ∀ parts : List PySem.Str, (∀ p ∈ parts, c ∉ p.cps.toList) → swap c z.cps.toList (PySem.Str.join ⟨#[c]⟩ parts).cps.toList = (PySem.Str.join z parts).cps.toList
  | [], _ => rfl
  | [p], h => swap_free c _ _ (h p (List.mem_singleton.mpr rfl))
  | p :: q :: r, h => by
    have ih := swap_join c z (q :: r) fun a ha => h a (List.mem_cons_of_mem _ ha)
    show swap c z.cps.toList (p ++ ⟨#[c]⟩ ++ PySem.Str.join ⟨#[c]⟩ (q :: r)).cps.toList = (p ++ z ++ PySem.Str.join z (q :: r)).cps.toList
    simp only [PySem.Str.cps_append, Array.toList_append]
    rw [swap_append, swap_append, ih, swap_free c _ _ (h p (List.mem_cons_self ..))]
    show p.cps.toList ++ swap c z.cps.toList [c] ++ _ = _
    rw [swap_one]

theorem replace_swap (x z : PySem.Str) (c : Nat) : (Txt.replace x ⟨#[c]⟩ z).cps.toList = swap c z.cps.toList x.cps.toList := by
  rw [StrLaws.replace_one, ← swap_join c z _ (StrLaws.split_free x c), StrLaws.join_split]

theorem swap_length (c : Nat) (z : List Nat) (n : Nat) (hz : z.length ≤ n) (hn : 1 ≤ n) : ∀ l : List Nat, (swap c z l).length ≤ n * l.length
  | [] => Nat.zero_le _
  | k :: r => by
    have ih := swap_length c z n hz hn r
    unfold swap at ih ⊢
    rw [List.flatMap_cons, List.length_append, List.length_cons, Nat.mul_succ]
    have : (if k = c then z else [k]).length ≤ n := by split <;> simp_all
    omega

/-- what quote gives -/
noncomputable def quoteL (l : List Nat) : List Nat :=
  if l = [] then [39, 39] else if l.all safe then l else 39 :: (swap 39 [39, 34, 39, 34, 39] l ++ [39])

noncomputable def strL (l : List Nat) : PySem.Str := ⟨l.toArray⟩
theorem strL_cps (l : List Nat) : (strL l).cps.toList = l := by simp [strL]
theorem strL_of (x : PySem.Str) : strL x.cps.toList = x := by cases x; simp [strL]
theorem strL_len (l : List Nat) : (strL l).length = l.length := by simp [strL, PySem.Str.length]
theorem str_len (x : PySem.Str) : x.cps.toList.length = x.length := by simp [PySem.Str.length]
theorem strL_eq {x : PySem.Str} {l : List Nat} (h : x.cps.toList = l) : x = strL l := by rw [← h, strL_of]
theorem strL_inj {a b : List Nat} (h : strL a = strL b) : a = b := by rw [← strL_cps a, h, strL_cps]
theorem strL_append (a b : List Nat) : strL a ++ strL b = strL (a ++ b) := strL_eq (by simp [PySem.Str.cps_append, strL_cps])

theorem quote_nil {x : PySem.Str} (h : (x.length : Int) = 0) : PySem.Str.ofString "''" = strL (quoteL x.cps.toList) := by
  have e : x.cps.toList = [] := List.length_eq_zero_iff.mp (by rw [str_len]; omega)
  rw [e]; rfl

theorem all_safe {x : PySem.Str} : (∀ i, i < x.cps.size → safe (x.cps.getD i 0) = true) ↔ x.cps.toList.all safe = true := by
  rw [List.all_eq_true]
  constructor
  · intro h c hc
    obtain ⟨i, hi, rfl⟩ := List.getElem_of_mem hc
    have := h i (by simpa using hi)
    simpa [Array.getD, show i < x.cps.size by simpa using hi] using this
  · intro h i hi
    refine h _ ?_
    simp [Array.getD, hi]

theorem quote_safe {x : PySem.Str} (h : (x.length : Int) ≠ 0) (hs : ∀ i, i < x.cps.size → safe (x.cps.getD i 0) = true) : x = strL (quoteL x.cps.toList) := by
  have e : x.cps.toList ≠ [] := fun e => by have := str_len x; rw [e] at this; simp at this; omega
  unfold quoteL
  rw [if_neg e, if_pos (all_safe.mp hs), strL_of]

theorem repl_len (x : PySem.Str) : (Txt.replace x (PySem.Str.ofString "'") (PySem.Str.ofString "'\"'\"'")).length ≤ 5 * x.length := by
  rw [← str_len, show PySem.Str.ofString "'" = ⟨#[39]⟩ by decide +kernel, replace_swap, ← str_len x]
  exact swap_length _ _ 5 (by decide +kernel) (by decide) _

theorem quote_marked {x : PySem.Str} (h : (x.length : Int) ≠ 0) (hs : ∃ i, i < x.cps.size ∧ safe (x.cps.getD i 0) = false) :
    PySem.Str.ofString "'" ++ Txt.replace x (PySem.Str.ofString "'") (PySem.Str.ofString "'\"'\"'") ++ PySem.Str.ofString "'" = strL (quoteL x.cps.toList) := by
  have e : x.cps.toList ≠ [] := fun e => by have := str_len x; rw [e] at this; simp at this; omega
  have e2 : ¬ x.cps.toList.all safe = true := fun q => by
    obtain ⟨i, h1, h2⟩ := hs
    rw [all_safe.mpr q i h1] at h2; cases h2
  unfold quoteL
  rw [if_neg e, if_neg e2]
  refine strL_eq ?_
  simp only [PySem.Str.cps_append, Array.toList_append]
  rw [show PySem.Str.ofString "'" = ⟨#[39]⟩ by decide +kernel, replace_swap, show (PySem.Str.ofString "'\"'\"'").cps.toList = [39, 34, 39, 34, 39] by decide +kernel]
  simp
end Mine
end

-- part L1
section
open PySem PySem.W PyProof.Rows PySem.Calls PySem.Spec
set_option maxRecDepth 100000
namespace Mine

noncomputable def EndL (h₀ : Heap) (L I : Addr) (own : List (Addr × Obj)) (J : (PySem.Str → Option Value) → List (Addr × Obj) → Prop) (s₁ : Shared) (Q : Flow → Shared → Prop) (f : Flow) (s₂ : Shared) : Prop :=
  match f with
  | .ret v => Q (.ret v) s₂
  | .brk => Q .next s₂
  | _ => ∃ h' tk m' news', s₂ = { s₁ with heap := h', toks := tk } ∧ Fr h₀ L h' m' ∧ News h₀ L h' (news' ++ own) ∧ (∀ p ∈ news', p.1 ≠ I) ∧ J m' news'

section
variable {prog : Program} {w : World} {A : Around} {E : Value → Shared → Prop} {s : Shared} {env : Env} {h₀ : Heap} {x : PySem.Str} {body : List Stmt} {Q : Flow → Shared → Prop}

theorem news_swap {L : Addr} {h : Heap} {a b : List (Addr × Obj)} (N : News h₀ L h (a ++ b)) : News h₀ L h (b ++ a) :=
  fun p hp => N p ((List.mem_append.mp hp).elim (fun h => List.mem_append.mpr (.inr h)) fun h => List.mem_append.mpr (.inl h))

theorem for_ledger {l : Addr} {vs : List Value} {n₀ : Nat} {m₀ : PySem.Str → Option Value} {news : List (Addr × Obj)} (J : Nat → (PySem.Str → Option Value) → List (Addr × Obj) → Prop)
    (hh : A.handled = none) (F : Fr h₀ env.locals s.heap m₀) (N : News h₀ env.locals s.heap news) (hl : (l, listOf vs.toArray n₀) ∈ news) (hj : J 0 m₀ news)
    (turn : ∀ i v m₁ news₁ h tk own I, vs[i]? = some v → J i m₁ news₁ → (∀ p ∈ news₁, p.1 ≠ I) → (∀ p ∈ own, p.1 = I ∨ p.1 = l) → Fr h₀ env.locals h (fun y => if y = x then some v else m₁ y) → News h₀ env.locals h (news₁ ++ own) →
      wpAny (model prog w) A (execs body env) (EndL h₀ env.locals I own (J (i + 1)) { s with heap := h, toks := tk } Q) E { s with heap := h, toks := tk })
    (done : ∀ m₁ news₁ h tk, J vs.length m₁ news₁ → Fr h₀ env.locals h m₁ → News h₀ env.locals h news₁ → Q .next { s with heap := h, toks := tk }) :
    wpAny (model prog w) A (pyIter (.ref l)) (fun it s₂ => LoopAtV prog w A h₀ env x body Q E it s₂) E s := by
  have hls : s.heap.IsList l vs.toArray := News.isList N hl
  have hne : l ≠ s.heap.objs.size := Nat.ne_of_lt (Heap.lt_size (N _ hl).1)
  refine wpAny_pyIter_list hls ?_
  have W := Walks.list (prog := prog) (w := w) hh s.heap.objs.size l hne vs.toArray
  have hlen : vs.toArray.size = vs.length := by simp
  rw [hlen] at W
  refine ⟨_, _, _, vs.length, _, _, m₀, news, J, rfl, W, ?_, ?_, ?_, ⟨⟨_, Heap.get?_push_size _ rfl, rfl, rfl⟩, hls.at fun o e => Heap.get?_push_of_some _ e⟩, F.push _, (fun p hp => ⟨Heap.get?_push_of_some _ (N p hp).1, (N p hp).2⟩), hj, ?_, ?_⟩
  · intro hm
    rcases List.mem_cons.mp hm with e | hm
    · exact absurd F.ns.lt (e ▸ Nat.lt_irrefl _)
    · exact (N _ hl).2.1 (List.mem_singleton.mp hm).symm
  · intro b hb
    rw [List.mem_singleton.mp hb]
    exact next_is_new F
  · intro p hp hI
    exact absurd (Heap.lt_size (N p hp).1) ((List.mem_singleton.mp hI) ▸ Nat.lt_irrefl _)
  · rintro i v m₁ news₁ s₁ own ⟨hh', tk', rfl⟩ hin hP hJ hoff hown _ _ _ F₁ N₁
    have hx : vs[i]? = some v := by simpa using hP
    refine wpAny_mono (turn i v m₁ news₁ hh' tk' own _ hx hJ (fun p hp e => hoff p hp (List.mem_singleton.mpr e)) (fun p hp => ?_) F₁ (news_swap N₁)) (fun f s₂ p => ?_) fun _ _ e => e
    · rcases List.mem_cons.mp (hown p hp) with e | e
      · exact .inl e
      · exact .inr (List.mem_singleton.mp e)
    · have fin : (∃ h' tk m' news', s₂ = { s with heap := h', toks := tk } ∧ Fr h₀ env.locals h' m' ∧ News h₀ env.locals h' (news' ++ own) ∧ (∀ p ∈ news', p.1 ≠ s.heap.objs.size) ∧ J (i + 1) m' news') →
          LoopStepU h₀ env.locals [s.heap.objs.size] own (J (i + 1)) { s with heap := hh', toks := tk' } .next s₂ := by
        rintro ⟨h', tk, m', news', e, F', N', hn, hm⟩
        exact ⟨rfl, h', tk, m', news', e, F', news_swap N', fun p hp hq => hn p hp (List.mem_singleton.mp hq), hm⟩
      cases f with
      | ret v => exact .ret p
      | brk => exact .brk p
      | next => exact .next (fin p)
      | cont => exact .cont (fin p)
  · rintro h' tk m' news' F' N' _ hJ
    exact done m' news' h' tk hJ F' N'

theorem for_of {m : PySem.Str → Option Value} {px pos : Pos} {iter : Expr} (_F : Fr h₀ env.locals s.heap m) (hx : env.kindOf x = some .local)
    (hp : (env.scope.kind == .class || (env.scope.kind == .module && env.locals != env.globals)) = false)
    (h : wpAny (model prog w) A (eval iter env) (fun xv s₁ => wpAny (model prog w) A (pyIter xv) (fun it s₂ => LoopAtV prog w A h₀ env x body Q (fun _ _ => False) it s₂) (fun _ _ => False) s₁) (fun _ _ => False) s)
    (hs : ∀ x, foldedSetIterable iter env x = pure x := by intro _; rfl) :
    wpAny (model prog w) A (exec (.For (.Name x px) iter body [] pos) env) Q E s := wpAny_noRaise (For_invV h₀ hx hp h hs PassesOwn.never)

/-- a turn's end: the frame's map is m₀ with what the ghost state says, the loop's own name aside -/
noncomputable def EndM {σ : Type} (h₀ : Heap) (L I : Addr) (x : PySem.Str) (own : List (Addr × Obj)) (up : σ → PySem.Str → Option Value) (R : σ → List (Addr × Obj) → Prop) (s₁ : Shared) (Q : Flow → Shared → Prop) (f : Flow) (s₂ : Shared) : Prop :=
  match f with
  | .ret v => Q (.ret v) s₂
  | .brk => Q .next s₂
  | _ => ∃ h' tk m' news' a, s₂ = { s₁ with heap := h', toks := tk } ∧ Fr h₀ L h' m' ∧ (∀ z, z ≠ x → m' z = up a z) ∧ News h₀ L h' (news' ++ own) ∧ (∀ p ∈ news', p.1 ≠ I) ∧ R a news'

theorem for_ledgerM {σ : Type} {l : Addr} {vs : List Value} {n₀ : Nat} {m₀ : PySem.Str → Option Value} {news : List (Addr × Obj)} (up : σ → (PySem.Str → Option Value) → PySem.Str → Option Value) (R : Nat → σ → List (Addr × Obj) → Prop)
    (hh : A.handled = none) (F : Fr h₀ env.locals s.heap m₀) (N : News h₀ env.locals s.heap news) (hl : (l, listOf vs.toArray n₀) ∈ news) (h0 : ∃ a₀, (∀ z, z ≠ x → m₀ z = up a₀ m₀ z) ∧ R 0 a₀ news)
    (turn : ∀ i v a news₁ h tk own I, vs[i]? = some v → R i a news₁ → (∀ p ∈ news₁, p.1 ≠ I) → (∀ p ∈ own, p.1 = I ∨ p.1 = l) → Fr h₀ env.locals h (fun y => if y = x then some v else up a m₀ y) → News h₀ env.locals h (news₁ ++ own) →
      wpAny (model prog w) A (execs body env) (EndM h₀ env.locals I x own (fun a => up a m₀) (R (i + 1)) { s with heap := h, toks := tk } Q) E { s with heap := h, toks := tk })
    (done : ∀ a u news₁ h tk, R vs.length a news₁ → Fr h₀ env.locals h (fun y => if y = x then u else up a m₀ y) → News h₀ env.locals h news₁ → Q .next { s with heap := h, toks := tk }) :
    wpAny (model prog w) A (pyIter (.ref l)) (fun it s₂ => LoopAtV prog w A h₀ env x body Q E it s₂) E s := by
  obtain ⟨a₀, hu, hr⟩ := h0
  refine for_ledger (fun i m n => ∃ a, R i a n ∧ ∀ z, z ≠ x → m z = up a m₀ z) hh F N hl ⟨a₀, hr, hu⟩ ?_ ?_
  · rintro i v m₁ news₁ h tk own I hv ⟨a, ha, hm⟩ hI ho F₁ N₁
    have e : (fun y => if y = x then some v else m₁ y) = fun y => if y = x then some v else up a m₀ y := by
      funext y
      by_cases hy : y = x
      · rw [if_pos hy, if_pos hy]
      · rw [if_neg hy, if_neg hy, hm y hy]
    rw [e] at F₁
    refine wpAny_mono (turn i v a news₁ h tk own I hv ha hI ho F₁ N₁) (fun f s₂ p => ?_) fun _ _ e => e
    cases f with
    | ret v => exact p
    | brk => exact p
    | next => obtain ⟨h', tk', m', news', a', e1, e2, e3, e4, e5, e6⟩ := p; exact ⟨h', tk', m', news', e1, e2, e4, e5, a', e6, e3⟩
    | cont => obtain ⟨h', tk', m', news', a', e1, e2, e3, e4, e5, e6⟩ := p; exact ⟨h', tk', m', news', e1, e2, e4, e5, a', e6, e3⟩
  · rintro m₁ news₁ h tk ⟨a, ha, hm⟩ F₁ N₁
    have e : m₁ = fun y => if y = x then m₁ x else up a m₀ y := by
      funext y
      by_cases hy : y = x
      · rw [if_pos hy, hy]
      · rw [if_neg hy, hm y hy]
    rw [e] at F₁
    exact done a _ news₁ h tk ha F₁ N₁
end
end Mine
end

-- part C0
section
open PySem PySem.W PyProof.Rows PySem.Calls
set_option maxRecDepth 100000
namespace Mine

/-- a contract: what the call of the def at f on the values vs gives; `post` speaks of the value and the ledger behind the call -/
noncomputable def Ctr (D U : Nat) (w : World) (p : Program) (loose : List PySem.Str) (mean : ExcName → Option Value) (mg mb : PySem.Str → Option Value) (f : Addr) (vs : List Value) (news : List (Addr × Obj)) (post : Value → List (Addr × Obj) → Prop) : Prop :=
  ∀ (dp un : Nat) (gd : Option (List Code)) (cn : PySem.Str) (cs : Scope) (a : Addr) (ccd : Value) (cl : List (PySem.Str × Addr)) (outer : List Env) (A₀ : Around) (base h₀ : Heap) (L : Addr) (m : PySem.Str → Option Value) (s : Shared) (Q E : Value → Shared → Prop),
    Below A₀ base outer h₀ → Fr h₀ L s.heap m → (Mine.hd.heap_1 w.params).In h₀ → News h₀ L s.heap news → Top p loose mean mg mb h₀ → cs.kind = .function → dp + D < recursionLimit → un + U < cLine →
    (∀ r h' tk' news', Fr h₀ L h' m → News h₀ L h' news' → post r news' → Q r { s with heap := h', toks := tk' }) →
    wpAny (model PySem.Challenge.rw_ij0141_01.row.prog w) (ktrTop dp un gd cn cs L a ccd cl outer) (call (.ref f) vs) Q E s

/-- a contract, taken at a call -/
theorem Ctr.use {D U : Nat} {w : World} {p : Program} {loose : List PySem.Str} {mean : ExcName → Option Value} {mg mb : PySem.Str → Option Value} {f : Addr} {vs : List Value} {news : List (Addr × Obj)} {post : Value → List (Addr × Obj) → Prop}
    (C : Ctr D U w p loose mean mg mb f vs news post) {dp un : Nat} {gd : Option (List Code)} {cn : PySem.Str} {cs : Scope} {a : Addr} {ccd : Value} {cl : List (PySem.Str × Addr)} {outer : List Env} {A₀ : Around} {base h₀ : Heap} {L : Addr} {m : PySem.Str → Option Value} {s : Shared} {Q E : Value → Shared → Prop}
    (B : Below A₀ base outer h₀) (F : Fr h₀ L s.heap m) (X : (Mine.hd.heap_1 w.params).In h₀) (N : News h₀ L s.heap news) (T : Top p loose mean mg mb h₀) (hk : cs.kind = .function) (hd : dp + D < recursionLimit) (hu : un + U < cLine)
    (h : ∀ r h' tk' news', Fr h₀ L h' m → News h₀ L h' news' → post r news' → Q r { s with heap := h', toks := tk' }) :
    wpAny (model PySem.Challenge.rw_ij0141_01.row.prog w) (ktrTop dp un gd cn cs L a ccd cl outer) (call (.ref f) vs) Q E s := C _ _ _ _ _ _ _ _ _ _ _ _ _ _ _ _ _ B F X N T hk hd hu h
theorem units_under_tc (A : Around) (C : Addr) (pos : List Value) (kw : List (PySem.Str × Value)) : (A.under (.builtin "type.__call__" ⟨.ref C :: pos, kw⟩)).units = A.units + 1 := rfl
theorem ne_of_lts {news : List (Addr × Obj)} {d : Nat} (h : ∀ p ∈ news, p.1 < d) : ∀ p ∈ news, p.1 ≠ d := fun p hp => Nat.ne_of_lt (h p hp)

/-- an entry of an object's dict -/
noncomputable abbrev ent (P : Params) (x : PySem.Str) (k : Tok) (v : Value) : DictEntry := ⟨PyData.keyHash P x, .str x k, v⟩
/-- the dict of a StringIO -/
noncomputable abbrev sioE (P : Params) (k1 k2 k3 tn tb tp : Tok) (b : PySem.Str) (p : Int) : List DictEntry :=
  [ent P (PySem.Str.ofString "_StringIO__newline") k1 (.str (PySem.Str.ofString "\n") tn), ent P (PySem.Str.ofString "_StringIO__buf") k2 (.str b tb), ent P (PySem.Str.ofString "_StringIO__pos") k3 (.int p tp)]

section
variable {prog : Program} {w : World} {A : Around} {E : Value → Shared → Prop} {s : Shared} {h₀ : Heap} {env : Env} {pos : Pos} {first : List Value} {e : Expr} {rest : List Expr} {Q : Value → Shared → Prop}
theorem callWith_find (_X₀ : (Mine.hd.heap_1 w.params).In h₀)
    (h : wpAny (model prog w) A (spliced (backTo pos (starEach (e :: rest) env))) (fun vs s₁ => (Mine.hd.heap_1 w.params).In s₁.heap ∧ wpAny (model prog w) A (call (.ref 759) (first ++ vs)) Q E s₁) E s)
    (he : starEach (e :: rest) env = (false, eval e env) :: starEach rest env := by rfl) (hplain : (backTo pos (starEach rest env)).any (·.1) = false := by rfl) :
    wpAny (model prog w) A (callWith pos (.ref 759) first (backTo pos (starEach (e :: rest) env)) []) Q E s := by
  rw [he] at h ⊢
  refine callWith_of (P := fun h => (Mine.hd.heap_1 w.params).In h) (by show ((false || (backTo pos (starEach rest env)).any (·.1)) || false) = false; rw [hplain]; rfl) (fun h X => ⟨.machine, .inr (.inl rfl), Looks.of_peek X (by kernel_rfl)⟩) (evalArgs_plain h)
end
section
variable {M : Model} {A : Around} {E : Value → Shared → Prop} {s : Shared} {env : Env}
theorem gen_tk {α : Type} {t : Sem α} {Q : α → Shared → Prop} {a b c d e} (h : ∀ tk, wpAny M A t Q E ⟨a, b, c, tk, e⟩) : wpAny M A t Q E ⟨a, b, c, d, e⟩ := h d
theorem execs_one {st : Stmt} {Q : Flow → Shared → Prop} (h : wpAny M A (exec st env) Q E s) : wpAny M A (execs [st] env) Q E s :=
  wpAny_execs_cons (wpAny_mono h (fun f s' hf => by cases f <;> first | exact wpAny_execs_nil hf | exact hf) fun _ _ z => z)
end
end Mine
end

section
open PySem PySem.W PyProof.Rows PySem.Calls
local macro_rules | `(tactic| walk_at "exec If") => `(tactic| refine wpAny_If ?_)
local macro_rules | `(tactic| walk_at "execs cons") => `(tactic| first | ((fail_if_success k_gentoks); (with_reducible refine Mine.execs_one ?_); try dsimp only) | ((fail_if_success (fail_if_success k_gentoks)); (with_reducible refine Mine.gen_tk ?_); intro _))
local macro_rules | `(tactic| walk_at "execs nil") => `(tactic| ((fail_if_success (fail_if_success k_gentoks)); (with_reducible refine Mine.gen_tk ?_); intro _))
local macro_rules | `(tactic| walk_at "ite") => `(tactic| first | with_reducible refine ite_tt ?_ | with_reducible refine ite_ff ?_)
local macro_rules | `(tactic| k_lt $h:ident) => `(tactic| ((simp only [List.forall_mem_cons] at $h:ident); (repeat (obtain ⟨hh', $h⟩ := $h; replace hh' := ltN hh'))))
local macro_rules | `(tactic| k_all) => `(tactic| first | assumption | exact Mine.ne_of_lts (by assumption))
local macro_rules | `(tactic| k_enter) => `(tactic| (refine' code_def ?k1 ?k2 ?k3 ?k4 ?k5 ?kA ?kF ?kK ?k6 ?k7 ?k8 ?k9 ?kB ?_ ?c2 ?c3 ?c4 ?c5; (case kA => exact rfl); (case kF => exact rfl); (case kK => first | exact rfl | assumption); (case k1 => k_asm); (case k2 => k_asm); (case k3 => k_asm); (case k4 => k_asm); (case k5 => k_asm); (case k6 => k_is); (case k7 => k_is); (case k8 => ktr_room); (case k9 => first | exact BindsTo.of_eq rfl | exact binds_K (by k_in) rfl (by k_is) rfl rfl rfl); (case c5 => decide); (case kB => exact locs rfl); (case c2 => exact rfl); (case c3 => exact rfl); (case c4 => exact rfl); k_whole; intro g' L' h' FG' F' N' B' X' T'; (try dsimp only); (try k_lift B'); (try k_fold)))

-- part P2
section
open PySem PySem.W PyProof.Rows
set_option maxRecDepth 100000
namespace Mine
/-- the word of a number -/
noncomputable def menu : List (List Nat) := [[97], [], [46, 46], [105, 116, 39, 115], [34, 39], [46, 10], [46, 46, 46]]
noncomputable def signOf (n : Int) : Nat :=
  let code := (n.fdiv 8).fmod 1112064
  if code < 55296 then code.toNat else (code + 2048).toNat
noncomputable def wordL (n : Int) : List Nat :=
  if n.fmod 8 < 7 then menu.getD (n.fmod 8).toNat [] else if signOf n = 32 then [97] else [signOf n]

theorem fmod8 (n : Int) : 0 ≤ n.fmod 8 ∧ n.fmod 8 < 8 := by
  rw [Int.fmod_eq_emod_of_nonneg _ (by decide)]; omega
theorem fmodC (n : Int) : 0 ≤ n.fmod 1112064 ∧ n.fmod 1112064 < 1112064 := by
  rw [Int.fmod_eq_emod_of_nonneg _ (by decide)]; omega

theorem word_menu {n : Int} {k : Nat} (h : n.fmod 8 = k) (hk : k < 7) : wordL n = menu.getD k [] := by
  unfold wordL; rw [if_pos (by omega), h]; rfl
theorem word_sign {n : Int} (h : ¬ n.fmod 8 < 7) {c : Nat} (hc : signOf n = c) (h32 : c ≠ 32) : wordL n = [c] := by
  unfold wordL; rw [if_neg h, hc, if_neg h32]
theorem word_blank {n : Int} (h : ¬ n.fmod 8 < 7) (hc : signOf n = 32) : wordL n = [97] := by
  unfold wordL; rw [if_neg h, hc, if_pos rfl]
theorem sign_lo {n : Int} (h : (n.fdiv 8).fmod 1112064 < 55296) : signOf n = ((n.fdiv 8).fmod 1112064).toNat := by
  unfold signOf; exact if_pos h
theorem sign_hi {n : Int} (h : ¬ (n.fdiv 8).fmod 1112064 < 55296) : signOf n = ((n.fdiv 8).fmod 1112064 + 2048).toNat := by
  unfold signOf; exact if_neg h
theorem one_blank {c : Nat} : (⟨#[c]⟩ : PySem.Str) = PySem.Str.ofString " " ↔ c = 32 := by
  rw [show PySem.Str.ofString " " = ⟨#[32]⟩ by decide +kernel]
  constructor
  · intro h; have := congrArg PySem.Str.cps h; simpa using this
  · intro h; rw [h]
end Mine
end

-- part C2
section
open PySem PySem.W PyProof.Rows PySem.Calls
set_option maxRecDepth 100000
namespace Mine
section

set_option maxHeartbeats 4000000 in
theorem word_ctr (w : World) (p : Program) (loose : List PySem.Str) (mean : ExcName → Option Value) (mg mb : PySem.Str → Option Value) (n : Int) (t : Tok) (news : List (Addr × Obj)) :
    Ctr 4 40 w p loose mean mg mb 773 [.int n t] news (fun r news' => news' = news ∧ ∃ t', r = .str (strL (wordL n)) t') := by
  unfold Ctr
  k_fill
  intro dp un gd cn cs a ccd cl outer A₀ base h₀ L m s Q E B F X N T hk hd hu hret
  refine wpAny_call ?_
  k_dflt cell_enter
  k_steps
  · rename n.fmod 8 < 7 => hlt
    have hb := fmod8 n
    have h7 : n.fmod 8 = (0 : Nat) ∨ n.fmod 8 = (1 : Nat) ∨ n.fmod 8 = (2 : Nat) ∨ n.fmod 8 = (3 : Nat) ∨ n.fmod 8 = (4 : Nat) ∨ n.fmod 8 = (5 : Nat) ∨ n.fmod 8 = (6 : Nat) := by omega
    rcases h7 with h | h | h | h | h | h | h
    all_goals
      rw [h]
      refine' item_tupleT ?t ?a ?b ?c ?d ?_
      case t => exact News.isTup (by k_asm) (by k_mem)
      case a => decide
      case b => decide
      case c => exact rfl
      case d => exact rfl
      k_steps
      refine hret _ _ _ _ (by k_asm) (fun p hp => (by k_asm : News _ _ _ _) p (.tail _ hp)) ⟨rfl, _, congrArg (fun z => Value.str z _) ?_⟩
      rw [word_menu h (by decide)]
      decide +kernel
  all_goals refine hret _ _ _ _ (by k_asm) (by k_asm) ⟨rfl, _, congrArg (fun z => Value.str z _) ?_⟩
  · rename (_ == _) = true => he
    rw [word_blank (by assumption) (by rw [sign_lo (by assumption)]; exact one_blank.mp (eq_of_beq he))]
    decide +kernel
  · rename (_ == _) = false => he
    rw [word_sign (by assumption) (sign_lo (by assumption)) (fun q => by rw [one_blank.mpr q, beq_self_eq_true] at he; cases he)]
    rfl
  · rename (_ == _) = true => he
    rw [word_blank (by assumption) (by rw [sign_hi (by assumption)]; exact one_blank.mp (eq_of_beq he))]
    decide +kernel
  · rename (_ == _) = false => he
    rw [word_sign (by assumption) (sign_hi (by assumption)) (fun q => by rw [one_blank.mpr q, beq_self_eq_true] at he; cases he)]
    rfl
end
end Mine
end

theorem Mine.off_C2 : True := by
  w_top off
  first | walk1 | trivial

-- part D0
section
open PySem PySem.W PyProof.Rows PySem.Calls
set_option maxRecDepth 100000
namespace Mine
theorem dq_slot_init : Slot "collections.deque" "__init__" "collections.deque.__init__" :=
  .of (owner := "collections.deque") (n := "__init__") (by rw [typeLookup_type, builtinLookup_eq_fast]; kernel_rfl) (by decide +kernel) (by decide +kernel) (by decide +kernel)
    (by first | exact .inl (by decide +kernel) | exact .inr (by decide +kernel)) (by rw [isSubtype_type]; kernel_rfl)
theorem dq_slot_len : Slot "collections.deque" "__len__" "collections.deque.__len__" :=
  .of (owner := "collections.deque") (n := "__len__") (by rw [typeLookup_type, builtinLookup_eq_fast]; kernel_rfl) (by decide +kernel) (by decide +kernel) (by decide +kernel)
    (by first | exact .inl (by decide +kernel) | exact .inr (by decide +kernel)) (by rw [isSubtype_type]; kernel_rfl)
theorem dq_entry_len : entryFor table "collections.deque.__len__" = some Builtin.«collections.deque.__len__» := entryFor_of_fast (by kernel_rfl)
theorem dq_args_len (a : Value) : argsOk "collections.deque.__len__" ⟨[a], []⟩ := by unfold argsOk; kernel_rfl
theorem dq_nobool : typeLookup (.type "collections.deque") "__bool__" = pure none := by rw [typeLookup_type, builtinLookup_eq_fast]; kernel_rfl
theorem dq_mro : mroOf (.type "collections.deque") = pure [.type "collections.deque", .type "object"] := by rw [mroOf_type]; kernel_rfl
theorem dq_new : typeLookup (.type "collections.deque") "__new__" = pure (some (.builtin "collections.deque.__new__")) := by rw [typeLookup_type, builtinLookup_eq_fast]; kernel_rfl
theorem dq_called : TypeCalled "collections.deque" "collections.deque.__new__" "collections.deque.__init__" :=
  ⟨by decide +kernel, by decide +kernel, ⟨_, _, dq_mro⟩, madeBy_type dq_mro dq_new (by decide +kernel), by decide +kernel, by rw [isSubtype_type]; kernel_rfl, dq_slot_init⟩
theorem dq_typeCall : checkTypeCall "collections.deque" ⟨[], []⟩ = pure () := by kernel_rfl
theorem dq_newCall : checkBuiltinCall "collections.deque.__new__" ⟨[.type "collections.deque"], []⟩ = pure () := by kernel_rfl
theorem dq_entryN : entryFor table "collections.deque.__new__" = some Builtin.«collections.deque.__new__» := entryFor_of_tree (by kernel_rfl)
theorem dq_entryI : entryFor table "collections.deque.__init__" = some Builtin.«collections.deque.__init__» := entryFor_of_tree (by kernel_rfl)
theorem dq_plainN : plainId "collections.deque.__new__" = true := by decide +kernel
theorem dq_args_init (a : Value) : argsOk "collections.deque.__init__" ⟨[a], []⟩ := by unfold argsOk; kernel_rfl
noncomputable def dqObj : Obj := { cls := .type "collections.deque", data := .fields #[.none, rawInt 0] }
section
variable {w : World} {A : Around} {E : Value → Shared → Prop} {s : Shared} {h₀ : Heap} {L : Addr} {m : PySem.Str → Option Value} {news : List (Addr × Obj)} {prog : Program}
theorem dq_sub : isSubtype (.type "collections.deque") (.type "collections.deque") = pure true := by rw [isSubtype_type]; kernel_rfl
theorem dq_isType : isType (.type "collections.deque") = pure true := by kernel_rfl
theorem dq_hasDict : typeHasDict (.type "collections.deque") = false := by kernel_rfl
theorem dq_made {Q : Value → Shared → Prop} (h : Q (.ref s.heap.objs.size) { s with heap := s.heap.push dqObj }) :
    wpAny (model prog w) A (Builtin.«collections.deque.__new__» ⟨[.type "collections.deque"], []⟩) (fun fin s' => ∃ r, fin = .done (.ret r) ∧ Q r s') E s := by
  unfold Builtin.«collections.deque.__new__» Builtin.Deque.newArgs
  dsimp only [Builtin.Deque.ty]
  simp only [dq_isType, dq_sub]
  refine wpAny_bind (wpAny_bind (wpAny_pure ?_))
  refine KFB.if_not (by decide) ?_
  refine wpAny_bind (wpAny_pure ?_)
  refine KFB.if_not (by decide) ?_
  refine wpAny_pure ?_
  have e : Builtin.Deque.new (.type "collections.deque") #[] none = newObj (.type "collections.deque") (.fields #[.none, rawInt 0]) none := by kernel_rfl
  dsimp only
  rw [e]
  exact wpAny_bind (wpAny_newObj_type (T := "collections.deque") (wpAny_pure ⟨_, rfl, h⟩))

theorem dq_init_eq (x : Addr) : Builtin.«collections.deque.__init__» ⟨[.ref x], []⟩ = (do setField (.ref x) 0 .none; Builtin.Deque.clear (.ref x); ret .none) := by kernel_rfl
theorem dq_again : Obj.mapFields (·.setIfInBounds 0 .none) dqObj = dqObj := rfl
theorem dq_inited {x : Addr} {Q : Value → Shared → Prop} (ho : s.heap.get? x = some dqObj) (h : Q .none { s with heap := s.heap.update x (Obj.mapFields (·.setIfInBounds 0 .none)) }) :
    wpAny (model prog w) A (Builtin.«collections.deque.__init__» ⟨[.ref x], []⟩) (fun fin s' => ∃ r, fin = .done (.ret r) ∧ Q r s') E s := by
  rw [dq_init_eq]
  refine wpAny_bind (wpAny_setField (vs := #[.none, rawInt 0]) ho rfl (by decide) ?_)
  have h1 : (s.heap.update x (Obj.mapFields (·.setIfInBounds 0 .none))).get? x = some dqObj := (Heap.get?_update_self _ ho rfl)
  unfold Builtin.Deque.clear Builtin.Deque.items fieldsOf
  refine wpAny_bind (wpAny_bind (wpAny_bind (wpAny_bind (wpAny_load h1 (wpAny_pure (wpAny_pure ?_))))))
  show wpAny _ _ (if (0 : Nat) > 0 then _ else _ ) _ _ _
  rw [if_neg (by decide)]
  exact wpAny_pure (wpAny_pure ⟨_, rfl, h⟩)

theorem dq_call {Q : Value → Shared → Prop} (F : Fr h₀ L s.heap m) (N : News h₀ L s.heap news)
    (h : ∀ (x : Nat) h', Fr h₀ L h' m → News h₀ L h' ((x, dqObj) :: news) → (∀ p ∈ news, p.1 < x) → Q (.ref x) { s with heap := h' }) :
    wpAny (model prog w) A (call (.type "collections.deque") []) Q E s := by
  refine callType_meets (S := fun A R s => R (.ok (.ret (.ref s.heap.objs.size))) { s with heap := s.heap.push dqObj }) (Q₁ := fun v s' => v = .ref s.heap.objs.size ∧ s' = { s with heap := s.heap.push dqObj }) dq_called dq_typeCall dq_newCall dq_entryN dq_entryI (Meets.of_wp fun prog w A R s hs => dq_made hs) ⟨rfl, rfl⟩ ?_
  rintro _ _ ⟨rfl, rfl⟩
  have hS : (s.heap.push dqObj).get? s.heap.objs.size = some dqObj := Heap.get?_push_size _ rfl
  refine ⟨⟨_, hS, rfl⟩, dq_args_init _, (fun A R s' => s'.heap.get? s.heap.objs.size = some dqObj ∧ R (.ok (.ret .none)) { s' with heap := s'.heap.update s.heap.objs.size (Obj.mapFields (·.setIfInBounds 0 .none)) }), Meets.of_wp fun prog w A R s' hs => dq_inited hs.1 hs.2, hS, rfl, ?_⟩
  have F1 := F.push dqObj
  have N1 := News.push F N dqObj rfl
  have U := news_upd (pre := []) (f := Obj.mapFields (·.setIfInBounds 0 .none)) F1 N1 (fun _ hp => nomatch hp) (fun p hp => Nat.ne_of_lt (Heap.lt_size (N p hp).1)) dq_again rfl
  exact h _ _ U.1 U.2 fun p hp => Heap.lt_size (N p hp).1

theorem dq_len_eq (x : Addr) : Builtin.«collections.deque.__len__» ⟨[.ref x], []⟩ = (do let r ← Builtin.Deque.size (.ref x); retInt r) := by kernel_rfl
theorem dq_lenBody {x : Addr} {Q : Value → Shared → Prop} (ho : s.heap.get? x = some dqObj) (h : Q (.int 0 (s.toks + 1)) { s with toks := s.toks + 1 + 1 }) :
    wpAny (model prog w) A (Builtin.«len» ⟨[.ref x], []⟩) (fun fin s' => ∃ r, fin = .done (.ret r) ∧ Q r s') E s := by
  have hT : s.TypeIs (.ref x) "collections.deque" := ⟨_, ho, rfl⟩
  unfold Builtin.«len»
  refine wpAny_bind (m := oneArg "len" _) (wpAny_pure ?_)
  refine wpAny_bind (m := callSpecial? (.ref x) (Str.ofString "__len__")) (wpAny_callSpecial?_slot (name := Str.ofString "__len__") hT dq_slot_len
    (wpAny_call_entry dq_slot_len hT dq_entry_len ?_ (dq_args_len _)))
  · rw [dq_len_eq]
    unfold Builtin.Deque.size fieldsOf
    refine wpAny_bind (wpAny_bind (wpAny_bind (wpAny_load ho (wpAny_pure (wpAny_pure (wpAny_bind (wpAny_mkInt (wpAny_pure ⟨_, rfl, ?_⟩))))))))
    refine wpAny_bind (wpAny_holding (wpAny_pure ?_))
    refine wpAny_bind (wpAny_letGo ?_)
    show wpAny _ _ (if (0 : Int) < 0 then _ else _) _ _ _
    rw [if_neg (by decide)]
    show wpAny _ _ (if (0 : Int) ≥ 2 ^ 63 then _ else _) _ _ _
    rw [if_neg (by decide)]
    exact wpAny_bind (wpAny_mkInt (wpAny_pure ⟨_, rfl, h⟩))

theorem dq_truthy {x : Addr} {Q : Bool → Shared → Prop} (ho : s.heap.get? x = some dqObj) (h : Q false { s with toks := s.toks + 1 + 1 }) :
    wpAny (model prog w) A (truthy (.ref x)) Q E s := by
  have hT : s.TypeIs (.ref x) "collections.deque" := ⟨_, ho, rfl⟩
  have key : wpAny (model prog w) A (runValue (.builtin "len" ⟨[.ref x], []⟩)) (fun r s' => r = .int 0 (s.toks + 1) ∧ Q false s') E s := by
    refine wpAny_runValue (codeAny_builtin entry_len ?_)
    rw [Around.under_plainId plain_len _]
    exact wpAny_mono (dq_lenBody (Q := fun r s' => r = .int 0 (s.toks + 1) ∧ Q false s') ho ⟨rfl, h⟩)
      (fun fin s' h' => by obtain ⟨r, rfl, hq⟩ := h'; exact hq) fun _ _ e => e
  unfold truthy
  first
    | refine wpAny_bind (wpAny_callSpecial?_none (name := Str.ofString "__bool__") hT dq_nobool ?_)
    | refine wpAny_bind (wpAny_pure (wpAny_bind (wpAny_callSpecial?_none (name := Str.ofString "__bool__") hT dq_nobool ?_)))
  first
    | refine wpAny_bind (wpAny_specialOf (name := Str.ofString "__len__") hT dq_slot_len.lookup ?_)
    | refine wpAny_bind (wpAny_pure (wpAny_bind (wpAny_specialOf (name := Str.ofString "__len__") hT dq_slot_len.lookup ?_)))
  first
    | exact wpAny_bind (wpAny_mono key (fun r s' h' => by obtain ⟨rfl, hq⟩ := h'; exact wpAny_pure hq) fun _ _ e => e)
    | exact wpAny_bind (wpAny_pure (wpAny_bind (wpAny_mono key (fun r s' h' => by obtain ⟨rfl, hq⟩ := h'; exact wpAny_pure hq) fun _ _ e => e)))
end
end Mine
end

-- part R0
section
open PySem PySem.W PyProof.Rows PySem.Calls
set_option maxRecDepth 100000
namespace Mine

/-- the ids of the strings that the lexer's dict and its stream hold -/
structure LT where
  (k1 k2 k3 k4 k5 k6 k7 k8 k9 k10 k11 k12 k13 k14 k15 k16 k17 k18 k19 v5 v6 v7 v9 v10 v11 v15 v19 s1 s2 s3 sn : Tok)

noncomputable abbrev wchars : PySem.Str := PySem.Str.ofString "abcdfeghijklmnopqrstuvwxyzABCDEFGHIJKLMNOPQRSTUVWXYZ0123456789_" ++ PySem.Str.ofString "ßàáâãäåæçèéêëìíîïðñòóôõöøùúûüýþÿÀÁÂÃÄÅÆÇÈÉÊËÌÍÎÏÐÑÒÓÔÕÖØÙÚÛÜÝÞ"

noncomputable abbrev lexE (P : Params) (T : LT) (xS d1 d2 : Nat) (st : Value) (ln : Int) (tl : Tok) (tk : PySem.Str) (tt : Tok) : List DictEntry :=
  [ent P (PySem.Str.ofString "instream") T.k1 (.ref xS), ent P (PySem.Str.ofString "infile") T.k2 .none, ent P (PySem.Str.ofString "posix") T.k3 (.bool true), ent P (PySem.Str.ofString "eof") T.k4 .none,
   ent P (PySem.Str.ofString "commenters") T.k5 (.str (PySem.Str.ofString "") T.v5), ent P (PySem.Str.ofString "wordchars") T.k6 (.str wchars T.v6), ent P (PySem.Str.ofString "whitespace") T.k7 (.str (PySem.Str.ofString " \t\r\n") T.v7),
   ent P (PySem.Str.ofString "whitespace_split") T.k8 (.bool true), ent P (PySem.Str.ofString "quotes") T.k9 (.str (PySem.Str.ofString "'\"") T.v9), ent P (PySem.Str.ofString "escape") T.k10 (.str (PySem.Str.ofString "\\") T.v10),
   ent P (PySem.Str.ofString "escapedquotes") T.k11 (.str (PySem.Str.ofString "\"") T.v11), ent P (PySem.Str.ofString "state") T.k12 st, ent P (PySem.Str.ofString "pushback") T.k13 (.ref d1), ent P (PySem.Str.ofString "lineno") T.k14 (.int ln tl),
   ent P (PySem.Str.ofString "debug") T.k15 (.int 0 T.v15), ent P (PySem.Str.ofString "token") T.k16 (.str tk tt), ent P (PySem.Str.ofString "filestack") T.k17 (.ref d2), ent P (PySem.Str.ofString "source") T.k18 .none,
   ent P (PySem.Str.ofString "_punctuation_chars") T.k19 (.str (PySem.Str.ofString "") T.v19)]

/-- what of the heap is the lexer's -/
noncomputable abbrev lexN (P : Params) (T : LT) (d x dS xS d1 d2 : Nat) (b : PySem.Str) (tb : Tok) (st : Value) (ln : Int) (tl : Tok) (tk : PySem.Str) (tt : Tok) (i : Int) (tp : Tok) (news : List (Addr × Obj)) : List (Addr × Obj) :=
  (xS, instObj 604 dS) :: (dS, dictOf (sioE P T.s1 T.s2 T.s3 T.sn tb tp b i) 3) :: (x, instObj 739 d) :: (d, dictOf (lexE P T xS d1 d2 st ln tl tk tt) 19) :: (d1, dqObj) :: (d2, dqObj) :: news

/-- the lexer's states that a joined line brings -/
inductive St | blank | word | sq | dq | fin
noncomputable def stV : St → Tok → Value
  | .blank, t => .str (PySem.Str.ofString " ") t
  | .word, t => .str (PySem.Str.ofString "a") t
  | .sq, t => .str (strL [39]) t
  | .dq, t => .str (strL [34]) t
  | .fin, _ => .none
noncomputable def ordC (c : Nat) : Bool := c != 32 && c != 9 && c != 13 && c != 10 && c != 39 && c != 34 && c != 92
noncomputable def outOf (q : Bool) (tk : List Nat) : Option (List Nat) := if !q && tk.isEmpty then none else some tk
noncomputable def outV : Option (List Nat) → Tok → Value
  | none, _ => .none
  | some l, t => .str (strL l) t
theorem drop_nil {b : PySem.Str} {i : Nat} (h : b.cps.toList.drop i = []) (hi : i ≤ b.length) : i = b.length := by
  have : (b.cps.toList.drop i).length = 0 := by rw [h]; rfl
  have e : b.cps.toList.length = b.length := by simp [PySem.Str.length]
  rw [List.length_drop] at this
  omega
theorem drop_cons {b : PySem.Str} {i c : Nat} {r : List Nat} (h : b.cps.toList.drop i = c :: r) : b.cps.toList[i]? = some c ∧ i < b.length ∧ b.cps.toList.drop (i + 1) = r := by
  have e : b.cps.toList.length = b.length := by simp [PySem.Str.length]
  have h1 : b.cps.toList[i]? = some c := by
    have := congrArg (·[0]?) h
    simpa using this
  have h2 : i < b.cps.toList.length := by
    rcases Nat.lt_or_ge i b.cps.toList.length with q | q
    · exact q
    · rw [List.drop_eq_nil_of_le q] at h; cases h
  refine ⟨h1, e ▸ h2, ?_⟩
  have := congrArg List.tail h
  simpa [List.tail_drop] using this
/-- one token, where all goes well -/
noncomputable def lexTok : St → Bool → List Nat → List Nat → Option (Option (List Nat) × St × List Nat)
  | .fin, q, _, [] => if q then none else some (none, .fin, [])
  | .fin, _, _, _ :: _ => none
  | .blank, _, _, [] => none
  | .blank, q, tk, c :: r => if c = 39 then lexTok .sq q tk r else if ordC c then lexTok .word q [c] r else none
  | .word, q, tk, [] => some (outOf q tk, .fin, [])
  | .word, q, tk, c :: r => if c = 32 then (if q || !tk.isEmpty then some (outOf q tk, .blank, r) else none) else if c = 39 then lexTok .sq q tk r else if c = 34 then lexTok .dq q tk r else if ordC c then lexTok .word q (tk ++ [c]) r else none
  | .sq, _, _, [] => none
  | .sq, _, tk, c :: r => if c = 39 then lexTok .word true tk r else lexTok .sq true (tk ++ [c]) r
  | .dq, _, _, [] => none
  | .dq, _, tk, c :: r => if c = 34 then lexTok .word true tk r else if c = 39 then lexTok .dq true (tk ++ [c]) r else none

noncomputable def Held (p : Prop) : Prop := p
theorem held {p : Prop} (h : Held p) : p := h
theorem all_ne4 {a b c e q : Nat} {oa ob oc oe : Obj} {news : List (Addr × Obj)} (h1 : a ≠ q) (h2 : b ≠ q) (h3 : c ≠ q) (h4 : e ≠ q) (hn : ∀ p ∈ news, p.1 ≠ q) : ∀ p ∈ (a, oa) :: (b, ob) :: (c, oc) :: (e, oe) :: news, p.1 ≠ q := by
  intro p hp
  rcases List.mem_cons.mp hp with rfl | hp
  · exact h1
  rcases List.mem_cons.mp hp with rfl | hp
  · exact h2
  rcases List.mem_cons.mp hp with rfl | hp
  · exact h3
  rcases List.mem_cons.mp hp with rfl | hp
  · exact h4
  exact hn p hp

/-- a loop's turn ends: the ghost state is smaller -/
noncomputable def EndW {σ : Type} (μ : σ → Nat) (h₀ : Heap) (L : Addr) (up : σ → PySem.Str → Option Value) (R : σ → List (Addr × Obj) → Prop) (a : σ) (s₁ : Shared) (Q : Flow → Shared → Prop) (f : Flow) (s₂ : Shared) : Prop :=
  match f with
  | .ret v => Q (.ret v) s₂
  | .brk => Q .next s₂
  | _ => ∃ h' tk m' news' a', s₂ = { s₁ with heap := h', toks := tk } ∧ Fr h₀ L h' m' ∧ (∀ z, m' z = up a' z) ∧ News h₀ L h' news' ∧ R a' news' ∧ μ a' < μ a

section
variable {prog : Program} {w : World} {A : Around} {E : Value → Shared → Prop} {s : Shared} {env : Env} {h₀ : Heap} {test : Expr} {body : List Stmt} {Q : Flow → Shared → Prop}
theorem while_ledger {σ : Type} {pos : Pos} (μ : σ → Nat) (up : σ → (PySem.Str → Option Value) → PySem.Str → Option Value) (R : σ → List (Addr × Obj) → Prop) (a₀ : σ) {m₀ : PySem.Str → Option Value} {news : List (Addr × Obj)}
    (hE : PassesOwn (model prog w) A env E) (F : Fr h₀ env.locals s.heap m₀) (N : News h₀ env.locals s.heap news) (h0 : (∀ z, m₀ z = up a₀ m₀ z) ∧ R a₀ news)
    (turn : ∀ a news₁ h tk, R a news₁ → Fr h₀ env.locals h (up a m₀) → News h₀ env.locals h news₁ →
      wpAny (model prog w) A (isTrue test env (eval test env)) (fun b s₂ => WhlIf b (wpAny (model prog w) A (execs body env) (EndW μ h₀ env.locals (fun a => up a m₀) R a { s with heap := h, toks := tk } Q) E s₂) False) E { s with heap := h, toks := tk }) :
    wpAny (model prog w) A (exec (.While test body [] pos) env) Q E s := by
  have key : ∀ n a news₁ h tk, μ a < n → R a news₁ → Fr h₀ env.locals h (up a m₀) → News h₀ env.locals h news₁ → WhlRest prog w A E env test body [] Q 0 { s with heap := h, toks := tk } := by
    intro n
    induction n with
    | zero => intro a _ _ _ hn; exact absurd hn (Nat.not_lt_zero _)
    | succ n ih =>
      intro a news₁ h tk hn hr F₁ N₁
      refine whl_turn (k := 0) hE (wpAny_mono (turn a news₁ h tk hr F₁ N₁) (fun b s₂ hb => ?_) fun _ _ z => z)
      cases b with
      | false => exact (show False from hb).elim
      | true =>
      replace hb : wpAny (model prog w) A (execs body env) _ E s₂ := hb
      refine WhlIf.yes rfl (wpAny_mono hb (fun f s₃ hf => ?_) fun _ _ z => z)
      cases f with
      | ret v => exact hf
      | brk => exact hf
      | next =>
        obtain ⟨h', tk', m', news', a', rfl, F', hm, N', hr', hlt⟩ := hf
        obtain rfl : m' = up a' m₀ := funext hm
        exact ih a' news' h' tk' (by omega) hr' F' N'
      | cont =>
        obtain ⟨h', tk', m', news', a', rfl, F', hm, N', hr', hlt⟩ := hf
        obtain rfl : m' = up a' m₀ := funext hm
        exact ih a' news' h' tk' (by omega) hr' F' N'
  obtain ⟨hm, hr⟩ := h0
  have hm : m₀ = up a₀ m₀ := funext hm
  have F₀ : Fr h₀ env.locals s.heap (up a₀ m₀) := hm ▸ F
  exact wpAny_While (key (μ a₀ + 1) a₀ news s.heap s.toks (by omega) hr F₀ N)
end
section
variable {prog : Program} {w : World} {A : Around} {E : Value → Shared → Prop} {s : Shared}
theorem strL_length (l : List Nat) : (strL l).length = l.length := by simp [strL, PySem.Str.length]
theorem truthy_cons {e : Nat} {l : List Nat} {t : Tok} {Q : Bool → Shared → Prop} (hz : l.length < 100000) (h : Q true { s with toks := s.toks + 1 + 1 }) : wpAny (model prog w) A (truthy (.str (strL (e :: l)) t)) Q E s := by
  refine P.truthy_str (by rw [strL_length, List.length_cons]; omega) ?_
  have : (((strL (e :: l)).length : Int) != 0) = true := by
    rw [strL_length, List.length_cons]
    exact bne_iff_ne.mpr (by omega)
  rw [this]
  exact h
theorem truthy_nil {t : Tok} {Q : Bool → Shared → Prop} (h : Q false { s with toks := s.toks + 1 + 1 }) : wpAny (model prog w) A (truthy (.str (strL []) t)) Q E s :=
  P.truthy_str (by decide) h
theorem truthy_nil' {t : Tok} {Q : Bool → Shared → Prop} (h : Q false { s with toks := s.toks + 1 + 1 }) : wpAny (model prog w) A (truthy (.str (PySem.Str.ofString "") t)) Q E s :=
  P.truthy_str (by decide) h
theorem iadd_strL {a b : List Nat} {t u : Tok} {Q : Value → Shared → Prop} (hz : a.length + b.length ≤ 100000) (h : ∀ t' tk, Q (.str (strL (a ++ b)) t') { s with toks := tk }) : wpAny (model prog w) A (inplaceOp .Add (.str (strL a) t) (.str (strL b) u)) Q E s :=
  PyProof.Rows.iadd_str (fun t' tk => by rw [strL_append]; exact h t' tk) (by rw [strL_length, strL_length, sizeLine_eq]; omega)
theorem one_yes {c : Nat} {x : PySem.Str} {t u : Tok} {Q : Value → Shared → Prop} (hb : c ∈ x.cps.toList) (h : Q (.bool true) s) : wpAny (model prog w) A (compareOp .In (.str (strL [c]) u) (.str x t)) Q E s := by
  refine PyProof.Rows.in_str ?_
  rw [show (!(Builtin.Str.occurrences x (strL [c]) 0 x.length 1).isEmpty) = true from (StrLaws.found_one x c).trans (decide_eq_true hb)]
  exact h
theorem one_no {c : Nat} {x : PySem.Str} {t u : Tok} {Q : Value → Shared → Prop} (hb : c ∉ x.cps.toList) (h : Q (.bool false) s) : wpAny (model prog w) A (compareOp .In (.str (strL [c]) u) (.str x t)) Q E s := by
  refine PyProof.Rows.in_str ?_
  rw [show (!(Builtin.Str.occurrences x (strL [c]) 0 x.length 1).isEmpty) = false from (StrLaws.found_one x c).trans (decide_eq_false hb)]
  exact h
theorem one_any {c : Nat} {x : PySem.Str} {t u : Tok} {Q : Value → Shared → Prop} (h : ∀ v, Q (.bool v) s) : wpAny (model prog w) A (compareOp .In (.str (strL [c]) u) (.str x t)) Q E s :=
  PyProof.Rows.in_str (h _)
theorem one_notno {c : Nat} {x : PySem.Str} {t u : Tok} {Q : Value → Shared → Prop} (hb : c ∉ x.cps.toList) (h : Q (.bool true) s) : wpAny (model prog w) A (compareOp .NotIn (.str (strL [c]) u) (.str x t)) Q E s := by
  refine PyProof.Rows.notIn_str ?_
  rw [show (!(Builtin.Str.occurrences x (strL [c]) 0 x.length 1).isEmpty) = false from (StrLaws.found_one x c).trans (decide_eq_false hb)]
  exact h
theorem lit_yes {x y : PySem.Str} {t u : Tok} {Q : Value → Shared → Prop} (hb : (!(Builtin.Str.occurrences x y 0 x.length 1).isEmpty) = true) (h : Q (.bool true) s) : wpAny (model prog w) A (compareOp .In (.str y u) (.str x t)) Q E s := by
  refine PyProof.Rows.in_str ?_
  rw [hb]
  exact h
theorem lit_no {x y : PySem.Str} {t u : Tok} {Q : Value → Shared → Prop} (hb : (!(Builtin.Str.occurrences x y 0 x.length 1).isEmpty) = false) (h : Q (.bool false) s) : wpAny (model prog w) A (compareOp .In (.str y u) (.str x t)) Q E s := by
  refine PyProof.Rows.in_str ?_
  rw [hb]
  exact h
theorem ord_ws {c : Nat} (h : ordC c = true) : c ∉ (PySem.Str.ofString " \t\r\n").cps.toList := by
  intro hm
  have hm : c ∈ [32, 9, 13, 10] := hm
  simp only [ordC, Bool.and_eq_true, bne_iff_ne, ne_eq] at h
  simp only [List.mem_cons, List.not_mem_nil, or_false] at hm
  omega
theorem ord_qu {c : Nat} (h : ordC c = true) : c ∉ (PySem.Str.ofString "'\"").cps.toList := by
  intro hm
  have hm : c ∈ [39, 34] := hm
  simp only [ordC, Bool.and_eq_true, bne_iff_ne, ne_eq] at h
  simp only [List.mem_cons, List.not_mem_nil, or_false] at hm
  omega
theorem ord_es {c : Nat} (h : ordC c = true) : c ∉ (PySem.Str.ofString "\\").cps.toList := by
  intro hm
  have hm : c ∈ [92] := hm
  simp only [ordC, Bool.and_eq_true, bne_iff_ne, ne_eq] at h
  simp only [List.mem_cons, List.not_mem_nil, or_false] at hm
  omega
theorem ord_nl {c : Nat} (h : c ≠ 10) : (strL [c] == PySem.Str.ofString "\n") = false := by
  rw [beq_eq_false_iff_ne]
  intro e
  have := strL_inj (a := [c]) (b := [10]) e
  injection this with a _
  exact h a
theorem ord_any {c k : Nat} {x : PySem.Str} (hx : x = strL [k]) (h : c ≠ k) : (strL [c] == x) = false := by
  rw [beq_eq_false_iff_ne]
  intro e
  rw [hx] at e
  have := strL_inj e
  injection this with a _
  exact h a
theorem ne_of_beq_false' {b : Bool} (h : b = false) : ¬ b = true := by rw [h]; exact Bool.false_ne_true
theorem ord_cons {e : Nat} {l : List Nat} : (strL (e :: l) == PySem.Str.ofString "") = false := by
  rw [beq_eq_false_iff_ne]
  intro h
  have := strL_inj (a := e :: l) (b := []) h
  cases this
end
end Mine
end

-- part W1
section
open PySem PySem.W PyProof.Rows PySem.Calls
set_option maxRecDepth 100000
namespace Mine
theorem slice_six (ys : List Value) : (slicePick ys.toArray none (some 6) none).toList = ys.take 6 := by
  have e : sliceBounds none (some 6) none ys.toArray.size = (((0 : Nat) : Int), ((min 6 ys.length : Nat) : Int), 1) := by
    simp [sliceBounds]
    omega
  rw [kmk_pick_nat _ e]
  simp

/-- a contract that asks something of the base -/
noncomputable def CtrP (Pre : Heap → Prop) (D U : Nat) (w : World) (p : Program) (loose : List PySem.Str) (mean : ExcName → Option Value) (mg mb : PySem.Str → Option Value) (f : Addr) (vs : List Value) (news : List (Addr × Obj)) (post : Value → List (Addr × Obj) → Prop) : Prop :=
  ∀ (dp un : Nat) (gd : Option (List Code)) (cn : PySem.Str) (cs : Scope) (a : Addr) (ccd : Value) (cl : List (PySem.Str × Addr)) (outer : List Env) (A₀ : Around) (base h₀ : Heap) (L : Addr) (m : PySem.Str → Option Value) (s : Shared) (Q E : Value → Shared → Prop),
    Below A₀ base outer h₀ → Fr h₀ L s.heap m → (Mine.hd.heap_1 w.params).In h₀ → News h₀ L s.heap news → Top p loose mean mg mb h₀ → Pre h₀ → cs.kind = .function → dp + D < recursionLimit → un + U < cLine →
    (∀ r h' tk' news', Fr h₀ L h' m → News h₀ L h' news' → post r news' → Q r { s with heap := h', toks := tk' }) →
    wpAny (model PySem.Challenge.rw_ij0141_01.row.prog w) (ktrTop dp un gd cn cs L a ccd cl outer) (call (.ref f) vs) Q E s
theorem isList_at {g h : Heap} {L l : Addr} {m : PySem.Str → Option Value} {its : Array Value} (hl : g.IsList l its) (F : Fr g L h m) : h.IsList l its := let ⟨o, e, r⟩ := hl; ⟨o, F.keep _ _ e, r⟩
structure Gw where
  (w g : List (PySem.Str × Tok)) (cw cg : Nat)
noncomputable def rowW (x : Int) : List (List Nat) := if x.fmod 5 = 2 then [[46, 46, 46]] else if x.fmod 5 < 4 then [wordL (x.fdiv 5)] else []
noncomputable def rowG (x : Int) : List (List Nat) := if x.fmod 5 = 2 then (List.range ((x.fdiv 5).fmod 3).toNat).map (fun k => wordL (((x.fdiv 5).fdiv 3).fdiv (64 ^ k))) else if x.fmod 5 = 3 then [] else [wordL (x.fdiv 5)]
theorem too_long {q : Array Value} {n : Nat} (h : n ≤ 10000) : ¬(!q.isEmpty && Builtin.List.listTooLong n) = true := by
  have : Builtin.List.listTooLong n = false := by
    simp only [Builtin.List.listTooLong, decide_eq_false_iff_not, Nat.not_lt, gt_iff_lt]
    rw [sizeLine_eq]
    omega
  rw [this, Bool.and_false]
  exact Bool.false_ne_true

noncomputable def RowsAt (gA wA cA : Addr) (news : List (Addr × Obj)) (pre : List (Int × Tok)) (a : Gw) (n : List (Addr × Obj)) : Prop :=
  ∃ oc vc, oc.data = Data.cell vc ∧ n = (gA, listOf (strValues a.g).toArray a.cg) :: (wA, listOf (strValues a.w).toArray a.cw) :: (cA, oc) :: news ∧ a.w.map (·.1) = (pre.flatMap fun q => rowW q.1).map strL ∧ a.g.map (·.1) = (pre.flatMap fun q => rowG q.1).map strL

section
variable {prog : Program} {w : World} {A : Around} {E : Value → Shared → Prop} {s : Shared} {env : Env} {h₀ : Heap} {x : PySem.Str} {body : List Stmt} {Q : Flow → Shared → Prop}
theorem for_rows {D gA wA cA : Addr} {xs : List (Int × Tok)} {oc : Obj} {vc : Option Value} {news : List (Addr × Obj)} {m₀ : PySem.Str → Option Value} (hh : A.handled = none) (F : Fr h₀ env.locals s.heap m₀)
    (N : News h₀ env.locals s.heap ((D, listOf (List.take 6 (xs.map fun q => Value.int q.1 q.2)).toArray 0) :: (gA, listOf #[] 0) :: (wA, listOf #[] 0) :: (cA, oc) :: news)) (hoc : oc.data = Data.cell vc) (hlt : (∀ p ∈ news, p.1 < cA) ∧ @LT.lt Nat _ cA wA ∧ @LT.lt Nat _ wA gA ∧ @LT.lt Nat _ gA D)
    (turn : ∀ (pre : List (Int × Tok)) (q : Int × Tok) (a : Gw) (oc : Obj) (vc : Option Value) h tk own I, pre.length < 6 → oc.data = Data.cell vc → a.w.map (·.1) = (pre.flatMap fun q => rowW q.1).map strL → a.g.map (·.1) = (pre.flatMap fun q => rowG q.1).map strL → gA ≠ I → wA ≠ I → cA ≠ I → (∀ p ∈ news, p.1 ≠ I) → (∀ p ∈ news ++ own, p.1 ≠ gA) → (∀ p ∈ news ++ own, p.1 ≠ wA) → (∀ p ∈ news ++ own, p.1 ≠ cA) →
      Fr h₀ env.locals h (fun y => if y = x then some (.int q.1 q.2) else m₀ y) → News h₀ env.locals h ((gA, listOf (strValues a.g).toArray a.cg) :: (wA, listOf (strValues a.w).toArray a.cw) :: (cA, oc) :: (news ++ own)) →
      wpAny (model prog w) A (execs body env) (EndM h₀ env.locals I x own (fun _ => m₀) (RowsAt gA wA cA news (pre ++ [q])) { s with heap := h, toks := tk } Q) E { s with heap := h, toks := tk })
    (done : ∀ (a : Gw) u (oc : Obj) (vc : Option Value) h tk, oc.data = Data.cell vc → a.w.map (·.1) = ((xs.take 6).flatMap fun q => rowW q.1).map strL → a.g.map (·.1) = ((xs.take 6).flatMap fun q => rowG q.1).map strL → Fr h₀ env.locals h (fun y => if y = x then u else m₀ y) →
      News h₀ env.locals h ((gA, listOf (strValues a.g).toArray a.cg) :: (wA, listOf (strValues a.w).toArray a.cw) :: (cA, oc) :: news) → Q .next { s with heap := h, toks := tk }) :
    wpAny (model prog w) A (pyIter (.ref D)) (fun it s₂ => LoopAtV prog w A h₀ env x body Q E it s₂) E s := by
  refine for_ledgerM (vs := List.take 6 (xs.map fun q => Value.int q.1 q.2)) (σ := Gw) (fun _ m => m) (fun i a n => ∃ n', (∀ p ∈ n', p ∈ n) ∧ RowsAt gA wA cA news ((xs.take 6).take i) a n') hh F N (.head _) ⟨⟨[], [], 0, 0⟩, fun _ _ => rfl, _, fun p hp => .tail _ hp, oc, vc, hoc, rfl, rfl, rfl⟩ ?_ ?_
  · rintro i v a news₁ h tk own I hv ⟨n', hn', oc, vc, hoc, rfl, hw, hg⟩ hI ho F₁ N₁
    have hmap : List.take 6 (xs.map fun q => Value.int q.1 q.2) = (xs.take 6).map fun q => Value.int q.1 q.2 := by rw [List.map_take]
    rw [hmap, List.getElem?_map] at hv
    obtain ⟨q, hq, rfl⟩ := Option.map_eq_some_iff.mp hv
    have hi : i < (xs.take 6).length := (List.getElem?_eq_some_iff.mp hq).1
    have hstep : (xs.take 6).take (i + 1) = (xs.take 6).take i ++ [q] := by
      rw [List.take_add_one, hq]; rfl
    obtain ⟨l1, l2, l3, l4⟩ := hlt
    have off : ∀ c : Nat, (∀ p ∈ news, p.1 ≠ c) → I ≠ c → D ≠ c → ∀ p ∈ news ++ own, p.1 ≠ c := fun c h1 h2 h3 p hp => (List.mem_append.mp hp).elim (h1 p) fun hp => (ho p hp).elim (fun e => e ▸ h2) fun e => e ▸ h3
    have e1 := hI _ (hn' _ (.head _))
    have e2 := hI _ (hn' _ (.tail _ (.head _)))
    have e3 := hI _ (hn' _ (.tail _ (.tail _ (.head _))))
    have f1 := off gA (fun p hp => Nat.ne_of_lt (Nat.lt_trans (l1 p hp) (Nat.lt_trans l2 l3))) (Ne.symm e1) (Nat.ne_of_gt l4)
    have f2 := off wA (fun p hp => Nat.ne_of_lt (Nat.lt_trans (l1 p hp) l2)) (Ne.symm e2) (Nat.ne_of_gt (Nat.lt_trans l3 l4))
    have f3 := off cA (fun p hp => Nat.ne_of_lt (l1 p hp)) (Ne.symm e3) (Nat.ne_of_gt (Nat.lt_trans l2 (Nat.lt_trans l3 l4)))
    refine wpAny_mono (turn ((xs.take 6).take i) q a oc vc h tk own I ?_ hoc hw hg e1 e2 e3 (fun p hp => hI p (hn' _ (.tail _ (.tail _ (.tail _ hp))))) f1 f2 f3 F₁ ?_) (fun f s₂ p => ?_) fun _ _ e => e
    · have : (xs.take 6).length ≤ 6 := List.length_take_le ..
      rw [List.length_take]; omega
    · intro p hp
      refine N₁ p ?_
      rcases List.mem_cons.mp hp with e | hp
      · exact List.mem_append_left _ (hn' _ (e ▸ .head _))
      rcases List.mem_cons.mp hp with e | hp
      · exact List.mem_append_left _ (hn' _ (e ▸ .tail _ (.head _)))
      rcases List.mem_cons.mp hp with e | hp
      · exact List.mem_append_left _ (hn' _ (e ▸ .tail _ (.tail _ (.head _))))
      rcases List.mem_append.mp hp with hp | hp
      · exact List.mem_append_left _ (hn' _ (.tail _ (.tail _ (.tail _ hp))))
      · exact List.mem_append_right _ hp
    · rw [← hstep] at p
      cases f with
      | ret v => exact p
      | brk => exact p
      | next => obtain ⟨h', tk', m', news', a', e1, e2, e3, e4, e5, e6⟩ := p; exact ⟨h', tk', m', news', a', e1, e2, e3, e4, e5, news', fun _ z => z, e6⟩
      | cont => obtain ⟨h', tk', m', news', a', e1, e2, e3, e4, e5, e6⟩ := p; exact ⟨h', tk', m', news', a', e1, e2, e3, e4, e5, news', fun _ z => z, e6⟩
  · rintro a u news₁ h tk ⟨n', hn', oc, vc, hoc, rfl, hw, hg⟩ F₁ N₁
    have hl : (List.take 6 (xs.map fun q => Value.int q.1 q.2)).length = (xs.take 6).length := by rw [← List.map_take, List.length_map]
    rw [hl, List.take_length] at hw hg
    exact done a u oc vc h tk hoc hw hg F₁ fun p hp => N₁ p (hn' p hp)
end

theorem rows_size {xs : List (Int × Tok)} {f : Int → List (List Nat)} (hf : ∀ x, (f x).length ≤ 2) {n : Nat} (hn : xs.length ≤ n) {q : List (PySem.Str × Tok)} (h : q.map (·.1) = (xs.flatMap fun p => f p.1).map strL) : (strValues q).length ≤ 2 * n := by
  have e := congrArg List.length h
  simp only [List.length_map] at e
  have : ∀ ys : List (Int × Tok), (ys.flatMap fun p => f p.1).length ≤ 2 * ys.length := by
    intro ys
    induction ys with
    | nil => simp
    | cons y ys ih => simp only [List.flatMap_cons, List.length_append, List.length_cons]; have := hf y.1; omega
  have := this xs
  simp only [strValues, List.length_map]
  omega
theorem rowW_len (x : Int) : (rowW x).length ≤ 2 := by
  unfold rowW
  split
  · simp
  · split <;> simp
theorem rowG_len (x : Int) : (rowG x).length ≤ 2 := by
  unfold rowG
  split
  · have : ((x.fdiv 5).fmod 3) < 3 := by rw [Int.fmod_eq_emod_of_nonneg _ (by decide)]; omega
    simp only [List.length_map, List.length_range]; omega
  · split <;> simp
theorem strValues_append (a b : List (PySem.Str × Tok)) : strValues (a ++ b) = strValues a ++ strValues b := by simp [strValues]
theorem rows_post {h₀ h : Heap} {L tA gL wL : Addr} {aw ag wv gv : List (PySem.Str × Tok)} {vw vg : List Value} {o1 : Addr × Obj} {rest1 rest2 : List (Addr × Obj)} {P : Prop}
    (N : News h₀ L h ((tA, { cls := .type "tuple", data := .seq #[.ref wL, .ref gL] }) :: (gL, listOf (strValues ag ++ vg).toArray 0) :: o1 :: (wL, listOf (strValues aw ++ vw).toArray 0) :: (rest1 ++ rest2))) (hg : vg = strValues gv) (hw : vw = strValues wv)
    (k : News h₀ L h ((tA, { cls := .type "tuple", data := .seq #[.ref wL, .ref gL] }) :: (gL, listOf (strValues (ag ++ gv)).toArray 0) :: (wL, listOf (strValues (aw ++ wv)).toArray 0) :: rest2) → P) : P := by
  subst hg
  subst hw
  refine k fun p hp => ?_
  rw [strValues_append, strValues_append] at hp
  rcases List.mem_cons.mp hp with e | hp
  · exact e ▸ N _ (.head _)
  rcases List.mem_cons.mp hp with e | hp
  · exact e ▸ N _ (.tail _ (.head _))
  rcases List.mem_cons.mp hp with e | hp
  · exact e ▸ N _ (.tail _ (.tail _ (.tail _ (.head _))))
  · exact N _ (.tail _ (.tail _ (.tail _ (.tail _ (List.mem_append_right _ hp)))))
theorem rows_end {h₀ h : Heap} {L I gA wA cA : Addr} {x : PySem.Str} {own news all : List (Addr × Obj)} {m₀ : PySem.Str → Option Value} {pre : List (Int × Tok)} {q : Int × Tok} {u : Option Value} {aw ag wv gv : List (PySem.Str × Tok)} {cw cg tk : Nat} {oc : Obj} {vc : Option Value} {s₁ : Shared} {Q : Flow → Shared → Prop}
    (F : Fr h₀ L h (fun y => if y = x then u else m₀ y)) (N : News h₀ L h all) {gvv wvv : List Value} (hg : (gA, listOf (strValues ag ++ gvv).toArray cg) ∈ all) (hgv : gvv = strValues gv) (hw : (wA, listOf (strValues aw ++ wvv).toArray cw) ∈ all) (hwv : wvv = strValues wv) (hc : (cA, oc) ∈ all) (hr : ∀ p ∈ news ++ own, p ∈ all)
    (hoc : oc.data = Data.cell vc) (hI1 : gA ≠ I) (hI2 : wA ≠ I) (hI3 : cA ≠ I) (hIn : ∀ p ∈ news, p.1 ≠ I) (pw : aw.map (·.1) = (pre.flatMap fun q => rowW q.1).map strL) (pg : ag.map (·.1) = (pre.flatMap fun q => rowG q.1).map strL)
    (nw : wv.map (·.1) = (rowW q.1).map strL) (ng : gv.map (·.1) = (rowG q.1).map strL) :
    EndM h₀ L I x own (fun _ => m₀) (RowsAt gA wA cA news (pre ++ [q])) s₁ Q .next { s₁ with heap := h, toks := tk } := by
  subst hgv
  subst hwv
  rw [← strValues_append] at hg hw
  dsimp only [EndM]
  refine ⟨h, tk, _, _, ⟨aw ++ wv, ag ++ gv, cw, cg⟩, rfl, F, fun z hz => if_neg hz, ?_, ?_, oc, vc, hoc, rfl, ?_, ?_⟩
  · intro p hp
    refine N p ?_
    rcases List.mem_append.mp hp with hp | hp
    · rcases List.mem_cons.mp hp with rfl | hp
      · exact hg
      rcases List.mem_cons.mp hp with rfl | hp
      · exact hw
      rcases List.mem_cons.mp hp with rfl | hp
      · exact hc
      exact hr p (List.mem_append_left _ hp)
    · exact hr p (List.mem_append_right _ hp)
  · intro p hp
    rcases List.mem_cons.mp hp with rfl | hp
    · exact hI1
    rcases List.mem_cons.mp hp with rfl | hp
    · exact hI2
    rcases List.mem_cons.mp hp with rfl | hp
    · exact hI3
    exact hIn p hp
  · simp only [List.map_append, List.flatMap_append, List.flatMap_cons, List.flatMap_nil, List.append_nil, pw, nw]
  · simp only [List.map_append, List.flatMap_append, List.flatMap_cons, List.flatMap_nil, List.append_nil, pg, ng]

section
local macro_rules | `(tactic| walk_at "subscriptTail Name Slice ref ref") => `(tactic| (k_here; (with_reducible show wpAny _ _ (subscriptTail _ (PySem.Expr.Slice _ _ none _) (Value.ref _) (Value.ref _)) _ _ _); k_dflt (refine kmk_slice_lit (by k_asm) (by k_asm) (by exact isList_at (by assumption) (by k_asm)) (by kmk_part) (by kmk_part) (by exact slice_six _) ?_ (by with_unfolding_all rfl) (by kmk_pure) (by (try simp only [List.size_toArray, List.length_map]); rw [sizeLine_eq]; omega)); intro D' h' F' N' l1; (try k_lt l1); (try k_sweep)))
local macro_rules | `(tactic| walk_at "pyIter ref") => `(tactic| (k_here; refine held ?_))
local macro_rules | `(tactic| walk_at "call ref") => `(tactic| (k_here; (with_reducible show wpAny _ _ (call (Value.ref 773) _) _ _ _); k_dflt (refine (word_ctr _ _ _ _ _ _ _ _ _).use (by k_asm) (by k_asm) (by k_asm) (by k_asm) (by k_asm) (by first | exact rfl | assumption) (by ktr_room) (by (have hcL9 := cLine_is); (simp only [units_under_tc, units_in1, units_deeper, Around.mark_units]); (try dsimp only [ktrTop]); omega) ?_); intro r9 h9 tk9 n9 F' N' hpo; obtain ⟨e1, tW, e2⟩ := hpo; subst e1; subst e2))
local macro_rules | `(tactic| walk_at "CompSrc") => `(tactic| (k_here; k_dflt (refine LCg.CompSrc.range (by rfl) (by k_asm) (by k_asm) (by assumption) (by first | decide | rfl) (by first | rfl | decide) (by exact Nat.le_of_ble_eq_true rfl) ?_; intro g'; lcg_lit)))
local macro_rules | `(tactic| walk_at "CompEnd") => `(tactic| (refine LCg.CompEnd.intro (by assumption) (by k_asm) _ (fun p hp => hp) (by ((try simp only [LCg.Off3, and_true]); assumption)) trivial ?_))
local macro_rules | `(tactic| walk_at "call type:range") => `(tactic| (k_here; (rename Int.fmod (Int.fdiv _ 5) 3 = _ => hm9); rw [hm9]))
local macro_rules | `(tactic| walk_at "binaryOp Add ref ref") => `(tactic| (k_here; (with_reducible show wpAny _ _ (binaryOp _ (Value.ref _) (Value.ref _)) _ _ _); k_dflt (refine kmk_add_lit (by k_asm) (by k_asm) (by kmk_list) (by kmk_list) (by exact rfl) ?_ (by rw [sizeLine_eq]; (try simp only [List.size_toArray, List.length_append, List.length_cons, List.length_nil]); omega)); intro D' h' F' N' l1; (try k_lt l1); (try k_sweep)))
local macro_rules | `(tactic| walk_at "ite") => `(tactic| (first | with_reducible refine ite_tt ?_ | with_reducible refine ite_ff ?_ | k_dflt (first | with_reducible refine ite_pos (by assumption) ?_ | with_reducible refine ite_neg (by assumption) ?_)))
local macro_rules | `(tactic| walk_at "call builtin:list.append") => `(tactic| (k_here; (with_reducible show wpAny _ _ (call (Value.builtin _) [Value.ref _, _]) _ _ _); k_dflt (refine append_K (by k_asm) (by k_asm) (by k_upd) ?_ (by rw [sizeLine_eq]; omega); k_whole); intro h' F' N'; (try k_sweep)))
local macro_rules | `(tactic| walk_at "call builtin:list.extend") => `(tactic| (k_here; (with_reducible show wpAny _ _ (call (Value.builtin _) [Value.ref _, Value.ref _]) _ _ _); k_dflt (first
  | (refine kl_extend (by k_asm) (by k_asm) (by k_mem) (by exact rfl) (by exact Nat.succ_ne_zero _) (by k_upd) (by exact too_long (by (try simp only [List.size_toArray, List.length_append, List.length_cons, List.length_nil]); omega)) (by rw [Array.length_toList, sizeLine_eq]; omega) (by rw [sizeLine_eq]; (try simp only [List.size_toArray, List.length_append, List.length_cons, List.length_nil]); omega) ?_)
  | (refine kxn_extend (by k_asm) (by k_asm) (by k_mem) (by exact rfl) (by k_upd) (by exact too_long (by (try simp only [List.size_toArray, List.length_append, List.length_cons, List.length_nil]); omega)) (by rw [Array.length_toList, sizeLine_eq]; omega) (by rw [sizeLine_eq]; (try simp only [List.size_toArray, List.length_append, List.length_cons, List.length_nil]); omega) ?_)); intro h' F' N'; (try dsimp only at N'); (try k_sweep)))
local macro_rules | `(tactic| walk_at "exec For") => `(tactic| (k_here; refine held ?_))
local macro_rules | `(tactic| walk_at "exec For Name Subscript cons nil") => `(tactic| (k_here; refine held ?_))
set_option maxHeartbeats 1000000 in
theorem rows_ctr (w : World) (p : Program) (loose : List PySem.Str) (mean : ExcName → Option Value) (mg mb : PySem.Str → Option Value) (l : Nat) (xs : List (Int × Tok)) (news : List (Addr × Obj)) (hx : xs.length ≤ 63) :
    CtrP (fun h => h.IsList l (xs.map fun q => Value.int q.1 q.2).toArray) 10 100 w p loose mean mg mb 778 [.ref l] news (fun r news' => ∃ (tA gL wL cg cw : Nat) (wq gq : List (PySem.Str × Tok)), r = .ref tA ∧ news' = (tA, { cls := .type "tuple", data := .seq #[.ref wL, .ref gL] }) :: (gL, listOf (strValues gq).toArray cg) :: (wL, listOf (strValues wq).toArray cw) :: news ∧ wq.map (·.1) = ((xs.take 6).flatMap (fun q : Int × Tok => rowW q.1) ++ [[46, 46, 46], [105, 116, 39, 115]]).map strL ∧ gq.map (·.1) = ((xs.take 6).flatMap (fun q : Int × Tok => rowG q.1) ++ [[], [105, 116, 39, 115]]).map strL ∧ (∀ p ∈ news, p.1 < wL) ∧ wL < gL ∧ gL < tA) := by
  unfold CtrP
  k_fill
  intro dp un gd cn cs a ccd cl outer A₀ base h₀ L m s Q E B F X N T hl0 hk hd hu hret
  refine wpAny_noRaise ?_
  refine wpAny_call ?_
  k_dflt (refine' code_defC ?k1 ?k2 ?k3 ?k4 ?k5 ?kA ?kF ?kK ?k6 ?k7 ?k8 ?k9 ?kB ?kD ?_ ?c2 ?c3 ?c4; (case kA => exact rfl); (case kF => exact rfl); (case kK => first | exact rfl | assumption); (case k1 => k_asm); (case k2 => k_asm); (case k3 => k_asm); (case k4 => k_asm); (case k5 => k_asm); (case k6 => k_is); (case k7 => k_is); (case k8 => ktr_room); (case k9 => exact BindsTo.of_eq rfl); (case kB => exact rfl); (case kD => decide +kernel); (case c2 => exact rfl); (case c3 => exact rfl); (case c4 => exact rfl); k_whole; intro g' L' h' tk' cells' FG' F' N' Y' B' X' T' l1; (try k_lt l1); k_cells Y'; (try simp only [List.cons_append, List.nil_append] at N'); (try dsimp only); (try k_lift B'); (try k_fold))
  have hlB := isList_at hl0 FG'
  refine wpAny_noRaise ?_
  try k_fold
  k_steps
  unfold Held
  rename Fr _ _ _ _ => F0
  rename News _ _ _ _ => N0
  refine for_of F0 (by exact rfl) (by exact rfl) ?_
  walk1
  try k_fold
  k_steps
  unfold Held
  rename Fr _ _ _ _ => F1
  rename News _ _ _ _ => N1
  rename Obj.data _ = _ => hoc
  refine for_rows rfl F1 N1 hoc ⟨fun p hp => Nat.lt_succ_of_lt ((by assumption : ∀ p ∈ news, p.1 < L') p hp), by assumption, by assumption, by assumption⟩ ?_ ?_
  · rintro pre ⟨x0, tx⟩ aw oc1 vc1 h1 tk1 own I hpre hoc1 hw hg hI1 hI2 hI3 hIn hf1 hf2 hf3 F2 N2
    obtain ⟨aww, awg, awcw, awcg⟩ := aw
    dsimp only at hw hg F2 N2
    clear F1 N1
    have hlw' : (strValues aww).length ≤ 1000 := Nat.le_trans (rows_size rowW_len (Nat.le_of_lt hpre) hw) (by decide)
    have hlg' : (strValues awg).length ≤ 1000 := Nat.le_trans (rows_size rowG_len (Nat.le_of_lt hpre) hg) (by decide)
    have hlw : (strValues aww).toArray.size ≤ 1000 := by simpa using hlw'
    have hlg : (strValues awg).toArray.size ≤ 1000 := by simpa using hlg'
    by_cases h2 : x0.fmod 5 = 2
    · have hb2 : (x0.fmod 5 == 2) = true := by rw [h2]; rfl
      have hn3 : (x0.fdiv 5).fmod 3 = 0 ∨ (x0.fdiv 5).fmod 3 = 1 ∨ (x0.fdiv 5).fmod 3 = 2 := by
        rw [Int.fmod_eq_emod_of_nonneg _ (by decide)]; omega
      rcases hn3 with hm | hm | hm
      · try k_fold
        k_steps
        rename Obj.data _ = _ => hoc9
        rename News _ _ _ _ => N9
        try simp only [List.push_toArray] at N9
        rename Int.fmod (Int.fdiv _ 5) 3 = _ => hm9
        refine rows_end (gv := []) (wv := [(_, _)]) (gvv := []) (by k_asm) N9 (by rw [List.append_nil]; exact (.tail _ (.head _))) rfl (.tail _ (.tail _ (.head _))) rfl (.tail _ (.tail _ (.tail _ (.head _)))) (fun p hp => (.tail _ (.tail _ (.tail _ (.tail _ hp))))) hoc9 hI1 hI2 hI3 hIn hw hg ?_ ?_
        · simp only [rowW, if_pos h2]; rfl
        · simp only [rowG, if_pos h2, hm9]; rfl
      · try k_fold
        k_steps
        rename Obj.data _ = _ => hoc9
        rename News _ _ _ _ => N9
        try simp only [List.push_toArray] at N9
        rename Int.fmod (Int.fdiv _ 5) 3 = _ => hm9
        refine rows_end (gv := [(_, _)]) (wv := [(_, _)]) (by k_asm) N9 (.tail _ (.head _)) rfl (.tail _ (.tail _ (.head _))) rfl (.tail _ (.tail _ (.tail _ (.head _)))) (fun p hp => (.tail _ (.tail _ (.tail _ (.tail _ hp))))) hoc9 hI1 hI2 hI3 hIn hw hg ?_ ?_
        · simp only [rowW, if_pos h2]; rfl
        · simp only [rowG, if_pos h2, hm9]; rfl
      · try k_fold
        k_steps
        rename Obj.data _ = _ => hoc9
        rename News _ _ _ _ => N9
        try simp only [List.push_toArray] at N9
        rename Int.fmod (Int.fdiv _ 5) 3 = _ => hm9
        refine rows_end (gv := [(_, _), (_, _)]) (wv := [(_, _)]) (by k_asm) N9 (.tail _ (.head _)) rfl (.tail _ (.tail _ (.head _))) rfl (.tail _ (.tail _ (.tail _ (.head _)))) (fun p hp => (.tail _ (.tail _ (.tail _ (.tail _ hp))))) hoc9 hI1 hI2 hI3 hIn hw hg ?_ ?_
        · simp only [rowW, if_pos h2]; rfl
        · simp only [rowG, if_pos h2, hm9]; rfl
    · have hb2 : ¬ (x0.fmod 5 == 2) = true := by rw [beq_iff_eq]; exact h2
      have h5 : 0 ≤ x0.fmod 5 ∧ x0.fmod 5 < 5 := by
        rw [Int.fmod_eq_emod_of_nonneg _ (by decide)]; omega
      try k_fold
      k_steps
      all_goals (rename Obj.data _ = _ => hoc9)
      all_goals (rename News _ _ _ _ => N9)
      all_goals (try simp only [List.push_toArray] at N9)
      all_goals first
        | (exfalso; omega)
        | ((have hA : x0.fmod 5 < 4 := by omega); (have hB : ¬ x0.fmod 5 = 3 := by omega); (refine rows_end (gv := [(_, _)]) (wv := [(_, _)]) (by k_asm) N9 (.tail _ (.tail _ (.head _))) rfl (.tail _ (.tail _ (.tail _ (.head _)))) rfl (.tail _ (.tail _ (.tail _ (.tail _ (.head _))))) (fun p hp => (.tail _ (.tail _ (.tail _ (.tail _ (.tail _ hp)))))) hoc9 hI1 hI2 hI3 hIn hw hg ?_ ?_); (· simp only [rowW, if_neg h2, hA, hB, if_true, if_false, if_pos, if_neg, not_false_eq_true]; rfl); (· simp only [rowG, if_neg h2, hA, hB, if_true, if_false, if_pos, if_neg, not_false_eq_true]; rfl))
        | ((have hA : x0.fmod 5 < 4 := by omega); (have hB : x0.fmod 5 = 3 := by omega); (refine rows_end (gv := []) (wv := [(_, _)]) (gvv := []) (by k_asm) N9 (by rw [List.append_nil]; exact (.tail _ (.tail _ (.head _)))) rfl (.tail _ (.tail _ (.tail _ (.head _)))) rfl (.tail _ (.tail _ (.tail _ (.tail _ (.head _))))) (fun p hp => (.tail _ (.tail _ (.tail _ (.tail _ (.tail _ hp)))))) hoc9 hI1 hI2 hI3 hIn hw hg ?_ ?_); (· simp only [rowW, if_neg h2, hA, hB, if_true, if_false, if_pos, if_neg, not_false_eq_true]; rfl); (· simp only [rowG, if_neg h2, hA, hB, if_true, if_false, if_pos, if_neg, not_false_eq_true]; rfl))
        | ((have hA : ¬ x0.fmod 5 < 4 := by omega); (have hB : ¬ x0.fmod 5 = 3 := by omega); (refine rows_end (gv := [(_, _)]) (wv := []) (wvv := []) (by k_asm) N9 (.tail _ (.tail _ (.head _))) rfl (by rw [List.append_nil]; exact (.tail _ (.tail _ (.tail _ (.head _))))) rfl (.tail _ (.tail _ (.tail _ (.tail _ (.head _))))) (fun p hp => (.tail _ (.tail _ (.tail _ (.tail _ (.tail _ hp)))))) hoc9 hI1 hI2 hI3 hIn hw hg ?_ ?_); (· simp only [rowW, if_neg h2, hA, hB, if_true, if_false, if_pos, if_neg, not_false_eq_true]; rfl); (· simp only [rowG, if_neg h2, hA, hB, if_true, if_false, if_pos, if_neg, not_false_eq_true]; rfl))
        | trace_state
  · rintro ⟨aww, awg, awcw, awcg⟩ u oc1 vc1 h1 tk1 hoc1 hw hg F2 N2
    dsimp only at hw hg F2 N2
    clear F1 N1
    have hlw' : (strValues aww).length ≤ 1000 := Nat.le_trans (rows_size rowW_len (List.length_take_le 6 xs) hw) (by decide)
    have hlg' : (strValues awg).length ≤ 1000 := Nat.le_trans (rows_size rowG_len (List.length_take_le 6 xs) hg) (by decide)
    have hlw : (strValues aww).toArray.size ≤ 1000 := by simpa using hlw'
    have hlg : (strValues awg).toArray.size ≤ 1000 := by simpa using hlg'
    try k_fold
    k_steps
    rename News _ _ _ _ => N9
    refine rows_post (rest1 := [_, _, _, _]) (gv := [(_, _), (_, _)]) (wv := [(_, _), (_, _)]) N9 rfl rfl fun N10 => ?_
    refine hret _ _ _ _ (by k_asm) N10 ⟨_, _, _, 0, 0, _, _, rfl, rfl, ?_, ?_, ?_, ?_, ?_⟩
    · simp only [List.map_append, hw]; rfl
    · simp only [List.map_append, hg]; rfl
    · assumption
    · assumption
    · assumption
end
end Mine
end

theorem Mine.off_W1 : True := by
  w_top off
  first | walk1 | trivial

-- part L2
section
open PySem PySem.W PyProof.Rows PySem.Calls PySem.Spec
set_option maxRecDepth 100000
namespace Mine
section
variable {prog : Program} {w : World} {A : Around} {E : Value → Shared → Prop} {s : Shared} {env : Env} {h₀ : Heap} {x : PySem.Str} {body : List Stmt} {Q : Flow → Shared → Prop}

/-- a loop over a range that is met as an object -/
theorem for_range {r : Addr} {a b : Int} {t u v : Tok} {n : Nat} {m₀ : PySem.Str → Option Value} {news : List (Addr × Obj)} (J : Nat → (PySem.Str → Option Value) → List (Addr × Obj) → Prop)
    (hh : A.handled = none) (F : Fr h₀ env.locals s.heap m₀) (N : News h₀ env.locals s.heap news) (hr : IsRange s.heap r a b 1 t u v) (hsm : Builtin.Range.small a b 1 = true) (hn : Builtin.Range.rangeSize a b 1 = ((n : Nat) : Int)) (hj : J 0 m₀ news)
    (turn : ∀ i t' m₁ news₁ h tk own I, i < n → J i m₁ news₁ → (∀ p ∈ news₁, p.1 ≠ I) → (∀ p ∈ own, p.1 = I) → Fr h₀ env.locals h (fun y => if y = x then some (.int (a + (i : Int)) t') else m₁ y) → News h₀ env.locals h (news₁ ++ own) →
      wpAny (model prog w) A (execs body env) (EndL h₀ env.locals I own (J (i + 1)) { s with heap := h, toks := tk } Q) E { s with heap := h, toks := tk })
    (done : ∀ m₁ news₁ h tk, J n m₁ news₁ → Fr h₀ env.locals h m₁ → News h₀ env.locals h news₁ → Q .next { s with heap := h, toks := tk }) :
    wpAny (model prog w) A (pyIter (.ref r)) (fun it s₂ => LoopAtV prog w A h₀ env x body Q E it s₂) E s := by
  refine wpAny_pyIter_range hr hsm ?_
  have W := LCg.range_walks (prog := prog) (w := w) (I := s.heap.objs.size) hh a n
  refine ⟨_, _, _, n, _, _, m₀, news, J, rfl, W, ?_, ?_, ?_, ?_, F.push _, (fun p hp => ⟨Heap.get?_push_of_some _ (N p hp).1, (N p hp).2⟩), hj, ?_, ?_⟩
  · intro hm
    exact absurd F.ns.lt ((List.mem_singleton.mp hm) ▸ Nat.lt_irrefl _)
  · intro b hb
    rw [List.mem_singleton.mp hb]
    exact next_is_new F
  · intro p hp hI
    exact absurd (Heap.lt_size (N p hp).1) ((List.mem_singleton.mp hI) ▸ Nat.lt_irrefl _)
  · show IsRangeIter _ _ _ _ _
    rw [hn]
    simpa using Heap.get?_push_size _ rfl
  · rintro i v m₁ news₁ s₁ own ⟨hh', tk', rfl⟩ hin ⟨t', rfl⟩ hJ hoff hown _ _ _ F₁ N₁
    refine wpAny_mono (turn i t' m₁ news₁ hh' tk' own _ hin hJ (fun p hp e => hoff p hp (List.mem_singleton.mpr e)) (fun p hp => List.mem_singleton.mp (hown p hp)) F₁ (news_swap N₁)) (fun f s₂ p => ?_) fun _ _ e => e
    have fin : (∃ h' tk m' news', s₂ = { s with heap := h', toks := tk } ∧ Fr h₀ env.locals h' m' ∧ News h₀ env.locals h' (news' ++ own) ∧ (∀ p ∈ news', p.1 ≠ s.heap.objs.size) ∧ J (i + 1) m' news') →
        LoopStepU h₀ env.locals [s.heap.objs.size] own (J (i + 1)) { s with heap := hh', toks := tk' } .next s₂ := by
      rintro ⟨h', tk, m', news', e, F', N', hn, hm⟩
      exact ⟨rfl, h', tk, m', news', e, F', news_swap N', fun p hp hq => hn p hp (List.mem_singleton.mp hq), hm⟩
    cases f with
    | ret v => exact .ret p
    | brk => exact .brk p
    | next => exact .next (fin p)
    | cont => exact .cont (fin p)
  · rintro h' tk m' news' F' N' _ hJ
    exact done m' news' h' tk hJ F' N'

/-- a turn of a loop whose name is a cell -/
noncomputable def EndC (h₀ : Heap) (L I c : Addr) (m : PySem.Str → Option Value) (own : List (Addr × Obj)) (R : List (Addr × Obj) → Prop) (s₁ : Shared) (Q : Flow → Shared → Prop) (f : Flow) (s₂ : Shared) : Prop :=
  match f with
  | .ret v => Q (.ret v) s₂
  | .brk => Q .next s₂
  | _ => ∃ h' tk oc vc news', s₂ = { s₁ with heap := h', toks := tk } ∧ Fr h₀ L h' m ∧ oc.data = Data.cell vc ∧ News h₀ L h' ((c, oc) :: (news' ++ own)) ∧ (∀ p ∈ news', p.1 ≠ I ∧ p.1 ≠ c) ∧ R news'

theorem for_cell {px pos : Pos} {iter : Expr} {l c : Addr} {vs : List Value} {n₀ : Nat} {m : PySem.Str → Option Value} {oc : Obj} {vc : Option Value} {news : List (Addr × Obj)} (R : Nat → List (Addr × Obj) → Prop)
    (hk : env.scope.kind = .function) (hx : env.kindOf x = some .cell) (hc : env.cells.lookup x = some c) (hh : A.handled = none) (F : Fr h₀ env.locals s.heap m) (hoc : oc.data = Data.cell vc) (N : News h₀ env.locals s.heap ((c, oc) :: news)) (hn : ∀ p ∈ news, p.1 ≠ c) (hl : (l, listOf vs.toArray n₀) ∈ news)
    (hit : ∀ Q E, Q (.ref l) s → wpAny (model prog w) A (eval iter env) Q E s) (h0 : R 0 news)
    (hR : ∀ i n, R i n → (l, listOf vs.toArray n₀) ∈ n)
    (turn : ∀ i v news₁ h tk I oI oc, vs[i]? = some v → R i news₁ → (∀ p ∈ news₁, p.1 ≠ I ∧ p.1 ≠ c) → c ≠ I → oc.data = Data.cell (some v) → Fr h₀ env.locals h m → News h₀ env.locals h ((c, oc) :: (news₁ ++ [(I, oI)])) →
      wpAny (model prog w) A (execs body env) (EndC h₀ env.locals I c m [(I, oI)] (R (i + 1)) { s with heap := h, toks := tk } Q) (fun _ _ => False) { s with heap := h, toks := tk })
    (done : ∀ oc vc news₁ h tk, R vs.length news₁ → oc.data = Data.cell vc → Fr h₀ env.locals h m → News h₀ env.locals h ((c, oc) :: news₁) → Q .next { s with heap := h, toks := tk })
    (hs : ∀ x, foldedSetIterable iter env x = pure x := by intro _; rfl) :
    wpAny (model prog w) A (exec (.For (.Name x px) iter body [] pos) env) Q E s := by
  refine wpAny_noRaise ?_
  refine wpAny_For (hit _ _ ?_) hs
  have hls : s.heap.IsList l vs.toArray := News.isList N (.tail _ hl)
  have hlt : l < s.heap.objs.size := by obtain ⟨_, e, _⟩ := hls; exact Heap.lt_size e
  have hclt : c < s.heap.objs.size := Heap.lt_size (N _ (.head _)).1
  have hne : l ≠ s.heap.objs.size := Nat.ne_of_lt hlt
  refine wpAny_pyIter_list hls ?_
  have W := Walks.list (prog := prog) (w := w) hh s.heap.objs.size l hne vs.toArray
  have hlen : vs.toArray.size = vs.length := by simp
  rw [hlen] at W
  have up : ∀ b o, s.heap.get? b = some o → (s.heap.push { cls := .type "list_iterator", data := .fields #[.ref l, .int 0 0] }).get? b = some o := fun b o e => Heap.get?_push_of_some _ e
  have hI1 : (s.heap.push { cls := .type "list_iterator", data := .fields #[.ref l, .int 0 0] }).get? s.heap.objs.size = some { cls := .type "list_iterator", data := .fields #[.ref l, .int 0 0] } := Heap.get?_push_size _ rfl
  have hI0 : h₀.get? s.heap.objs.size = none := next_is_new F
  have hIL : s.heap.objs.size ≠ env.locals := Nat.ne_of_gt F.ns.lt
  generalize hIe : s.heap.objs.size = I at *
  have hcI : c ≠ I := Nat.ne_of_lt hclt
  have F1 := F.keeps up
  generalize s.heap.push { cls := .type "list_iterator", data := .fields #[.ref l, .int 0 0] } = H1 at *
  refine codeAny_forLoop (fun k s' => ∃ h' tk oc vc news' i, s' = { s with heap := h', toks := tk } ∧ i ≤ vs.length ∧ k = vs.length + 1 - i ∧ h'.IsListIter I l i ∧ Fr h₀ env.locals h' m ∧ oc.data = Data.cell vc ∧ News h₀ env.locals h' ((c, oc) :: news') ∧ (∀ p ∈ news', p.1 ≠ I ∧ p.1 ≠ c) ∧ R i news') ?_ (vs.length + 1)
    ⟨H1, s.toks, oc, vc, news, 0, rfl, Nat.zero_le _, rfl, ⟨_, hI1, rfl, rfl⟩, F1, hoc, N.grown up, fun p hp => ⟨Nat.ne_of_lt (hIe ▸ Heap.lt_size (N p (.tail _ hp)).1), hn p hp⟩, h0⟩ (by intro _; rfl)
  rintro k s' ⟨h', tk, oc', vc', news', i, rfl, hi, rfl, hst, F', hoc', N', off, hr⟩
  have hl' : h'.IsList l vs.toArray := News.isList N' (.tail _ (hR i news' hr))
  by_cases hlt : i < vs.length
  · refine W.item i _ _ _ hlt ⟨hst, hl'⟩ fun v h₁ tk₁ hP hst₁ hk₁ => ?_
    have hk₁' : ∀ b o, b ≠ I → h'.get? b = some o → h₁.get? b = some o := fun b o hb e => hk₁ b o (by simpa using hb) e
    have F2 : Fr h₀ env.locals h₁ m := ⟨F'.ns.at' fun o e => hk₁' _ o (Ne.symm hIL) e, fun b o e => hk₁' b o (fun q => by rw [q, hI0] at e; cases e) (F'.keep b o e), F'.above⟩
    have N2 : News h₀ env.locals h₁ ((c, oc') :: news') := fun p hp => by
      refine ⟨hk₁' _ _ ?_ (N' p hp).1, (N' p hp).2⟩
      rcases List.mem_cons.mp hp with rfl | hp
      · exact hcI
      · exact (off p hp).1
    have hcell := (N2 _ (.head _)).1
    refine wpAny_assign_Name (wpAny_storeName_cell hk hx hc ⟨oc', hcell, hoc'⟩ fun h₂ hc₂ hs₂ => ?_)
    obtain ⟨oc2, hoc2, hd2⟩ := hc₂
    have F3 : Fr h₀ env.locals h₂ m := F2.change hs₂ (N2 _ (.head _)).2.1 (N2 _ (.head _)).2.2
    obtain ⟨oI, hoI, hoI2⟩ := hst₁.1
    have hoI3 : h₂.get? I = some oI := hs₂.extBut _ _ (Ne.symm hcI) hoI
    have N3 : News h₀ env.locals h₂ ((c, oc2) :: (news' ++ [(I, oI)])) := fun p hp => by
      rcases List.mem_cons.mp hp with rfl | hp
      · exact ⟨hoc2, (N2 _ (.head _)).2⟩
      · rcases List.mem_append.mp hp with hp | hp
        · exact ⟨hs₂.extBut _ _ (off p hp).2 (N2 p (.tail _ hp)).1, (N2 p (.tail _ hp)).2⟩
        · rw [List.mem_singleton.mp hp]; exact ⟨hoI3, hIL, hI0⟩
    have hv : vs[i]? = some v := by simpa using hP
    refine wpAny_mono (turn i v news' h₂ _ I oI oc2 hv hr off hcI hd2 F3 N3) (fun f s₃ p => ?_) fun _ _ e => e.elim
    have fin : (∃ h' tk oc vc news', s₃ = { s with heap := h', toks := tk } ∧ Fr h₀ env.locals h' m ∧ oc.data = Data.cell vc ∧ News h₀ env.locals h' ((c, oc) :: (news' ++ [(I, oI)])) ∧ (∀ p ∈ news', p.1 ≠ I ∧ p.1 ≠ c) ∧ R (i + 1) news') →
        ∃ m_1, m_1 < vs.length + 1 - i ∧ ∃ h' tk oc vc news' i, s₃ = { s with heap := h', toks := tk } ∧ i ≤ vs.length ∧ m_1 = vs.length + 1 - i ∧ h'.IsListIter I l i ∧ Fr h₀ env.locals h' m ∧ oc.data = Data.cell vc ∧ News h₀ env.locals h' ((c, oc) :: news') ∧ (∀ p ∈ news', p.1 ≠ I ∧ p.1 ≠ c) ∧ R i news' := by
      rintro ⟨h4, tk4, oc4, vc4, news4, e4, F4, hd4, N4, off4, r4⟩
      refine ⟨vs.length + 1 - (i + 1), by omega, h4, tk4, oc4, vc4, news4, i + 1, e4, hlt, rfl, ⟨oI, ?_, hoI2⟩, F4, hd4, fun p hp => N4 p ?_, off4, r4⟩
      · exact (N4 (I, oI) (.tail _ (List.mem_append_right _ (.head _)))).1
      · rcases List.mem_cons.mp hp with rfl | hp
        · exact .head _
        · exact .tail _ (List.mem_append_left _ hp)
    cases f with
    | ret v => exact p
    | brk => exact p
    | next => exact fin p
    | cont => exact fin p
  · have hin : i = vs.length := by omega
    subst hin
    refine W.done _ _ _ ⟨hst, hl'⟩ fun h₁ tk₁ hk₁ => wpAny_execs_nil ?_
    have hk₁' : ∀ b o, b ≠ I → h'.get? b = some o → h₁.get? b = some o := fun b o hb e => hk₁ b o (by simpa using hb) e
    have F2 : Fr h₀ env.locals h₁ m := ⟨F'.ns.at' fun o e => hk₁' _ o (Ne.symm hIL) e, fun b o e => hk₁' b o (fun q => by rw [q, hI0] at e; cases e) (F'.keep b o e), F'.above⟩
    refine done oc' vc' news' h₁ tk₁ hr hoc' F2 fun p hp => ?_
    refine ⟨hk₁' _ _ ?_ (N' p hp).1, (N' p hp).2⟩
    rcases List.mem_cons.mp hp with rfl | hp
    · exact hcI
    · exact (off p hp).1
end
end Mine
end

-- part L3
section
open PySem PySem.W PyProof.Rows PySem.Calls PySem.Spec
set_option maxRecDepth 100000
namespace Mine
open MeetsSeq in
theorem eqGives_bool (a b : Bool) : EqGives (.bool a) (.bool b) (a == b) := by
  intro prog w A E s Q h
  unfold eqBool
  refine wpAny_holding ?_
  refine wpAny_ite_split (fun hab => ?_) (fun hab => ?_)
  · have e : a = b := by have := eq_of_beq hab; injection this
    subst e
    exact wpAny_bind (wpAny_rule (wpAny_pure (by simpa using h)))
  · exact wpAny_bind (PyProof.Rows.eq_bool (wpAny_truthy_bool h))

section
variable {prog : Program} {w : World} {A : Around} {E : Value → Shared → Prop} {s : Shared} {h₀ : Heap} {L : Addr} {m : PySem.Str → Option Value} {env : Env}
theorem in_bools {l : Addr} {bs : List Bool} {b : Bool} {Q : Value → Shared → Prop} (hl : s.heap.IsList l (bs.map Value.bool).toArray) (h : Q (.bool (bs.contains b)) s) : wpAny (model prog w) A (compareOp .In (.bool b) (.ref l)) Q E s := by
  refine SeqInW.in_listW (fun v => v == .bool b) (fun y hy => ?_) hl ?_
  · have hy' : y ∈ bs.map Value.bool := by simpa using hy
    obtain ⟨a, _, rfl⟩ := List.mem_map.mp hy'
    have : ((Value.bool a == Value.bool b) : Bool) = (a == b) := by cases a <;> cases b <;> rfl
    rw [this]
    exact eqGives_bool a b
  · have : ((bs.map Value.bool).toArray.any fun v => v == .bool b) = bs.contains b := by
      rw [← Array.any_toList]
      show (bs.map Value.bool).any _ = _
      rw [List.any_map, Bool.eq_iff_iff, List.any_eq_true, List.contains_iff_mem]
      constructor
      · rintro ⟨a, ha, e⟩
        have : a = b := by have := eq_of_beq e; injection this
        exact this ▸ ha
      · intro hb
        exact ⟨b, hb, by cases b <;> rfl⟩
    rw [this]
    exact h

/-- a comprehension over a range, its elements known one by one, the ledger as it was -/
theorem comp_ind {elt : Expr} {x : PySem.Str} {scope : Scope} {cl : List (PySem.Str × Addr)} {S : List (Addr × Obj) → Prop} {P : Nat → Value → Prop} {Fin : List Value → List (Addr × Obj) → Prop} {n : Nat} {news : List (Addr × Obj)} (ysOf : Nat → List Value)
    (h0 : ysOf 0 = []) (hFin : Fin (ysOf n) news)
    (step : ∀ i v I oI C oC D m₂ h tk (E' : Value → Shared → Prop), i < n → P i v → LCg.NsObj oC m₂ → m₂ x = some v → Fr h₀ L h m → News h₀ L h ((I, oI) :: (C, oC) :: (D, LCg.lst (ysOf i)) :: news) → LCg.Off3 I C D news → ((@Ne Nat I C) ∧ (@Ne Nat I D) ∧ (@Ne Nat C D)) →
      wpAny (model prog w) A (eval elt (compEnvC scope cl C env)) (LCg.CompEnd h₀ L m { s with heap := h, toks := tk } I oI C oC D (LCg.lst (ysOf i)) S (fun y news' => news' = news ∧ ysOf (i + 1) = ysOf i ++ [y])) E' { s with heap := h, toks := tk }) :
    LCg.CompRest prog w A h₀ L m env elt x scope cl s S P Fin n 0 [] news := by
  have key : ∀ k i, k + i = n → LCg.CompRest prog w A h₀ L m env elt x scope cl s S P Fin k i (ysOf i) news := by
    intro k
    induction k with
    | zero =>
      intro i hi
      have : i = n := by omega
      subst this
      exact LCg.CompRest.zero hFin
    | succ k ih =>
      intro i hi
      refine LCg.CompRest.succ fun v I oI C oC D m₂ h tk E' hP hC hm F N off hd => ?_
      refine wpAny_mono (step i v I oI C oC D m₂ h tk E' (by omega) hP hC hm F N off hd) (fun y s₂ hy => ?_) fun _ _ e => e
      obtain ⟨h', tk', news', e, F', N', off', hS, rfl, hys⟩ := hy
      refine ⟨h', tk', news', e, F', N', off', hS, ?_⟩
      show LCg.CompRest prog w A h₀ L m env elt x scope cl s S P Fin k (i + 1) (ysOf i ++ [y]) news'
      rw [← hys]
      exact ih (i + 1) (by omega)
  have := key n 0 (by omega)
  rw [h0] at this
  exact this
end
end Mine
end

-- part E1
section
open PySem PySem.W PyProof.Rows PySem.Calls PySem.Builtin PySem.Builtin.Str
set_option maxRecDepth 100000
namespace Mine

noncomputable def find4 (x y : PySem.Str) (i j : Int) : Int := match occurrences x y (fromIndex x.length i) (min (fromIndex x.length j) x.length) 1 with | k :: _ => (k : Int) | [] => -1
theorem gives_find4 (x y : PySem.Str) (i j : Int) (t u v v' : Tok) : Gives («str.find» ⟨[.str x t, .str y u, .int i v, .int j v'], []⟩) (.int (find4 x y i j)) := by
  show Gives (match occurrences x y (fromIndex x.length i) (min (fromIndex x.length j) x.length) 1 with | k :: _ => retInt k | [] => (do rule "str.find.not-found"; retInt (-1))) _
  unfold find4
  cases occurrences x y (fromIndex x.length i) (min (fromIndex x.length j) x.length) 1 with
  | nil => exact .rule (.of_eq rfl)
  | cons k _ => exact .of_eq rfl

section
variable {prog : Program} {w : World} {A : Around} {E : Value → Shared → Prop} {s : Shared} {x y : PySem.Str} {t u v v' : Tok} {i j : Int} {h₀ : Heap} {L : Addr} {m : PySem.Str → Option Value} {news : List (Addr × Obj)}
theorem call_find4 {Q : Value → Shared → Prop} (hq : Q (.int (find4 x y i j) s.toks) { s with toks := s.toks + 1 }) : wpAny (model prog w) A (call (.builtin "str.find") [.str x t, .str y u, .int i v, .int j v']) Q E s :=
  call_gives F.slot_str_find (typeIs_str _ _ _) F.entry_str_find (F.args_str_find_4 _ _ _ _) (gives_find4 x y i j t u v v') hq

theorem split_pieces {x y p0 pn : PySem.Str} {mid : List PySem.Str} {Q : Value → Shared → Prop} (hsp : Txt.split x y = p0 :: (mid ++ [pn])) (hF : Fr h₀ L s.heap m) (hN : News h₀ L s.heap news) (hy : (y.length == 0) = false) (hsz : x.length + 2 ≤ sizeLine)
    (h : ∀ D (ql : List (PySem.Str × Tok)) h' k, ql.map (·.1) = p0 :: (mid ++ [pn]) → Fr h₀ L h' m → News h₀ L h' ((D, listOf (strValues ql).toArray 0) :: news) → (∀ p ∈ news, p.1 ≠ D) → Q (.ref D) { s with heap := h', toks := k }) :
    wpAny (model prog w) A (call (.builtin "str.split") [.str x t, .str y u]) Q E s := by
  refine splitN1 hF hN hy (fun l h' k hl F' N' => ?_) hsz
  rw [hsp] at hl
  exact h _ l h' k hl F' N' fun p hp e => absurd (Heap.lt_size (hN p hp).1) (by rw [e]; exact Nat.lt_irrefl _)

theorem strValues_cons {ql : List (PySem.Str × Tok)} {a : PySem.Str} {r : List PySem.Str} (h : ql.map (·.1) = a :: r) : ∃ t ql', ql = (a, t) :: ql' ∧ ql'.map (·.1) = r := by
  cases ql with
  | nil => cases h
  | cons q l =>
    obtain ⟨q1, q2⟩ := q
    simp only [List.map_cons, List.cons.injEq] at h
    exact ⟨q2, l, by rw [h.1], h.2⟩
theorem strValues_snoc {ql : List (PySem.Str × Tok)} {a : PySem.Str} {r : List PySem.Str} (h : ql.map (·.1) = r ++ [a]) : ∃ t ql', ql = ql' ++ [(a, t)] ∧ ql'.map (·.1) = r := by
  have hne : ql ≠ [] := fun e => by rw [e] at h; simp at h
  have e1 := List.dropLast_concat_getLast hne
  have h2 : (ql.dropLast.map (·.1)) ++ [(ql.getLast hne).1] = r ++ [a] := by
    rw [← h, ← List.map_singleton (f := Prod.fst), ← List.map_append, e1]
  obtain ⟨h3, h4⟩ := List.append_inj' h2 rfl
  have h5 : (ql.getLast hne).1 = a := by simpa using h4
  exact ⟨(ql.getLast hne).2, ql.dropLast, by conv => lhs; rw [← e1]
                                             rw [← h5], h3⟩

theorem item_zero {l : Addr} {a : PySem.Str} {r : List PySem.Str} {ql : List (PySem.Str × Tok)} {n : Nat} {tk : Tok} {value slice : Expr} {Q : Value → Shared → Prop} (N : News h₀ L s.heap news) (hl : (l, listOf (strValues ql).toArray n) ∈ news) (hq : ql.map (·.1) = a :: r) (h : ∀ t, Q (.str a t) s)
    (hs : subscripted slice false (.ref l) (.int 0 tk) = operate [.ref l, .int 0 tk] (getItem (.ref l) (.int 0 tk)) := by with_unfolding_all rfl) :
    wpAny (model prog w) A (subscriptTail value slice (.ref l) (.int 0 tk)) Q E s := by
  have hL : s.heap.IsList l (strValues ql).toArray := News.isList N hl
  obtain ⟨t, ql', rfl, _⟩ := strValues_cons hq
  exact tail_any hL.typeIs slot_list_getitem.lookup (wpAny_getItem_list hL (by decide) (by decide) (by simp [strValues]) (h t)) hs

theorem item_last {l : Addr} {a : PySem.Str} {r : List PySem.Str} {ql : List (PySem.Str × Tok)} {n : Nat} {tk : Tok} {value slice : Expr} {Q : Value → Shared → Prop} (N : News h₀ L s.heap news) (hl : (l, listOf (strValues ql).toArray n) ∈ news) (hq : ql.map (·.1) = r ++ [a]) (h : ∀ t, Q (.str a t) s)
    (hs : subscripted slice false (.ref l) (.int (-1) tk) = operate [.ref l, .int (-1) tk] (getItem (.ref l) (.int (-1) tk)) := by with_unfolding_all rfl) :
    wpAny (model prog w) A (subscriptTail value slice (.ref l) (.int (-1) tk)) Q E s := by
  have hL : s.heap.IsList l (strValues ql).toArray := News.isList N hl
  obtain ⟨t, ql', rfl, _⟩ := strValues_snoc hq
  refine tail_any hL.typeIs slot_list_getitem.lookup (wpAny_getItem_list_neg hL (by decide) ?_ (by decide) ?_ (h t)) hs
  · simp [strValues]; omega
  · have e : (-1 + ((strValues (ql' ++ [(a, t)])).toArray.size : Int)).toNat = ql'.length := by simp [strValues]; omega
    rw [e]; simp [strValues]
theorem item_last2 {l : Addr} {b a : PySem.Str} {r : List PySem.Str} {ql : List (PySem.Str × Tok)} {n : Nat} {tk : Tok} {value slice : Expr} {Q : Value → Shared → Prop} (N : News h₀ L s.heap news) (hl : (l, listOf (strValues ql).toArray n) ∈ news) (hq : ql.map (·.1) = b :: (r ++ [a])) (h : ∀ t, Q (.str a t) s)
    (hs : subscripted slice false (.ref l) (.int (-1) tk) = operate [.ref l, .int (-1) tk] (getItem (.ref l) (.int (-1) tk)) := by with_unfolding_all rfl) :
    wpAny (model prog w) A (subscriptTail value slice (.ref l) (.int (-1) tk)) Q E s := item_last (r := b :: r) N hl hq h hs

theorem len_pieces {l : Addr} {a b : PySem.Str} {r : List PySem.Str} {ql : List (PySem.Str × Tok)} {n : Nat} {Q : Value → Shared → Prop} (N : News h₀ L s.heap news) (hl : (l, listOf (strValues ql).toArray n) ∈ news) (hq : ql.map (·.1) = a :: (r ++ [b])) (hz : r.length ≤ 100000) (h : ∀ t k, Q (.int ((r.length : Int) + 2) t) { s with toks := k }) :
    wpAny (model prog w) A (call (.builtin "len") [.ref l]) Q E s := by
  have hL : s.heap.IsList l (strValues ql).toArray := News.isList N hl
  have hq2 := congrArg List.length hq
  have e : (((strValues ql).toArray.size : Nat) : Int) = (r.length : Int) + 2 := by simp [strValues] at hq2 ⊢; omega
  refine len_list hL (by rw [e]; omega) ?_
  rw [e]; exact h _ _

theorem del_zero {l : Addr} {a : PySem.Str} {r : List PySem.Str} {ql : List (PySem.Str × Tok)} {n : Nat} {tk : Tok} {g : Obj → List (Addr × Obj)} {Q : Unit → Shared → Prop} (F : Fr h₀ L s.heap m) (N : News h₀ L s.heap news) (U : UpdF l (listOf (strValues ql).toArray n) news g) (hq : ql.map (·.1) = a :: r) (hz : r.length ≤ 100000)
    (h : ∀ h' (ql' : List (PySem.Str × Tok)), ql'.map (·.1) = r → Fr h₀ L h' m → News h₀ L h' (g (listOf (strValues ql').toArray (n + 1))) → Q () { s with heap := h' }) : wpAny (model prog w) A (delItem (.ref l) (.int 0 tk)) Q E s := by
  obtain ⟨t, ql', rfl, hq'⟩ := strValues_cons hq
  obtain ⟨pre, post, e1, e2, h1, h2⟩ := U.split
  have hz' : ql'.length ≤ 100000 := by rw [← hq'] at hz; simpa using hz
  refine ki_del (its := (strValues ((a, t) :: ql')).toArray) (n := n) F N (by decide) (k := 0) (by simp [seqIndex?, strValues]) (q := strValues ql') (by simp [ki_delL, strValues]) ?_ (by simp [strValues, sizeLine_eq]; omega) fun h' F' N' => h h' ql' hq' F' N'
  rw [e1, e2]
  have go : ∀ (pre : List (Addr × Obj)), (∀ p ∈ pre, p.1 ≠ l) → Upd l (listOf (strValues ((a, t) :: ql')).toArray n) (listOf (strValues ql').toArray (n + 1)) (pre ++ (l, listOf (strValues ((a, t) :: ql')).toArray n) :: post) (pre ++ (l, listOf (strValues ql').toArray (n + 1)) :: post) := by
    intro pre
    induction pre with
    | nil => intro _; exact .head h2
    | cons p r ih => intro hp; exact .tail (hp p (.head _)) (ih fun q hq => hp q (.tail _ hq))
  exact go pre h1

theorem delL_last (a : Value) : ∀ r : List Value, ki_delL (r ++ [a]) r.length = some r
  | [] => rfl
  | b :: r => by simp [ki_delL, delL_last a r]

theorem del_last {l : Addr} {a : PySem.Str} {r : List PySem.Str} {ql : List (PySem.Str × Tok)} {n : Nat} {tk : Tok} {g : Obj → List (Addr × Obj)} {Q : Unit → Shared → Prop} (F : Fr h₀ L s.heap m) (N : News h₀ L s.heap news) (U : UpdF l (listOf (strValues ql).toArray n) news g) (hq : ql.map (·.1) = r ++ [a]) (hz : r.length ≤ 100000)
    (h : ∀ h' (ql' : List (PySem.Str × Tok)), ql'.map (·.1) = r → Fr h₀ L h' m → News h₀ L h' (g (listOf (strValues ql').toArray (n + 1))) → Q () { s with heap := h' }) : wpAny (model prog w) A (delItem (.ref l) (.int (-1) tk)) Q E s := by
  obtain ⟨t, ql', rfl, hq'⟩ := strValues_snoc hq
  obtain ⟨pre, post, e1, e2, h1, h2⟩ := U.split
  have hz' : ql'.length ≤ 100000 := by rw [← hq'] at hz; simpa using hz
  have hsv : strValues (ql' ++ [(a, t)]) = strValues ql' ++ [Value.str a t] := by simp [strValues]
  refine ki_del (its := (strValues (ql' ++ [(a, t)])).toArray) (n := n) F N (by decide) (k := (strValues ql').length) ?_ (q := strValues ql') ?_ ?_ (by simp [strValues, sizeLine_eq]; omega) fun h' F' N' => h h' ql' hq' F' N'
  · rw [PySem.seqIndex_neg (by decide) (by simp [strValues]; omega)]
    simp [strValues]; omega
  · rw [hsv]
    have : (strValues ql' ++ [Value.str a t]).toArray.toList = strValues ql' ++ [Value.str a t] := rfl
    rw [this]; exact delL_last _ _
  rw [e1, e2]
  have go : ∀ (pre : List (Addr × Obj)), (∀ p ∈ pre, p.1 ≠ l) → Upd l (listOf (strValues (ql' ++ [(a, t)])).toArray n) (listOf (strValues ql').toArray (n + 1)) (pre ++ (l, listOf (strValues (ql' ++ [(a, t)])).toArray n) :: post) (pre ++ (l, listOf (strValues ql').toArray (n + 1)) :: post) := by
    intro pre
    induction pre with
    | nil => intro _; exact .head h2
    | cons p r ih => intro hp; exact .tail (hp p (.head _)) (ih fun q hq => hp q (.tail _ hq))
  exact go pre h1
theorem del_last2 {l : Addr} {b a : PySem.Str} {r : List PySem.Str} {ql : List (PySem.Str × Tok)} {n : Nat} {tk : Tok} {g : Obj → List (Addr × Obj)} {Q : Unit → Shared → Prop} (F : Fr h₀ L s.heap m) (N : News h₀ L s.heap news) (U : UpdF l (listOf (strValues ql).toArray n) news g) (hq : ql.map (·.1) = b :: (r ++ [a])) (hz : r.length ≤ 10000)
    (h : ∀ h' (ql' : List (PySem.Str × Tok)), ql'.map (·.1) = b :: r → Fr h₀ L h' m → News h₀ L h' (g (listOf (strValues ql').toArray (n + 1))) → Q () { s with heap := h' }) : wpAny (model prog w) A (delItem (.ref l) (.int (-1) tk)) Q E s := del_last (r := b :: r) F N U hq (by simp; omega) h
end
end Mine
end

-- part E2
section
open PySem PySem.W PyProof.Rows
namespace Mine
noncomputable def ellLoop (y : PySem.Str) (hi : Int) : List PySem.Str → Int → Bool
  | [], _ => true
  | p :: r, pos => if find4 y p pos hi < 0 then false else ellLoop y hi r (find4 y p pos hi + (p.length : Int))
noncomputable def ellRest (p0 : PySem.Str) (mid : List PySem.Str) (pn y : PySem.Str) : Bool :=
  if (p0.length : Int) ≠ 0 ∧ Txt.startswith y p0 = false then false else
  if (pn.length : Int) ≠ 0 ∧ Txt.endswith y pn = false then false else
  if (p0.length : Int) > (y.length : Int) - (pn.length : Int) then false else
  ellLoop y ((y.length : Int) - (pn.length : Int)) ((if (p0.length : Int) = 0 then [p0] else []) ++ mid ++ (if (pn.length : Int) = 0 then [pn] else [])) p0.length
section
variable {p0 pn y : PySem.Str} {mid : List PySem.Str}
theorem ell_no1 (h1 : (p0.length : Int) ≠ 0) (h2 : Txt.startswith y p0 = false) : ellRest p0 mid pn y = false := by
  unfold ellRest; rw [if_pos ⟨h1, h2⟩]
theorem ell_no2 (c1 : (p0.length : Int) = 0 ∨ Txt.startswith y p0 = true) (h1 : (pn.length : Int) ≠ 0) (h2 : Txt.endswith y pn = false) : ellRest p0 mid pn y = false := by
  unfold ellRest
  rw [if_neg (by rintro ⟨a, b⟩; rcases c1 with c | c; exact a c; rw [c] at b; cases b), if_pos ⟨h1, h2⟩]
theorem ell_no3 (c1 : (p0.length : Int) = 0 ∨ Txt.startswith y p0 = true) (c2 : (pn.length : Int) = 0 ∨ Txt.endswith y pn = true) (h : (p0.length : Int) > (y.length : Int) - (pn.length : Int)) : ellRest p0 mid pn y = false := by
  unfold ellRest
  rw [if_neg (by rintro ⟨a, b⟩; rcases c1 with c | c; exact a c; rw [c] at b; cases b), if_neg (by rintro ⟨a, b⟩; rcases c2 with c | c; exact a c; rw [c] at b; cases b), if_pos h]
theorem ell_yes (c1 : (p0.length : Int) = 0 ∨ Txt.startswith y p0 = true) (c2 : (pn.length : Int) = 0 ∨ Txt.endswith y pn = true) (h : ¬ (p0.length : Int) > (y.length : Int) - (pn.length : Int))
    {ql : List PySem.Str} (hq : (if (p0.length : Int) = 0 then [p0] else []) ++ mid ++ (if (pn.length : Int) = 0 then [pn] else []) = ql) {hi st : Int} (e1 : hi = (y.length : Int) - (pn.length : Int)) (e2 : st = (p0.length : Int)) :
    ellRest p0 mid pn y = ellLoop y hi ql st := by
  subst hq e1 e2
  unfold ellRest
  rw [if_neg (by rintro ⟨a, b⟩; rcases c1 with c | c; exact a c; rw [c] at b; cases b), if_neg (by rintro ⟨a, b⟩; rcases c2 with c | c; exact a c; rw [c] at b; cases b), if_neg h]
end
theorem ellLoop_step {y : PySem.Str} {hi a b : Int} {l r : List PySem.Str} {q : PySem.Str} {i : Nat} (h : l.drop i = q :: r) (e : ellLoop y hi (l.drop i) a = ellLoop y hi l b) (hf : ¬ find4 y q a hi < 0) :
    ellLoop y hi (l.drop (i + 1)) (find4 y q a hi + (q.length : Int)) = ellLoop y hi l b := by
  have h2 : l.drop (i + 1) = r := by rw [← List.drop_drop, h]; rfl
  rw [h2, ← e, h]
  exact (if_neg hf).symm
theorem ellLoop_fail {y : PySem.Str} {hi a b : Int} {l r : List PySem.Str} {q : PySem.Str} {i : Nat} (h : l.drop i = q :: r) (e : ellLoop y hi (l.drop i) a = ellLoop y hi l b) (hf : find4 y q a hi < 0) :
    ellLoop y hi l b = false := by
  rw [← e, h]
  exact if_pos hf
theorem drop_at {α : Type} {l : List α} {i : Nat} {q : α} (h : l[i]? = some q) : l.drop i = q :: l.drop (i + 1) := by
  obtain ⟨hi, e⟩ := List.getElem?_eq_some_iff.mp h
  rw [List.drop_eq_getElem_cons hi, e]
theorem pieces_short {p0 pn : PySem.Str} {mid l : List PySem.Str} (hp0 : p0.length ≤ 1000) (hpn : pn.length ≤ 1000) (hms : ∀ q ∈ mid, q.length ≤ 1000)
    (h : (if (p0.length : Int) = 0 then [p0] else []) ++ mid ++ (if (pn.length : Int) = 0 then [pn] else []) = l) : ∀ q ∈ l, q.length ≤ 1000 := by
  intro q hq
  rw [← h] at hq
  simp only [List.mem_append] at hq
  rcases hq with (hq | hq) | hq
  · split at hq
    · rw [List.mem_singleton.mp hq]; exact hp0
    · cases hq
  · exact hms q hq
  · split at hq
    · rw [List.mem_singleton.mp hq]; exact hpn
    · cases hq
theorem strs_at {l : List (PySem.Str × Tok)} {i : Nat} {v : Value} (h : (strValues l)[i]? = some v) : ∃ q t, v = .str q t ∧ (l.map (·.1))[i]? = some q := by
  simp only [strValues, List.getElem?_map, Option.map_eq_some_iff] at h
  obtain ⟨p, hp, rfl⟩ := h
  exact ⟨p.1, p.2, rfl, by simp [hp]⟩
end Mine
end

-- part G1
section
open PySem PySem.W PyProof.Rows PySem.StrLaws PySem.Builtin PySem.Builtin.Str
set_option maxRecDepth 100000
namespace Mine
/-- three dots stand at the head -/
noncomputable def dotHd : List Nat → Bool
  | 46 :: 46 :: 46 :: _ => true
  | _ => false
theorem dotHd_iff {l : List Nat} : dotHd l = true ↔ ∃ r, l = 46 :: 46 :: 46 :: r := by
  constructor
  · intro h
    unfold dotHd at h
    split at h
    · exact ⟨_, rfl⟩
    · cases h
  · rintro ⟨r, rfl⟩; rfl
/-- the pattern of a text: none for each three dots, taken from the left -/
noncomputable def pat3 : List Nat → List (Option Nat)
  | [] => []
  | c :: r => if dotHd (c :: r) = true then none :: pat3 (r.drop 2) else some c :: pat3 r
termination_by l => l.length
decreasing_by all_goals (simp only [List.length_drop, List.length_cons]; omega)
theorem pat3_nil : pat3 [] = [] := by rw [pat3]
theorem pat3_dots (r : List Nat) : pat3 (46 :: 46 :: 46 :: r) = none :: pat3 r := by
  rw [pat3]; rfl
theorem pat3_char {c : Nat} {r : List Nat} (h : dotHd (c :: r) = false) : pat3 (c :: r) = some c :: pat3 r := by
  rw [pat3, h]; rfl
noncomputable abbrev lits (l : List Nat) : List (Option Nat) := l.map some
/-- the pattern of pieces -/
noncomputable def patOf : List (List Nat) → List (Option Nat)
  | [] => []
  | [p] => lits p
  | p :: q :: r => lits p ++ none :: patOf (q :: r)

noncomputable abbrev dots : PySem.Str := PySem.Str.ofString "..."
theorem dots_list : dots.cps.toList = [46, 46, 46] := by decide +kernel
theorem dots_len : dots.length = 3 := by decide +kernel
theorem take3 {l : List Nat} : (l.take 3 == [46, 46, 46]) = true ↔ dotHd l = true := by
  rw [dotHd_iff, beq_iff_eq]
  constructor
  · intro h
    match l, h with
    | a :: b :: c :: r, h =>
      simp at h
      exact ⟨r, by rw [h.1, h.2.1, h.2.2]⟩
    | [], h => cases h
    | [a], h => cases h
    | [a, b], h => cases h
  · rintro ⟨r, rfl⟩; rfl
theorem at_dots {x : PySem.Str} {k : Nat} : At x dots x.length k ↔ dotHd (x.cps.toList.drop k) = true := by
  unfold At
  rw [subAt_eq, dots_list, dots_len, take3]
  constructor
  · exact fun h => h.2
  · intro h
    refine ⟨?_, h⟩
    obtain ⟨r, e⟩ := dotHd_iff.mp h
    have := congrArg List.length e
    rw [List.length_drop, str_len] at this
    simp at this
    omega
theorem pat3_gap (l : List Nat) : ∀ (n a c : Nat), c - a = n → a ≤ c → c ≤ l.length → (∀ k, a ≤ k → k < c → dotHd (l.drop k) = false) → pat3 (l.drop a) = lits ((l.drop a).take (c - a)) ++ pat3 (l.drop c)
  | 0, a, c, hn, h1, h2, h => by
    have : a = c := by omega
    subst this
    simp
  | n + 1, a, c, hn, h1, h2, h => by
    have ha : a < l.length := by omega
    have ih := pat3_gap l n (a + 1) c (by omega) (by omega) h2 (fun k h3 h4 => h k (by omega) h4)
    have hd := h a (Nat.le_refl _) (by omega)
    rw [List.drop_eq_getElem_cons ha] at hd ⊢
    rw [pat3_char hd, ih]
    have : c - a = (c - (a + 1)) + 1 := by omega
    rw [this, List.take_succ_cons]
    rfl
theorem not_dot {l : List Nat} (h : ¬ dotHd l = true) : dotHd l = false := by
  cases e : dotHd l with
  | true => exact absurd e h
  | false => rfl
theorem pieces_pat (x : PySem.Str) : ∀ (cuts : List Nat) (a f : Nat), a ≤ x.length → ChainG x dots x.length a cuts f → (∀ k, f ≤ k → ¬ At x dots x.length k) →
    patOf ((partsFrom x 3 a cuts).map (·.cps.toList)) = pat3 (x.cps.toList.drop a)
  | [], a, f, ha, hc, hf => by
    have hc : f = a := hc
    subst hc
    have hlen := str_len x
    have := pat3_gap x.cps.toList (x.cps.toList.length - f) f x.cps.toList.length rfl (by omega) (Nat.le_refl _) (fun k h1 h2 => not_dot fun q => hf k h1 (at_dots.mpr q))
    rw [this, List.drop_length, pat3_nil, List.append_nil]
    show lits (strSub x f x.length).cps.toList = _
    rw [strSub_toList, hlen]
  | c :: r, a, f, ha, hc, hf => by
    obtain ⟨h1, h2, h3, h4⟩ := hc
    have hlen := str_len x
    have hle : c + 3 ≤ x.length := by have := h2.1; rw [dots_len] at this; exact this
    rw [dots_len] at h4
    have ih := pieces_pat x r (c + 3) f hle h4 hf
    have hg := pat3_gap x.cps.toList (c - a) a c rfl h1 (by omega) (fun k k1 k2 => not_dot fun q => h3 k k1 k2 (at_dots.mpr q))
    have hd := at_dots.mp h2
    obtain ⟨t, ht⟩ := dotHd_iff.mp hd
    have ht3 : x.cps.toList.drop (c + 3) = t := by rw [← List.drop_drop, ht]; rfl
    rw [ht3] at ih
    rw [hg, ht, pat3_dots, ← ih]
    show patOf ((strSub x a c).cps.toList :: (partsFrom x 3 (c + 3) r).map (·.cps.toList)) = _
    obtain ⟨p, q, e⟩ := partsFrom_ne x 3 (c + 3) r
    rw [e, strSub_toList]
    rfl
/-- what split of the three dots gives -/
theorem split_pat {x : PySem.Str} (h : (occurrences x dots 0 x.length 1).isEmpty = false) : patOf ((Txt.split x dots).map (·.cps.toList)) = pat3 x.cps.toList := by
  obtain ⟨f, hc, hf⟩ := occ_tight x dots (by rw [dots_len]; decide)
  obtain ⟨i, h1, h2⟩ := (found_iff x dots).mp (by rw [h]; rfl)
  have hat : At x dots x.length i := ⟨h1, h2⟩
  rw [dots_len] at h1
  have e : Txt.split x dots = partsBetween x (occurrences x dots 0 x.length (x.length + 1)) dots.length := by
    unfold Txt.split
    have c1 : (decide (x.length < dots.length) || decide (strKind x < strKind dots)) = false := by
      rw [dots_len]
      have : Builtin.Str.strKind dots = 1 := by decide +kernel
      rw [this]
      have : 1 ≤ Builtin.Str.strKind x := by unfold Builtin.Str.strKind; split; exact Nat.le_refl _; split <;> decide
      simp
      omega
    rw [c1]
    have c2 : (occurrences x dots 0 x.length (x.length + 1)).isEmpty = false := by
      cases hq : occurrences x dots 0 x.length (x.length + 1) with
      | nil => rw [hq] at hc; exact absurd hat (hf i (by have : f = 0 := hc; omega))
      | cons _ _ => rfl
    rw [c2]; rfl
  rw [e, partsBetween_eq, dots_len]
  exact pieces_pat x _ 0 f (Nat.zero_le _) hc hf
/-- no three dots: all signs stand for themselves -/
theorem none_pat {x : PySem.Str} (h : (occurrences x dots 0 x.length 1).isEmpty = true) : pat3 x.cps.toList = lits x.cps.toList := by
  have hn : ∀ k, dotHd (x.cps.toList.drop k) = false := fun k => not_dot fun q => by
    have := (found_iff x dots).mpr ⟨k, at_dots.mpr q⟩
    rw [h] at this; cases this
  have := pat3_gap x.cps.toList x.cps.toList.length 0 x.cps.toList.length rfl (Nat.zero_le _) (Nat.le_refl _) fun k _ _ => hn k
  rw [Nat.sub_zero, List.drop_length, pat3_nil, List.append_nil, List.drop_zero, List.take_length] at this
  exact this
theorem some_split {x : PySem.Str} (h : (occurrences x dots 0 x.length 1).isEmpty = false) : ∃ p0 mid pn, Txt.split x dots = p0 :: (mid ++ [pn]) := by
  have hp := split_pat h
  cases e : Txt.split x dots with
  | nil => 
    have := join_split x dots
    rw [e] at this
    have h3 : (occurrences x dots 0 x.length 1).isEmpty = true := by rw [← this]; decide +kernel
    rw [h3] at h
    cases h
  | cons p0 r =>
    cases hr : r.reverse with
    | nil =>
      have hr' : r = [] := by simpa using hr
      subst hr'
      have := join_split x dots
      rw [e] at this hp
      have this : p0 = x := this
      subst this
      exfalso
      obtain ⟨i, h1, h2⟩ := (found_iff p0 dots).mp (by rw [h]; rfl)
      have hd := at_dots.mp ⟨h1, h2⟩
      have key : ∀ (l : List Nat), pat3 l = lits l → ∀ k, dotHd (l.drop k) = false := by
        intro l
        induction l with
        | nil => intro _ k; simp [dotHd]
        | cons c r ih =>
          intro hl k
          cases hq : dotHd (c :: r) with
          | true =>
            obtain ⟨t, ht⟩ := dotHd_iff.mp hq
            rw [ht, pat3_dots] at hl
            cases hl
          | false =>
            rw [pat3_char hq] at hl
            cases k with
            | zero => exact hq
            | succ k => exact ih (List.cons.inj hl).2 k
      rw [key _ hp.symm i] at hd
      cases hd
    | cons pn m =>
      have : r = m.reverse ++ [pn] := by
        have := congrArg List.reverse hr
        simpa using this
      exact ⟨p0, m.reverse, pn, by rw [this]⟩
end Mine
end

-- part G2
section
open PySem PySem.W PyProof.Rows PySem.StrLaws
set_option maxRecDepth 100000
namespace Mine
/-- a pattern fits a text -/
noncomputable def glob : List (Option Nat) → List Nat → Prop
  | [], y => y = []
  | some c :: X, y => ∃ y', y = c :: y' ∧ glob X y'
  | none :: X, y => ∃ z y', y = z ++ y' ∧ glob X y'
theorem glob_lits : ∀ (p : List Nat) (X : List (Option Nat)) (y : List Nat), glob (lits p ++ X) y ↔ ∃ y', y = p ++ y' ∧ glob X y'
  | [], X, y => ⟨fun h => ⟨y, rfl, h⟩, fun ⟨_, e, h⟩ => e ▸ h⟩
  | c :: p, X, y => by
    constructor
    · rintro ⟨y', rfl, h⟩
      obtain ⟨y2, rfl, h2⟩ := (glob_lits p X y').mp h
      exact ⟨y2, rfl, h2⟩
    · rintro ⟨y', rfl, h⟩
      exact ⟨p ++ y', rfl, (glob_lits p X _).mpr ⟨y', rfl, h⟩⟩
theorem glob_lit (p y : List Nat) : glob (lits p) y ↔ y = p := by
  have := glob_lits p [] y
  rw [List.append_nil] at this
  rw [this]
  constructor
  · rintro ⟨y', rfl, h⟩
    have h : y' = [] := h
    rw [h, List.append_nil]
  · rintro rfl; exact ⟨[], by simp, rfl⟩

/-- the pieces stand in the text one behind the other -/
noncomputable def exL : List (List Nat) → List Nat → Prop
  | [], _ => True
  | p :: r, s => ∃ z s', s = z ++ p ++ s' ∧ exL r s'
theorem exL_more : ∀ (ps : List (List Nat)) (u s : List Nat), exL ps s → exL ps (u ++ s)
  | [], _, _, _ => trivial
  | p :: r, u, s, ⟨z, s', e, h⟩ => ⟨u ++ z, s', by rw [e]; simp, h⟩
/-- the first place is as good as any -/
theorem exL_first {p : List Nat} {r : List (List Nat)} {s z0 s0 : List Nat} (e0 : s = z0 ++ p ++ s0) (hmin : ∀ z s', s = z ++ p ++ s' → z0.length ≤ z.length) : exL (p :: r) s ↔ exL r s0 := by
  constructor
  · rintro ⟨z, s', e, h⟩
    have hl := hmin z s' e
    have e2 : z0 ++ p ++ s0 = z ++ p ++ s' := e0.symm.trans e
    have hs : s0 = (z ++ p ++ s').drop (z0.length + p.length) := by
      rw [← e2, ← List.length_append, List.drop_left]
    have : ∃ u, s0 = u ++ s' := by
      refine ⟨(z ++ p).drop (z0.length + p.length), ?_⟩
      rw [hs, List.drop_append]
      have hz : z0.length + p.length - (z ++ p).length = 0 := by rw [List.length_append]; omega
      rw [hz, List.drop_zero]
    obtain ⟨u, rfl⟩ := this
    exact exL_more r u s' h
  · intro h
    exact ⟨z0, s0, e0, h⟩
theorem exL_none {p : List Nat} {r : List (List Nat)} {s : List Nat} (hn : ∀ z s', s ≠ z ++ p ++ s') : ¬ exL (p :: r) s := fun ⟨z, s', e, _⟩ => hn z s' e
theorem exL_nil_last : ∀ (ps : List (List Nat)) (s : List Nat), exL (ps ++ [[]]) s ↔ exL ps s
  | [], s => ⟨fun _ => trivial, fun _ => ⟨[], s, by simp, trivial⟩⟩
  | p :: r, s => by
    constructor
    · rintro ⟨z, s', e, h⟩; exact ⟨z, s', e, (exL_nil_last r s').mp h⟩
    · rintro ⟨z, s', e, h⟩; exact ⟨z, s', e, (exL_nil_last r s').mpr h⟩
theorem exL_nil_head (ps : List (List Nat)) (s : List Nat) : exL ([] :: ps) s ↔ exL ps s := by
  constructor
  · rintro ⟨z, s', e, h⟩
    rw [e, List.append_nil]
    exact exL_more ps z s' h
  · intro h; exact ⟨[], s, by simp, h⟩

/-- behind a star: the pieces in their order, then the last one at the end -/
theorem glob_mid (pn : List Nat) : ∀ (mid : List (List Nat)) (s : List Nat), glob (none :: patOf (mid ++ [pn])) s ↔ ∃ m, s = m ++ pn ∧ exL mid m
  | [], s => by
    constructor
    · rintro ⟨z, y', rfl, h⟩
      have h := (glob_lit pn y').mp h
      exact ⟨z, by rw [h], trivial⟩
    · rintro ⟨m, rfl, _⟩
      exact ⟨m, pn, rfl, (glob_lit pn pn).mpr rfl⟩
  | q :: r, s => by
    have ep : patOf (q :: (r ++ [pn])) = lits q ++ none :: patOf (r ++ [pn]) := by
      cases r with
      | nil => rfl
      | cons _ _ => rfl
    constructor
    · rintro ⟨z, y', rfl, h⟩
      rw [List.cons_append, ep] at h
      obtain ⟨y2, rfl, h2⟩ := (glob_lits q _ _).mp h
      obtain ⟨m, rfl, hm⟩ := (glob_mid pn r y2).mp h2
      exact ⟨z ++ q ++ m, by simp, z, m, rfl, hm⟩
    · rintro ⟨m, rfl, z, m', rfl, hm⟩
      refine ⟨z, q ++ (m' ++ pn), by simp, ?_⟩
      rw [List.cons_append, ep]
      exact (glob_lits q _ _).mpr ⟨_, rfl, (glob_mid pn r _).mpr ⟨m', rfl, hm⟩⟩
theorem glob_pieces (p0 pn : List Nat) (mid : List (List Nat)) (y : List Nat) : glob (patOf (p0 :: (mid ++ [pn]))) y ↔ ∃ m, y = p0 ++ m ++ pn ∧ exL mid m := by
  have ep : patOf (p0 :: (mid ++ [pn])) = lits p0 ++ none :: patOf (mid ++ [pn]) := by
    cases mid with
    | nil => rfl
    | cons _ _ => rfl
  rw [ep, glob_lits]
  constructor
  · rintro ⟨y', rfl, h⟩
    obtain ⟨m, rfl, hm⟩ := (glob_mid pn mid y').mp h
    exact ⟨m, by simp, hm⟩
  · rintro ⟨m, rfl, hm⟩
    exact ⟨m ++ pn, by simp, (glob_mid pn mid _).mpr ⟨m, rfl, hm⟩⟩

/-- words joined by blanks -/
noncomputable def inter : List (List Nat) → List Nat
  | [] => []
  | [b] => b
  | b :: c :: r => b ++ 32 :: inter (c :: r)
noncomputable abbrev dotsL : List Nat := [46, 46, 46]
/-- the statement's table, as a relation -/
inductive Mt : List (List Nat) → List (List Nat) → Prop
  | nil : Mt [] []
  | lit {b W G} (h : b ≠ dotsL) (t : Mt W G) : Mt (b :: W) (b :: G)
  | dots {W C G} (h : C ≠ []) (t : Mt W G) : Mt (dotsL :: W) (C ++ G)
noncomputable def Tok1 (b : List Nat) : Prop := b ≠ [] ∧ 32 ∉ b
noncomputable def Lit1 (b : List Nat) : Prop := b = dotsL ∨ ∀ k, dotHd (b.drop k) = false
theorem inter_cons {b : List Nat} {r : List (List Nat)} (h : r ≠ []) : inter (b :: r) = b ++ 32 :: inter r := by
  cases r with
  | nil => exact absurd rfl h
  | cons _ _ => rfl
theorem inter_nil {G : List (List Nat)} (hG : ∀ g ∈ G, Tok1 g) : inter G = [] ↔ G = [] := by
  constructor
  · intro h
    cases G with
    | nil => rfl
    | cons g r =>
      have := (hG g (.head _)).1
      cases r with
      | nil => exact absurd h this
      | cons a b => rw [inter_cons (by simp)] at h; simp at h
  · rintro rfl; rfl
theorem blank_cut {b c s t : List Nat} (hb : 32 ∉ b) (hc : 32 ∉ c) (h : b ++ 32 :: s = c ++ 32 :: t) : b = c ∧ s = t := by
  induction b generalizing c with
  | nil =>
    cases c with
    | nil => simpa using h
    | cons x c => simp at h; exact absurd (h.1 ▸ List.mem_cons_self) hc
  | cons x b ih =>
    cases c with
    | nil => simp at h; exact absurd (h.1 ▸ List.mem_cons_self) hb
    | cons y c =>
      simp only [List.cons_append, List.cons.injEq] at h
      obtain ⟨e1, e2⟩ := ih (fun q => hb (.tail _ q)) (fun q => hc (.tail _ q)) h.2
      exact ⟨by rw [h.1, e1], e2⟩
theorem blank_no {b c s : List Nat} (hc : 32 ∉ c) : b ++ 32 :: s ≠ c := fun h => hc (by rw [← h]; simp)
/-- a blank in joined words cuts them -/
theorem inter_cut : ∀ {G : List (List Nat)} {z y : List Nat}, (∀ g ∈ G, Tok1 g) → inter G = z ++ 32 :: y → ∃ C D, G = C ++ D ∧ C ≠ [] ∧ D ≠ [] ∧ z = inter C ∧ y = inter D
  | [], z, y, _, h => by simp [inter] at h
  | [g], z, y, hG, h => absurd (show z ++ 32 :: y = g from h.symm) (blank_no (hG g (.head _)).2)
  | g :: g2 :: r, z, y, hG, h => by
    rw [inter_cons (by simp)] at h
    have hg := (hG g (.head _)).2
    by_cases hz : 32 ∈ z
    · have : ∃ z', z = g ++ 32 :: z' := by
        rcases List.append_eq_append_iff.mp h with ⟨a, e1, e2⟩ | ⟨a, e1, e2⟩
        · cases a with
          | nil => simp at e1; rw [e1] at hz; exact absurd hz hg
          | cons x a => simp at e2; exact ⟨a, by rw [e1, ← e2.1]⟩
        · rw [e1] at hg; exact absurd (List.mem_append_left _ hz) hg
      obtain ⟨z', rfl⟩ := this
      have h' : inter (g2 :: r) = z' ++ 32 :: y := by simpa using h
      obtain ⟨C, D, e, hC, hD, ez, ey⟩ := inter_cut (fun q hq => hG q (.tail _ hq)) h'
      exact ⟨g :: C, D, by rw [e]; rfl, by simp, hD, by rw [inter_cons hC, ez], ey⟩
    · obtain ⟨e1, e2⟩ := blank_cut hg hz h
      exact ⟨[g], g2 :: r, rfl, by simp, by simp, e1.symm, e2.symm⟩
theorem inter_append {C D : List (List Nat)} (hC : C ≠ []) (hD : D ≠ []) : inter (C ++ D) = inter C ++ 32 :: inter D := by
  induction C with
  | nil => exact absurd rfl hC
  | cons c C ih =>
    cases C with
    | nil => rw [List.singleton_append, inter_cons hD]; rfl
    | cons a b =>
      have e1 : inter (c :: (a :: b)) = c ++ 32 :: inter (a :: b) := inter_cons (List.cons_ne_nil _ _)
      have e2 : inter (c :: (a :: b ++ D)) = c ++ 32 :: inter (a :: b ++ D) := inter_cons (List.cons_ne_nil _ _)
      rw [List.cons_append, e1, e2, ih (List.cons_ne_nil _ _)]
      simp
theorem Mt.ne {W G : List (List Nat)} (t : Mt W G) (hW : W ≠ []) : G ≠ [] := by
  cases t with
  | nil => exact absurd rfl hW
  | lit _ _ => exact List.cons_ne_nil _ _
  | dots hC _ => exact fun e => hC (List.append_eq_nil_iff.mp e).1
theorem dotHd_app {b rest : List Nat} (hr : rest = [] ∨ ∃ r, rest = 32 :: r) (h : ∀ k, dotHd (b.drop k) = false) (hb : b ≠ []) : dotHd (b ++ rest) = false := by
  refine not_dot fun q => ?_
  obtain ⟨t, ht⟩ := dotHd_iff.mp q
  have h0 := h 0
  rw [List.drop_zero] at h0
  match b, hb, ht, h0 with
  | [a], _, ht, _ =>
    rcases hr with rfl | ⟨r, rfl⟩
    · simp at ht
    · simp at ht
  | [a, c], _, ht, _ =>
    rcases hr with rfl | ⟨r, rfl⟩
    · simp at ht
    · simp at ht
  | a :: c :: d :: b, _, ht, h0 =>
    simp only [List.cons_append, List.cons.injEq] at ht
    rw [ht.1, ht.2.1, ht.2.2.1] at h0
    cases h0
theorem pat3_lit {rest : List Nat} (hr : rest = [] ∨ ∃ r, rest = 32 :: r) : ∀ (b : List Nat), (∀ k, dotHd (b.drop k) = false) → pat3 (b ++ rest) = lits b ++ pat3 rest
  | [], _ => rfl
  | c :: b, h => by
    have h1 := dotHd_app hr h (by simp)
    rw [List.cons_append] at h1 ⊢
    rw [pat3_char h1, pat3_lit hr b fun k => h (k + 1)]
    rfl
theorem pat3_blank (r : List Nat) : pat3 (32 :: r) = some 32 :: pat3 r := pat3_char rfl

/-- the statement's words, on the level of signs -/
theorem glob_words : ∀ (W G : List (List Nat)), W ≠ [] → (∀ b ∈ W, Tok1 b ∧ Lit1 b) → (∀ g ∈ G, Tok1 g) → (glob (pat3 (inter W)) (inter G) ↔ (Mt W G ∨ W = [dotsL]))
  | [], _, h, _, _ => absurd rfl h
  | [b], G, _, hW, hG => by
    obtain ⟨⟨hb0, hb1⟩, hb2⟩ := hW b (.head _)
    rcases hb2 with rfl | hb2
    · constructor
      · intro _; exact .inr rfl
      · intro _
        show glob (pat3 [46, 46, 46]) _
        rw [pat3_dots, pat3_nil]
        exact ⟨inter G, [], by simp, rfl⟩
    · have hbd : b ≠ dotsL := fun e => by have := hb2 0; rw [e] at this; cases this
      have e := pat3_lit (rest := []) (.inl rfl) b hb2
      rw [List.append_nil, pat3_nil, List.append_nil] at e
      show glob (pat3 b) _ ↔ _
      rw [e, glob_lit]
      constructor
      · intro h
        refine .inl ?_
        match G, hG, h with
        | [], _, h => exact absurd h.symm hb0
        | [g], _, h =>
          have h : g = b := h
          subst h
          exact .lit hbd .nil
        | g :: g2 :: r, _, h =>
          rw [inter_cons (by simp)] at h
          exact absurd h (blank_no hb1)
      · rintro (h | h)
        · cases h with
          | lit _ t => cases t; rfl
          | dots _ _ => exact absurd rfl hbd
        · exact absurd (List.cons.inj h).1 hbd
  | b :: b2 :: W, G, _, hW, hG => by
    obtain ⟨⟨hb0, hb1⟩, hb2⟩ := hW b (.head _)
    have hne : b2 :: W ≠ [] := by simp
    have hW' : ∀ a ∈ b2 :: W, Tok1 a ∧ Lit1 a := fun a ha => hW a (.tail _ ha)
    rw [inter_cons hne]
    have hx : b :: b2 :: W = [dotsL] ↔ False := by simp
    rw [hx, or_false]
    rcases hb2 with rfl | hb2
    · show glob (pat3 (46 :: 46 :: 46 :: 32 :: inter (b2 :: W))) _ ↔ _
      rw [pat3_dots, pat3_blank]
      constructor
      · rintro ⟨z, y', e, y2, rfl, h⟩
        obtain ⟨C, D, rfl, hC, hD, rfl, rfl⟩ := inter_cut hG e
        have hGD : ∀ g ∈ D, Tok1 g := fun g hg => hG g (List.mem_append_right _ hg)
        refine .dots hC ?_
        rcases (glob_words (b2 :: W) D hne hW' hGD).mp h with h | h
        · exact h
        · rw [h, ← List.append_nil D]
          exact .dots hD .nil
      · intro h
        generalize hU : b2 :: W = U at *
        cases h with
        | lit h _ => exact absurd rfl h
        | dots hC t =>
          rename_i C G'
          have hG' : G' ≠ [] := t.ne hne
          refine ⟨inter C, 32 :: inter G', inter_append hC hG', _, rfl, ?_⟩
          exact (glob_words U G' hne hW' fun g hg => hG g (List.mem_append_right _ hg)).mpr (.inl t)
    · have hbd : b ≠ dotsL := fun e => by have := hb2 0; rw [e] at this; cases this
      rw [pat3_lit (.inr ⟨_, rfl⟩) b hb2, pat3_blank, glob_lits]
      constructor
      · rintro ⟨y', e, y2, rfl, h⟩
        match G, hG, e with
        | [], _, e => simp [inter] at e
        | [g], hG, e => exact absurd (show b ++ 32 :: y2 = g from e.symm) (blank_no (hG g (.head _)).2)
        | g :: g2 :: r, hG, e =>
          rw [inter_cons (by simp)] at e
          obtain ⟨rfl, rfl⟩ := blank_cut (hG g (.head _)).2 hb1 e
          have hGD : ∀ a ∈ g2 :: r, Tok1 a := fun a ha => hG a (.tail _ ha)
          refine .lit hbd ?_
          rcases (glob_words (b2 :: W) (g2 :: r) hne hW' hGD).mp h with h | h
          · exact h
          · rw [h, ← List.append_nil (g2 :: r)]
            exact .dots (by simp) .nil
      · intro h
        generalize hU : b2 :: W = U at *
        cases h with
        | dots _ _ => exact absurd rfl hbd
        | @lit _ _ G' _ t =>
          have hG' : G' ≠ [] := t.ne hne
          refine ⟨_, inter_cons hG', _, rfl, ?_⟩
          exact (glob_words U G' hne hW' fun g hg => hG g (.tail _ hg)).mpr (.inl t)
end Mine
end

-- part G3
section
open PySem PySem.W PyProof.Rows PySem.StrLaws PySem.Builtin PySem.Builtin.Str
set_option maxRecDepth 100000
namespace Mine
theorem occ_head_hi (x y : PySem.Str) (lo hi limit : Nat) (hl : 1 ≤ limit) :
    (occurrences x y lo hi limit = [] ∧ ∀ i, lo ≤ i → ¬ At x y hi i) ∨
    ∃ i r, occurrences x y lo hi limit = i :: r ∧ lo ≤ i ∧ At x y hi i ∧ ∀ k, lo ≤ k → k < i → ¬ At x y hi k := by
  rw [occ_eq]
  rcases occ_first x y hi limit hl (List.range' lo (hi + 1 - lo)) lo (fun i hi => by have := List.mem_range'_1.mp hi; omega) with ⟨h0, hn⟩ | ⟨pre, a, post, e, h0, ha, hn⟩
  · refine .inl ⟨by rw [h0], fun i hlo hi => ?_⟩
    exact hn i (by have := hi.1; rw [List.mem_range'_1]; omega) hi
  · have hs := range'_split_from e
    refine .inr ⟨a, ((forIn (List.range' lo (hi + 1 - lo)) ((#[] : Array Nat), lo) (occBody x y hi limit)).run.fst.toList).tail, ?_, hs.1, ha, fun k hk0 hk => hn k (hs.2 k hk0 hk)⟩
    generalize (forIn (List.range' lo (hi + 1 - lo)) ((#[] : Array Nat), lo) (occBody x y hi limit)).run.fst = arr at h0
    have h1 : arr.toList[0]? = some a := by simpa using h0
    cases hL : arr.toList with
    | nil => rw [hL] at h1; cases h1
    | cons b t => rw [hL] at h1; simp at h1; rw [h1]; rfl
/-- the window of a text -/
noncomputable def win (l : List Nat) (a b : Nat) : List Nat := (l.take b).drop a
theorem at_win {x y : PySem.Str} {hi i : Nat} (hh : hi ≤ x.length) : At x y hi i ↔ i + y.length ≤ hi ∧ (x.cps.toList.drop i).take y.length = y.cps.toList := by
  unfold At
  rw [subAt_eq, beq_iff_eq]
theorem take_in {l : List Nat} {a b n : Nat} (h : a + n ≤ b) : ((l.take b).drop a).take n = (l.drop a).take n := by
  rw [List.drop_take, List.take_take]
  congr 1
  omega
theorem at_some {x y : PySem.Str} {hi pos i : Nat} (hh : hi ≤ x.length) (hp : pos ≤ i) (h : At x y hi i) :
    win x.cps.toList pos hi = (win x.cps.toList pos hi).take (i - pos) ++ y.cps.toList ++ win x.cps.toList (i + y.length) hi := by
  obtain ⟨h1, h2⟩ := (at_win hh).mp h
  have e1 : (win x.cps.toList pos hi).drop (i - pos) = win x.cps.toList i hi := by
    unfold win; rw [List.drop_drop]; congr 1; omega
  have e2 : (win x.cps.toList i hi).take y.length = y.cps.toList := by
    unfold win; rw [take_in h1, h2]
  have e3 : (win x.cps.toList i hi).drop y.length = win x.cps.toList (i + y.length) hi := by
    unfold win; rw [List.drop_drop]
  rw [List.append_assoc, ← e3]
  conv => rhs; rw [← e2]
  rw [List.take_append_drop, ← e1, List.take_append_drop]
theorem at_of {x y : PySem.Str} {hi pos : Nat} {z s' : List Nat} (hh : hi ≤ x.length) (hp : pos ≤ hi) (h : win x.cps.toList pos hi = z ++ y.cps.toList ++ s') : At x y hi (pos + z.length) := by
  have hl := congrArg List.length h
  have hlen := str_len x
  unfold win at hl
  simp only [List.length_drop, List.length_take, List.length_append, str_len] at hl
  have h1 : pos + z.length + y.length ≤ hi := by omega
  refine (at_win hh).mpr ⟨h1, ?_⟩
  rw [← take_in (b := hi) h1, ← List.drop_drop]
  have : (List.drop pos (List.take hi x.cps.toList)) = z ++ y.cps.toList ++ s' := h
  rw [this, List.append_assoc, List.drop_left, ← str_len, List.take_left]
theorem from_nat (n i : Nat) : fromIndex n (i : Int) = i := by
  unfold fromIndex
  rw [if_neg (by omega)]
  omega
theorem ellLoop_ex (y : PySem.Str) (hi : Nat) (hh : hi ≤ y.length) : ∀ (ps : List PySem.Str) (pos : Nat), pos ≤ hi → (ellLoop y hi ps pos = true ↔ exL (ps.map (·.cps.toList)) (win y.cps.toList pos hi))
  | [], pos, hp => by simp [ellLoop, exL]
  | p :: r, pos, hp => by
    have ef : find4 y p pos hi = match occurrences y p pos hi 1 with | k :: _ => (k : Int) | [] => -1 := by
      unfold find4
      rw [from_nat, from_nat, Nat.min_eq_left hh]
      try rfl
    unfold ellLoop
    rcases occ_head_hi y p pos hi 1 (Nat.le_refl _) with ⟨e, hn⟩ | ⟨i, t, e, h1, h2, h3⟩
    · have e' : find4 y p pos hi = -1 := by rw [ef, e]
      rw [e', if_pos (by decide)]
      constructor
      · intro h; cases h
      · intro h
        exact absurd h (exL_none fun z s' ez => hn _ (Nat.le_add_right _ _) (at_of hh hp ez))
    · have e' : find4 y p pos hi = (i : Int) := by rw [ef, e]
      have hle : i + p.length ≤ hi := h2.1
      rw [e', if_neg (by omega)]
      have ec : (i : Int) + (p.length : Int) = ((i + p.length : Nat) : Int) := by omega
      rw [ec, ellLoop_ex y hi hh r (i + p.length) hle]
      refine (exL_first (at_some hh h1 h2) fun z s' ez => ?_).symm
      have ha := at_of hh hp ez
      have hi2 : i ≤ pos + z.length := by
        rcases Nat.lt_or_ge (pos + z.length) i with q | q
        · exact absurd ha (h3 _ (Nat.le_add_right _ _) q)
        · exact q
      rw [List.length_take]
      omega
theorem starts_iff {x y : PySem.Str} : Txt.startswith x y = true ↔ ∃ r, x.cps.toList = y.cps.toList ++ r := by
  unfold Txt.startswith
  rw [Bool.and_eq_true, decide_eq_true_eq, subAt_eq, beq_iff_eq, List.drop_zero]
  constructor
  · rintro ⟨_, h⟩
    exact ⟨x.cps.toList.drop y.length, by rw [← h]; exact (List.take_append_drop _ _).symm ▸ (by simp)⟩
  · rintro ⟨r, h⟩
    have hl := congrArg List.length h
    rw [List.length_append, str_len, str_len] at hl
    exact ⟨by omega, by rw [h, ← str_len, List.take_left]⟩
theorem ends_iff {x y : PySem.Str} : Txt.endswith x y = true ↔ ∃ r, x.cps.toList = r ++ y.cps.toList := by
  unfold Txt.endswith
  rw [Bool.and_eq_true, decide_eq_true_eq, subAt_eq, beq_iff_eq]
  constructor
  · rintro ⟨h0, h⟩
    have e : (x.cps.toList.drop (x.length - y.length)).take y.length = x.cps.toList.drop (x.length - y.length) := List.take_of_length_le (by rw [List.length_drop, str_len]; omega)
    rw [e] at h
    exact ⟨x.cps.toList.take (x.length - y.length), by rw [← h, List.take_append_drop]⟩
  · rintro ⟨r, h⟩
    have hl := congrArg List.length h
    rw [List.length_append, str_len, str_len] at hl
    have : x.length - y.length = r.length := by omega
    exact ⟨by omega, by rw [this, h, List.drop_left, ← str_len, List.take_length]⟩
theorem ellRest_iff (p0 : PySem.Str) (mid : List PySem.Str) (pn y : PySem.Str) : ellRest p0 mid pn y = true ↔ ∃ m, y.cps.toList = p0.cps.toList ++ m ++ pn.cps.toList ∧ exL (mid.map (·.cps.toList)) m := by
  have z0 : ∀ {q : PySem.Str}, (q.length : Int) = 0 → q.cps.toList = [] := fun {q} h => List.length_eq_zero_iff.mp (by rw [str_len]; omega)
  have hstart : ¬ ((p0.length : Int) ≠ 0 ∧ Txt.startswith y p0 = false) ↔ ∃ r, y.cps.toList = p0.cps.toList ++ r := by
    rw [← starts_iff]
    by_cases h : (p0.length : Int) = 0
    · have : Txt.startswith y p0 = true := starts_iff.mpr ⟨y.cps.toList, by rw [z0 h]; rfl⟩
      simp [h, this]
    · constructor
      · intro q
        cases e : Txt.startswith y p0 with
        | true => rfl
        | false => exact absurd ⟨h, e⟩ q
      · rintro q ⟨_, q2⟩
        rw [q] at q2; cases q2
  have hend : ¬ ((pn.length : Int) ≠ 0 ∧ Txt.endswith y pn = false) ↔ ∃ r, y.cps.toList = r ++ pn.cps.toList := by
    rw [← ends_iff]
    by_cases h : (pn.length : Int) = 0
    · have : Txt.endswith y pn = true := ends_iff.mpr ⟨y.cps.toList, by rw [z0 h]; simp⟩
      simp [h, this]
    · constructor
      · intro q
        cases e : Txt.endswith y pn with
        | true => rfl
        | false => exact absurd ⟨h, e⟩ q
      · rintro q ⟨_, q2⟩
        rw [q] at q2; cases q2
  unfold ellRest
  by_cases c1 : (p0.length : Int) ≠ 0 ∧ Txt.startswith y p0 = false
  · rw [if_pos c1]
    constructor
    · intro h; cases h
    · rintro ⟨m, e, _⟩
      exact absurd c1 (hstart.mpr ⟨m ++ pn.cps.toList, by rw [e]; simp⟩)
  rw [if_neg c1]
  by_cases c2 : (pn.length : Int) ≠ 0 ∧ Txt.endswith y pn = false
  · rw [if_pos c2]
    constructor
    · intro h; cases h
    · rintro ⟨m, e, _⟩
      exact absurd c2 (hend.mpr ⟨p0.cps.toList ++ m, e⟩)
  rw [if_neg c2]
  obtain ⟨r1, e1⟩ := hstart.mp c1
  obtain ⟨r2, e2⟩ := hend.mp c2
  by_cases c3 : (p0.length : Int) > (y.length : Int) - (pn.length : Int)
  · rw [if_pos c3]
    constructor
    · intro h; cases h
    · rintro ⟨m, e, _⟩
      have hl := congrArg List.length e
      simp only [List.length_append, str_len] at hl
      omega
  rw [if_neg c3]
  have hl2 := congrArg List.length e2
  simp only [List.length_append, str_len] at hl2
  have hhi : (y.length : Int) - (pn.length : Int) = ((y.length - pn.length : Nat) : Int) := by omega
  rw [hhi, ellLoop_ex y _ (by omega) _ _ (by omega)]
  have hmid : exL (List.map (fun x : PySem.Str => x.cps.toList) ((if (p0.length : Int) = 0 then [p0] else []) ++ mid ++ (if (pn.length : Int) = 0 then [pn] else []))) (win y.cps.toList p0.length (y.length - pn.length)) ↔ exL (mid.map (·.cps.toList)) (win y.cps.toList p0.length (y.length - pn.length)) := by
    rw [List.map_append, List.map_append]
    have ha : ∀ (q : List (List Nat)) (s : List Nat), exL (List.map (fun x : PySem.Str => x.cps.toList) (if (p0.length : Int) = 0 then [p0] else []) ++ q) s ↔ exL q s := by
      intro q s
      split
      · rename_i h
        rw [List.map_singleton, z0 h]
        exact exL_nil_head q s
      · exact Iff.rfl
    have hb : ∀ (q : List (List Nat)) (s : List Nat), exL (q ++ List.map (fun x : PySem.Str => x.cps.toList) (if (pn.length : Int) = 0 then [pn] else [])) s ↔ exL q s := by
      intro q s
      split
      · rename_i h
        rw [List.map_singleton, z0 h]
        exact exL_nil_last q s
      · rw [List.map_nil, List.append_nil]
    rw [hb, ha]
  rw [hmid]
  have hw : y.cps.toList = p0.cps.toList ++ win y.cps.toList p0.length (y.length - pn.length) ++ pn.cps.toList := by
    have hr2 : y.cps.toList.take (y.length - pn.length) = r2 := by
      have : y.length - pn.length = r2.length := by omega
      rw [this, e2, List.take_left]
    have hr3 : ∃ m, r2 = p0.cps.toList ++ m := by
      refine ⟨r2.drop p0.length, ?_⟩
      have : r2.take p0.length = p0.cps.toList := by
        have hle : p0.length ≤ r2.length := by omega
        have h1 : (y.cps.toList).take p0.length = r2.take p0.length := by rw [e2, List.take_append_of_le_length hle]
        have h2 : (y.cps.toList).take p0.length = p0.cps.toList := by rw [e1, ← str_len, List.take_left]
        rw [← h1, h2]
      rw [← this]
      have hz := (List.take_append_drop p0.length r2).symm
      rw [this] at hz ⊢
      exact hz
    obtain ⟨m, hm⟩ := hr3
    unfold win
    rw [hr2, hm]
    have : (p0.cps.toList ++ m).drop p0.length = m := by rw [← str_len, List.drop_left]
    rw [this, ← hm]
    exact e2
  constructor
  · intro h
    exact ⟨_, hw, h⟩
  · rintro ⟨m, e, h⟩
    have := List.append_cancel_right (e.symm.trans hw)
    have := List.append_cancel_left this
    rw [← this]
    exact h
end Mine
end

-- part G4
section
open PySem PySem.W PyProof.Rows PySem.StrLaws PySem.Builtin PySem.Builtin.Str
set_option maxRecDepth 100000
namespace Mine
theorem safe_ord {c : Nat} (h : safe c = true) : ordC c = true ∧ c ≠ 39 ∧ c ≠ 32 ∧ c ≠ 34 := by
  have key : ∀ k, safe k = false → c ≠ k := fun k hk e => by rw [e, hk] at h; cases h
  have h1 := key 39 (by decide +kernel)
  have h2 := key 32 (by decide +kernel)
  have h3 := key 34 (by decide +kernel)
  have h4 := key 92 (by decide +kernel)
  have h5 := key 9 (by decide +kernel)
  have h6 := key 13 (by decide +kernel)
  have h7 := key 10 (by decide +kernel)
  refine ⟨?_, h1, h2, h3⟩
  simp [ordC, *]
theorem lex_safe (r : List Nat) : ∀ (l : List Nat) (q : Bool) (tk : List Nat), l.all safe = true → lexTok .word q tk (l ++ r) = lexTok .word q (tk ++ l) r
  | [], q, tk, _ => by rw [List.append_nil]; rfl
  | c :: l, q, tk, h => by
    rw [List.all_cons, Bool.and_eq_true] at h
    obtain ⟨h1, h2, h3, h4⟩ := safe_ord h.1
    rw [List.cons_append]
    show (if c = 32 then _ else _ : Option _) = _
    rw [if_neg h3, if_neg h2, if_neg h4, if_pos h1, lex_safe r l q (tk ++ [c]) h.2]
    simp
theorem lex_marked (r : List Nat) : ∀ (l : List Nat) (q : Bool) (tk : List Nat), l ≠ [] → lexTok .sq q tk (swap 39 [39, 34, 39, 34, 39] l ++ 39 :: r) = lexTok .word true (tk ++ l) r
  | [], _, _, h => absurd rfl h
  | [c], q, tk, _ => by
    by_cases hc : c = 39
    · subst hc
      show lexTok .sq q tk ([39, 34, 39, 34, 39] ++ 39 :: r) = _
      simp [lexTok]
    · rw [swap_free 39 _ [c] (by simpa using fun e => hc e.symm)]
      show (if c = 39 then _ else _ : Option _) = _
      rw [if_neg hc]
      rfl
  | c :: d :: l, q, tk, _ => by
    have ih := lex_marked r (d :: l) true (tk ++ [c]) (by simp)
    have e : swap 39 [39, 34, 39, 34, 39] (c :: d :: l) = swap 39 [39, 34, 39, 34, 39] [c] ++ swap 39 [39, 34, 39, 34, 39] (d :: l) := by
      rw [← swap_append]; rfl
    rw [e, List.append_assoc]
    have e2 : tk ++ c :: d :: l = tk ++ [c] ++ (d :: l) := by simp
    rw [e2, ← ih]
    by_cases hc : c = 39
    · subst hc
      show lexTok .sq q tk ([39, 34, 39, 34, 39] ++ _) = _
      simp [lexTok]
    · rw [swap_free 39 _ [c] (by simpa using fun e => hc e.symm)]
      show (if c = 39 then _ else _ : Option _) = _
      rw [if_neg hc]
      rfl
/-- a quoted word is read as the word -/
theorem lex_word (w r : List Nat) : ∃ q, lexTok .blank false [] (quoteL w ++ r) = lexTok .word q w r ∧ (q = true ∨ w ≠ []) := by
  unfold quoteL
  by_cases h : w = []
  · subst h
    rw [if_pos rfl]
    exact ⟨true, by simp [lexTok], .inl rfl⟩
  · rw [if_neg h]
    by_cases hs : w.all safe = true
    · rw [if_pos hs]
      obtain ⟨c, l, rfl⟩ : ∃ c l, w = c :: l := by
        cases w with
        | nil => exact absurd rfl h
        | cons c l => exact ⟨c, l, rfl⟩
      refine ⟨false, ?_, .inr h⟩
      rw [List.all_cons, Bool.and_eq_true] at hs
      obtain ⟨h1, h2, h3, h4⟩ := safe_ord hs.1
      rw [List.cons_append]
      show (if c = 39 then _ else _ : Option _) = _
      rw [if_neg h2, if_pos h1, lex_safe r l false [c] hs.2]
      rfl
    · rw [if_neg hs]
      refine ⟨true, ?_, .inl rfl⟩
      have := lex_marked r w false [] h
      rw [List.nil_append] at this
      rw [← this]
      simp [lexTok]
theorem out_word {q : Bool} {w : List Nat} (h : q = true ∨ w ≠ []) : outOf q w = some w := by
  unfold outOf
  rw [if_neg]
  intro hh
  rw [Bool.and_eq_true] at hh
  rcases h with rfl | h
  · exact absurd hh.1 (by decide)
  · exact h (by simpa using hh.2)
theorem lex_end (w : List Nat) : lexTok .blank false [] (quoteL w) = some (some w, .fin, []) := by
  obtain ⟨q, e, h⟩ := lex_word w []
  rw [List.append_nil] at e
  rw [e]
  show some (outOf q w, St.fin, []) = _
  rw [out_word h]
theorem lex_next (w r : List Nat) : lexTok .blank false [] (quoteL w ++ 32 :: r) = some (some w, .blank, r) := by
  obtain ⟨q, e, h⟩ := lex_word w (32 :: r)
  rw [e]
  show (if (32 : Nat) = 32 then _ else _ : Option _) = _
  rw [if_pos rfl, if_pos, out_word h]
  rcases h with rfl | h
  · rfl
  · rw [Bool.or_eq_true]; exact .inr (by simpa using h)
theorem quote_inj {a b : List Nat} (h : quoteL a = quoteL b) : a = b := by
  have h1 := lex_end a
  rw [h, lex_end b] at h1
  simpa using h1.symm
theorem quote_dots : quoteL dotsL = dotsL := by decide +kernel
theorem swap_free2 {c d : Nat} {z l : List Nat} (hd : d ∉ z) (h : d ∉ l) : d ∉ swap c z l := by
  unfold swap
  intro hm
  obtain ⟨x, hx, hy⟩ := List.mem_flatMap.mp hm
  split at hy
  · exact hd hy
  · rw [List.mem_singleton.mp hy] at h; exact h hx
theorem quote_tok {w : List Nat} (h : 32 ∉ w) : Tok1 (quoteL w) := by
  unfold quoteL Tok1
  by_cases h0 : w = []
  · rw [if_pos h0]; decide
  · rw [if_neg h0]
    split
    · exact ⟨h0, h⟩
    · refine ⟨by simp, ?_⟩
      have := swap_free2 (c := 39) (z := [39, 34, 39, 34, 39]) (by decide) h
      simpa using this
theorem Mt.map {W G : List (List Nat)} (t : Mt W G) : Mt (W.map quoteL) (G.map quoteL) := by
  induction t with
  | nil => exact .nil
  | lit h _ ih => exact .lit (fun e => h (quote_inj (e.trans quote_dots.symm))) ih
  | @dots W C G h _ ih =>
    rw [List.map_cons, List.map_append, quote_dots]
    exact .dots (by simpa using h) ih
theorem Mt.unmap : ∀ {W G : List (List Nat)}, Mt (W.map quoteL) (G.map quoteL) → Mt W G := by
  intro W
  induction W with
  | nil =>
    intro G t
    cases G with
    | nil => exact .nil
    | cons g G => cases t
  | cons b W ih =>
    intro G t
    rw [List.map_cons] at t
    generalize hX : quoteL b = X at t
    generalize hY : G.map quoteL = Y at t
    cases t with
    | lit h t =>
      cases G with
      | nil => cases hY
      | cons g G =>
        rw [List.map_cons, List.cons.injEq] at hY
        obtain ⟨h1, h2⟩ := hY
        have : g = b := quote_inj (h1.trans hX.symm)
        subst this
        rw [← h2] at t
        exact .lit (fun e => h (by rw [← hX, e, quote_dots])) (ih t)
    | dots hC t =>
      have hb : b = dotsL := quote_inj (hX.trans quote_dots.symm)
      subst hb
      obtain ⟨C', G', rfl, rfl, rfl⟩ := List.map_eq_append_iff.mp hY
      exact .dots (by simpa using hC) (ih t)
/-- the joined line of words -/
noncomputable def lineL (W : List (List Nat)) : List Nat := inter (W.map quoteL)
noncomputable def GoodG (w : List Nat) : Prop := 32 ∉ w
noncomputable def GoodWd (w : List Nat) : Prop := 32 ∉ w ∧ Lit1 (quoteL w)
/-- what _ellipsis_match gives of two joined lines -/
noncomputable def ellB (x y : PySem.Str) (p0 : PySem.Str) (mid : List PySem.Str) (pn : PySem.Str) : Bool := if (occurrences x dots 0 x.length 1).isEmpty = true then x == y else ellRest p0 mid pn y
theorem ell_lines {W G : List (List Nat)} (hW : ∀ w ∈ W, GoodWd w) (hG : ∀ g ∈ G, GoodG g) : glob (pat3 (lineL W)) (lineL G) ↔ Mt W G ∨ W = [dotsL] := by
  have hG' : ∀ g ∈ G.map quoteL, Tok1 g := fun g hg => by
    obtain ⟨a, ha, rfl⟩ := List.mem_map.mp hg
    exact quote_tok (hG a ha)
  have hW' : ∀ g ∈ W.map quoteL, Tok1 g ∧ Lit1 g := fun g hg => by
    obtain ⟨a, ha, rfl⟩ := List.mem_map.mp hg
    exact ⟨quote_tok (hW a ha).1, (hW a ha).2⟩
  by_cases h0 : W = []
  · subst h0
    show glob (pat3 []) (inter (G.map quoteL)) ↔ _
    rw [pat3_nil]
    show inter (G.map quoteL) = [] ↔ _
    rw [inter_nil hG', List.map_eq_nil_iff]
    constructor
    · rintro rfl; exact .inl .nil
    · rintro (h | h)
      · cases h; rfl
      · cases h
  · have := glob_words (W.map quoteL) (G.map quoteL) (by simpa using h0) hW' hG'
    unfold lineL
    rw [this]
    have e : W.map quoteL = [dotsL] ↔ W = [dotsL] := by
      constructor
      · intro h
        cases W with
        | nil => cases h
        | cons a r =>
          rw [List.map_cons, List.cons.injEq, List.map_eq_nil_iff] at h
          obtain ⟨h1, rfl⟩ := h
          rw [quote_inj (h1.trans quote_dots.symm)]
      · rintro rfl; rw [List.map_singleton, quote_dots]
    rw [e]
    exact ⟨fun h => h.imp Mt.unmap id, fun h => h.imp Mt.map id⟩
end Mine
end

-- part G5
section
open PySem PySem.W PyProof.Rows
set_option maxRecDepth 100000
namespace Mine
theorem Mt.snoc_lit {b : List Nat} (hb : b ≠ dotsL) : ∀ {W G : List (List Nat)}, Mt (W ++ [b]) G ↔ ∃ G1, G = G1 ++ [b] ∧ Mt W G1 := by
  intro W
  induction W with
  | nil =>
    intro G
    constructor
    · intro t
      generalize hX : ([] : List (List Nat)) ++ [b] = X at t
      cases t with
      | nil => cases hX
      | lit h t => cases hX; cases t; exact ⟨[], rfl, .nil⟩
      | dots h t => cases hX; exact absurd rfl hb
    · rintro ⟨G1, rfl, t⟩
      cases t
      exact .lit hb .nil
  | cons a W ih =>
    intro G
    constructor
    · intro t
      rw [List.cons_append] at t
      generalize hX : W ++ [b] = X at t
      cases t with
      | lit h t =>
        subst hX
        obtain ⟨G1, rfl, t1⟩ := ih.mp t
        exact ⟨a :: G1, rfl, .lit h t1⟩
      | @dots _ C _ h t =>
        subst hX
        obtain ⟨G1, rfl, t1⟩ := ih.mp t
        exact ⟨C ++ G1, by simp, .dots h t1⟩
    · rintro ⟨G1, rfl, t⟩
      cases t with
      | lit h t => exact .lit h (ih.mpr ⟨_, rfl, t⟩)
      | @dots _ C G' h t =>
        rw [List.append_assoc]
        exact .dots h (ih.mpr ⟨_, rfl, t⟩)
theorem Mt.snoc_dots : ∀ {W G : List (List Nat)}, Mt (W ++ [dotsL]) G ↔ ∃ G1 C, G = G1 ++ C ∧ C ≠ [] ∧ Mt W G1 := by
  intro W
  induction W with
  | nil =>
    intro G
    constructor
    · intro t
      generalize hX : ([] : List (List Nat)) ++ [dotsL] = X at t
      cases t with
      | nil => cases hX
      | lit h t => cases hX; exact absurd rfl h
      | @dots _ C _ h t => cases hX; cases t; exact ⟨[], C, by simp, h, .nil⟩
    · rintro ⟨G1, C, rfl, hC, t⟩
      cases t
      have := Mt.dots hC .nil
      rw [List.append_nil] at this
      exact this
  | cons a W ih =>
    intro G
    constructor
    · intro t
      rw [List.cons_append] at t
      generalize hX : W ++ [dotsL] = X at t
      cases t with
      | lit h t =>
        subst hX
        obtain ⟨G1, C, rfl, hC, t1⟩ := ih.mp t
        exact ⟨a :: G1, C, rfl, hC, .lit h t1⟩
      | @dots _ C0 _ h t =>
        subst hX
        obtain ⟨G1, C, rfl, hC, t1⟩ := ih.mp t
        exact ⟨C0 ++ G1, C, by simp, hC, .dots h t1⟩
    · rintro ⟨G1, C, rfl, hC, t⟩
      cases t with
      | lit h t => exact .lit h (ih.mpr ⟨_, C, rfl, hC, t⟩)
      | @dots _ C0 G' h t =>
        rw [List.append_assoc]
        exact .dots h (ih.mpr ⟨_, C, rfl, hC, t⟩)

/-- the table's rows -/
noncomputable def row0 (n : Nat) : List Bool := (List.range (n + 1)).map (· == 0)
noncomputable def nextRow (G : List (List Nat)) (b : List Nat) (above : List Bool) : List Bool :=
  if b = dotsL then (List.range (G.length + 1)).map (fun k => (above.take k).contains true)
  else (List.range (G.length + 1)).map (fun k => if k = 0 then false else above.getD (k - 1) false && (G.getD (k - 1) [] == b))
/-- the table, row by row -/
noncomputable def tabRow (G W : List (List Nat)) : Nat → List Bool
  | 0 => row0 G.length
  | i + 1 => nextRow G (W.getD i []) (tabRow G W i)
theorem tabRow_len (G W : List (List Nat)) : ∀ i, (tabRow G W i).length = G.length + 1
  | 0 => by simp [tabRow, row0]
  | i + 1 => by simp only [tabRow, nextRow]; split <;> simp
theorem take_snoc {G : List (List Nat)} {j : Nat} (h0 : j ≠ 0) (hj : j ≤ G.length) : G.take j = G.take (j - 1) ++ [G.getD (j - 1) []] := by
  obtain ⟨k, rfl⟩ : ∃ k, j = k + 1 := ⟨j - 1, by omega⟩
  have hk : k < G.length := by omega
  rw [Nat.add_sub_cancel, List.take_add_one]
  congr 1
  simp [List.getElem?_eq_getElem hk]
theorem tabRow_iff (G W : List (List Nat)) : ∀ i, i ≤ W.length → ∀ j, j ≤ G.length → ((tabRow G W i).getD j false = true ↔ Mt (W.take i) (G.take j))
  | 0, _, j, hj => by
    rw [List.take_zero]
    have e : (tabRow G W 0).getD j false = (j == 0) := by
      simp only [tabRow, row0, List.getD_eq_getElem?_getD, List.getElem?_map]
      rw [List.getElem?_range (by omega)]
      rfl
    rw [e, beq_iff_eq]
    constructor
    · rintro rfl; exact .nil
    · intro t
      rcases Nat.eq_zero_or_pos j with q | q
      · exact q
      · cases hG : G.take j with
        | nil =>
          have := congrArg List.length hG
          rw [List.length_take, List.length_nil] at this
          omega
        | cons a b => rw [hG] at t; cases t
  | i + 1, hi, j, hj => by
    have hi' : i < W.length := by omega
    have eW : W.take (i + 1) = W.take i ++ [W.getD i []] := take_snoc (Nat.succ_ne_zero i) hi
    have ih := tabRow_iff G W i (by omega)
    rw [eW]
    by_cases hb : W.getD i [] = dotsL
    · rw [hb, Mt.snoc_dots]
      have e : (tabRow G W (i + 1)).getD j false = ((tabRow G W i).take j).contains true := by
        simp only [tabRow, nextRow, if_pos hb]
        rw [List.getD_eq_getElem?_getD, List.getElem?_map, List.getElem?_range (by omega)]
        rfl
      rw [e, List.contains_iff_mem]
      constructor
      · intro hm
        obtain ⟨k, hk, e1⟩ := List.getElem_of_mem hm
        have hk2 : k < j := by rw [List.length_take] at hk; omega
        have hk3 : (tabRow G W i).getD k false = true := by
          rw [List.getElem_take] at e1
          rw [List.getD_eq_getElem?_getD, List.getElem?_eq_getElem (by rw [tabRow_len]; omega), e1]; rfl
        refine ⟨G.take k, (G.take j).drop k, ?_, ?_, (ih k (by omega)).mp hk3⟩
        · have : G.take k = (G.take j).take k := by rw [List.take_take, Nat.min_eq_left (by omega)]
          rw [this, List.take_append_drop]
        · intro h0
          have := congrArg List.length h0
          rw [List.length_drop, List.length_take] at this
          simp at this
          omega
      · rintro ⟨G1, C, eG, hC, t⟩
        have hl := congrArg List.length eG
        rw [List.length_take, List.length_append] at hl
        have hCl : C.length ≠ 0 := fun h => hC (List.length_eq_zero_iff.mp h)
        have eG1 : G1 = G.take G1.length := by
          have : (G.take j).take G1.length = G1 := by rw [eG, List.take_left]
          rw [List.take_take, Nat.min_eq_left (by omega)] at this
          exact this.symm
        rw [eG1] at t
        have h1 := (ih G1.length (by omega)).mpr t
        have hlt : G1.length < (tabRow G W i).length := by rw [tabRow_len]; omega
        rw [List.getD_eq_getElem?_getD, List.getElem?_eq_getElem hlt] at h1
        have h1 : (tabRow G W i)[G1.length] = true := h1
        rw [← h1]
        have : ((tabRow G W i).take j)[G1.length]? = some (tabRow G W i)[G1.length] := by
          rw [List.getElem?_take_of_lt (by omega), List.getElem?_eq_getElem hlt]
        exact List.mem_of_getElem? this
    · rw [Mt.snoc_lit hb]
      have e : (tabRow G W (i + 1)).getD j false = if j = 0 then false else (tabRow G W i).getD (j - 1) false && (G.getD (j - 1) [] == W.getD i []) := by
        simp only [tabRow, nextRow, if_neg hb]
        conv => lhs; rw [List.getD_eq_getElem?_getD, List.getElem?_map]
        rw [List.getElem?_range (by omega)]
        rfl
      rw [e]
      by_cases h0 : j = 0
      · rw [if_pos h0]
        subst h0
        rw [List.take_zero]
        constructor
        · intro h; cases h
        · rintro ⟨G1, eG, _⟩
          simp at eG
      · rw [if_neg h0, Bool.and_eq_true, beq_iff_eq, ih (j - 1) (by omega), take_snoc h0 hj]
        constructor
        · rintro ⟨t, eg⟩
          exact ⟨_, by rw [eg], t⟩
        · rintro ⟨G1, eG, t⟩
          obtain ⟨e1, e2⟩ := List.append_inj' eG rfl
          exact ⟨e1 ▸ t, (List.cons.inj e2).1⟩
/-- a word of the law is good -/
theorem lit_short {l : List Nat} (h : ∀ k, dotHd (l.drop k) = false) : Lit1 l := .inr h
theorem hd_iff_nth {l : List Nat} {k : Nat} (h : dotHd (l.drop k) = true) : l[k]? = some 46 ∧ l[k + 1]? = some 46 ∧ l[k + 2]? = some 46 := by
  obtain ⟨r, e⟩ := dotHd_iff.mp h
  have g : ∀ j, l[k + j]? = (46 :: 46 :: 46 :: r)[j]? := fun j => by rw [← e, List.getElem?_drop]
  exact ⟨g 0, g 1, g 2⟩
noncomputable def litB (l : List Nat) : Bool := (List.range l.length).all fun k => !dotHd (l.drop k)
theorem lit_of_B {l : List Nat} (h : litB l = true) : ∀ k, dotHd (l.drop k) = false := by
  intro k
  refine not_dot fun q => ?_
  have hk : k < l.length := (List.getElem?_eq_some_iff.mp (hd_iff_nth q).1).1
  have := List.all_eq_true.mp h k (List.mem_range.mpr hk)
  rw [q] at this; cases this
theorem good_one (c : Nat) (h : c ≠ 32) : GoodWd [c] := by
  refine ⟨by simpa using fun e => h e.symm, ?_⟩
  unfold quoteL
  rw [if_neg (by simp)]
  split
  · exact .inr (lit_of_B (by show (!dotHd [c]) && true = true; simp [dotHd]))
  · by_cases hc : c = 39
    · subst hc; exact .inr (lit_of_B (by decide +kernel))
    · rw [swap_free 39 _ [c] (by simpa using fun e => hc e.symm)]
      refine .inr fun k => not_dot fun q => ?_
      obtain ⟨h1, h2, h3⟩ := hd_iff_nth q
      match k, h1, h2, h3 with
      | 0, h1, _, _ => simp at h1
      | 1, _, h2, _ => simp at h2
      | k + 2, h1, _, h3 => simp at h3
theorem good_word (n : Int) : GoodWd (wordL n) := by
  by_cases h : n.fmod 8 < 7
  · have hb := fmod8 n
    have h7 : n.fmod 8 = (0 : Nat) ∨ n.fmod 8 = (1 : Nat) ∨ n.fmod 8 = (2 : Nat) ∨ n.fmod 8 = (3 : Nat) ∨ n.fmod 8 = (4 : Nat) ∨ n.fmod 8 = (5 : Nat) ∨ n.fmod 8 = (6 : Nat) := by omega
    rcases h7 with h | h | h | h | h | h | h
    all_goals rw [word_menu h (by decide)]
    · exact good_one 97 (by decide)
    · exact ⟨by decide, .inr (lit_of_B (by decide +kernel))⟩
    · exact ⟨by decide, .inr (lit_of_B (by decide +kernel))⟩
    · exact ⟨by decide, .inr (lit_of_B (by decide +kernel))⟩
    · exact ⟨by decide, .inr (lit_of_B (by decide +kernel))⟩
    · exact ⟨by decide, .inr (lit_of_B (by decide +kernel))⟩
    · exact ⟨by decide, .inl (by decide +kernel)⟩
  · unfold wordL
    rw [if_neg h]
    split
    · exact good_one 97 (by decide)
    · rename_i h32
      exact good_one _ h32
theorem word_short (n : Int) : (wordL n).length ≤ 4 := by
  by_cases h : n.fmod 8 < 7
  · have hb := fmod8 n
    have h7 : n.fmod 8 = (0 : Nat) ∨ n.fmod 8 = (1 : Nat) ∨ n.fmod 8 = (2 : Nat) ∨ n.fmod 8 = (3 : Nat) ∨ n.fmod 8 = (4 : Nat) ∨ n.fmod 8 = (5 : Nat) ∨ n.fmod 8 = (6 : Nat) := by omega
    rcases h7 with h | h | h | h | h | h | h
    all_goals (rw [word_menu h (by decide)]; decide)
  · unfold wordL
    rw [if_neg h]
    split
    · decide
    · show 1 ≤ 4; decide
theorem good_dots : GoodWd dotsL := ⟨by decide, .inl (by decide +kernel)⟩
theorem quote_len (w : List Nat) : (quoteL w).length ≤ 5 * w.length + 2 := by
  unfold quoteL
  split
  · simp
  · split
    · omega
    · have := swap_length 39 [39, 34, 39, 34, 39] 5 (by decide) (by decide) w
      simp only [List.length_cons, List.length_append, List.length_nil]
      omega
theorem inter_len (n : Nat) : ∀ (B : List (List Nat)), (∀ b ∈ B, b.length ≤ n) → (inter B).length ≤ B.length * (n + 1)
  | [], _ => Nat.zero_le _
  | [b], h => by
    have := h b (.head _)
    show b.length ≤ 1 * (n + 1)
    omega
  | b :: c :: r, h => by
    have ih := inter_len n (c :: r) fun a ha => h a (.tail _ ha)
    have := h b (.head _)
    rw [inter_cons (by simp), List.length_append, List.length_cons, List.length_cons (as := c :: r), Nat.succ_mul]
    omega
theorem line_len {W : List (List Nat)} (h : ∀ w ∈ W, w.length ≤ 4) : (lineL W).length ≤ W.length * 23 := by
  have := inter_len 22 (W.map quoteL) fun b hb => by
    obtain ⟨w, hw, rfl⟩ := List.mem_map.mp hb
    have := quote_len w
    have := h w hw
    omega
  simpa [lineL] using this
end Mine
end

-- part T1
section
open PySem PySem.W PyProof.Rows PySem.Calls
set_option maxRecDepth 100000
namespace Mine
/-- the table's rows stand in the ledger -/
noncomputable def RowsOk (G W : List (List Nat)) (rs : List Nat) (rl : List (Addr × Obj)) : Prop := ∀ i a, rs[i]? = some a → ∃ c, (a, listOf ((tabRow G W i).map Value.bool).toArray c) ∈ rl
/-- a list's length, by a name of its own -/
structure LenIs (its : Array Value) (k : Nat) : Prop where
  eq : its.size = k
section
variable {prog : Program} {w : World} {A : Around} {E : Value → Shared → Prop} {s : Shared} {h₀ : Heap} {L : Addr} {news : List (Addr × Obj)}
theorem len_at {l : Addr} {its : Array Value} {n k : Nat} {Q : Value → Shared → Prop} (N : News h₀ L s.heap news) (hl : (l, listOf its n) ∈ news) (hk : LenIs its k) (hz : k ≤ 100000) (h : ∀ t tk, Q (.int (k : Int) t) { s with toks := tk }) :
    wpAny (model prog w) A (call (.builtin "len") [.ref l]) Q E s := by
  have hk : its.size = k := hk.eq
  refine len_list (News.isList N hl) (by rw [hk]; omega) ?_
  rw [hk]
  exact h _ _
end
theorem range_ok {n : Nat} (h : n ≤ 200) : Builtin.Range.small 0 ((n : Int) + 1) 1 = true ∧ Builtin.Range.rangeSize 0 ((n : Int) + 1) 1 = ((n + 1 : Nat) : Int) ∧ n + 1 ≤ sizeLine :=
  ⟨small_one (by decide) (by decide) (by omega) (by omega), by rw [rangeSize_nat]; omega, by rw [sizeLine_eq]; omega⟩
/-- a row of bools, as far as it is known -/
noncomputable def upTo (r : List Bool) (i : Nat) : List Value := (r.take i).map Value.bool
theorem upTo_step {r : List Bool} {i : Nat} {b : Bool} (h : r[i]? = some b) : upTo r (i + 1) = upTo r i ++ [.bool b] := by
  unfold upTo
  rw [List.take_add_one, h, List.map_append]
  rfl
theorem upTo_all {r : List Bool} {n : Nat} (h : r.length = n) : upTo r n = r.map Value.bool := by
  unfold upTo
  rw [← h, List.take_length]
/-- the ledger of the table, the loop's own cell aside -/
noncomputable def TabL (G W : List (List Nat)) (T cA cW cG : Nat) (oG : Obj) (news : List (Addr × Obj)) (i : Nat) (n : List (Addr × Obj)) : Prop :=
  ∃ (rs : List Nat) (cT : Nat) (oA : Obj) (vA : Option Value) (rl : List (Addr × Obj)), n = (T, listOf (rs.map Value.ref).toArray cT) :: (cA, oA) :: (cG, oG) :: (rl ++ news) ∧ rs.length = i + 1 ∧ oA.data = Data.cell vA ∧ RowsOk G W rs rl ∧ ∀ p ∈ rl, p.2.cls = .type "list" ∧ p.1 ≠ T ∧ p.1 ≠ cA ∧ p.1 ≠ cW ∧ p.1 ≠ cG
theorem slice_take (ys : List Value) (j : Nat) : (slicePick ys.toArray none (some ((0 : Int) + (j : Int))) none).toList = ys.take j := by
  have e : sliceBounds none (some ((0 : Int) + (j : Int))) none ys.toArray.size = (((0 : Nat) : Int), ((min j ys.length : Nat) : Int), 1) := by
    simp [sliceBounds]
    omega
  rw [kmk_pick_nat _ e]
  simp
theorem tab_end {g h : Heap} {L T cA cW cG I D cT tk i : Nat} {oI oA oC oG : Obj} {vA vC : Option Value} {m : PySem.Str → Option Value} {G W : List (List Nat)} {rs : List Nat} {rl news all : List (Addr × Obj)} {b : List Nat} {s₁ : Shared} {Q : Flow → Shared → Prop}
    (F : Fr g L h m) (N : News g L h all) (hT : (T, listOf ((rs.map Value.ref).toArray.push (.ref D)) cT) ∈ all) (hA : (cA, oA) ∈ all) (hG : (cG, oG) ∈ all) (hC : (cW, oC) ∈ all) (hD : (D, LCg.lst ((nextRow G b (tabRow G W i)).map Value.bool)) ∈ all) (hrest : ∀ p ∈ rl ++ news ++ [(I, oI)], p ∈ all)
    (dA : oA.data = Data.cell vA) (dC : oC.data = Data.cell vC) (hb : W[i]? = some b) (hrs : rs.length = i + 1) (hrows : RowsOk G W rs rl) (hrl : ∀ p ∈ rl, p.2.cls = .type "list" ∧ p.1 ≠ T ∧ p.1 ≠ cA ∧ p.1 ≠ cW ∧ p.1 ≠ cG)
    (hDn : D ≠ T ∧ D ≠ cA ∧ D ≠ cW ∧ D ≠ cG ∧ D ≠ I) (hoff : (T ≠ I ∧ T ≠ cW) ∧ (cA ≠ I ∧ cA ≠ cW) ∧ (cG ≠ I ∧ cG ≠ cW) ∧ ∀ p ∈ rl ++ news, p.1 ≠ I ∧ p.1 ≠ cW) :
    EndC g L I cW m [(I, oI)] (TabL G W T cA cW cG oG news (i + 1)) s₁ Q .next { s₁ with heap := h, toks := tk } := by
  have e : (rs.map Value.ref).toArray.push (.ref D) = ((rs ++ [D]).map Value.ref).toArray := by simp
  rw [e] at hT
  refine ⟨h, tk, oC, vC, (T, listOf ((rs ++ [D]).map Value.ref).toArray cT) :: (cA, oA) :: (cG, oG) :: (((D, LCg.lst ((nextRow G b (tabRow G W i)).map Value.bool)) :: rl) ++ news), rfl, F, dC, fun p hp => N p ?_, ?_, rs ++ [D], cT, oA, vA, _, rfl, by rw [List.length_append, hrs]; rfl, dA, ?_, ?_⟩
  · rcases List.mem_cons.mp hp with rfl | hp
    · exact hC
    rcases List.mem_append.mp hp with hp | hp
    · rcases List.mem_cons.mp hp with rfl | hp
      · exact hT
      rcases List.mem_cons.mp hp with rfl | hp
      · exact hA
      rcases List.mem_cons.mp hp with rfl | hp
      · exact hG
      rcases List.mem_cons.mp hp with rfl | hp
      · exact hD
      · exact hrest p (List.mem_append_left _ hp)
    · exact hrest p (List.mem_append_right _ hp)
  · intro p hp
    rcases List.mem_cons.mp hp with rfl | hp
    · exact hoff.1
    rcases List.mem_cons.mp hp with rfl | hp
    · exact hoff.2.1
    rcases List.mem_cons.mp hp with rfl | hp
    · exact hoff.2.2.1
    rcases List.mem_cons.mp hp with rfl | hp
    · exact ⟨hDn.2.2.2.2, hDn.2.2.1⟩
    · exact hoff.2.2.2 p hp
  · intro j a ha
    by_cases hj : j < rs.length
    · rw [List.getElem?_append_left hj] at ha
      obtain ⟨c, hc⟩ := hrows j a ha
      exact ⟨c, .tail _ hc⟩
    · have hj2 : j = rs.length := by
        have := (List.getElem?_eq_some_iff.mp ha).1
        rw [List.length_append] at this
        simp at this
        omega
      subst hj2
      rw [List.getElem?_append_right (Nat.le_refl _), Nat.sub_self] at ha
      obtain rfl : D = a := by simpa using ha
      have et : tabRow G W rs.length = nextRow G b (tabRow G W i) := by
        rw [hrs]
        show nextRow G (W.getD i []) _ = _
        rw [List.getD_eq_getElem?_getD, hb]
        rfl
      rw [et]
      exact ⟨_, .head _⟩
  · intro p hp
    rcases List.mem_cons.mp hp with rfl | hp
    · exact ⟨rfl, hDn.1, hDn.2.1, hDn.2.2.1, hDn.2.2.2.1⟩
    · exact hrl p hp
theorem nextRow_len (G : List (List Nat)) (b : List Nat) (above : List Bool) : (nextRow G b above).length = G.length + 1 := by
  unfold nextRow; split <;> simp
theorem nextRow_dots {G : List (List Nat)} {b : List Nat} {above : List Bool} {j : Nat} (hb : b = dotsL) (hj : j < G.length + 1) : (nextRow G b above)[j]? = some ((above.take j).contains true) := by
  unfold nextRow
  rw [if_pos hb, List.getElem?_map, List.getElem?_range hj]
  rfl
theorem nextRow_word {G : List (List Nat)} {b : List Nat} {above : List Bool} {j : Nat} (hb : b ≠ dotsL) (hj : j < G.length + 1) : (nextRow G b above)[j]? = some (if j = 0 then false else above.getD (j - 1) false && (G.getD (j - 1) [] == b)) := by
  unfold nextRow
  rw [if_neg hb, List.getElem?_map, List.getElem?_range hj]
  rfl
theorem off1_mem {D : Addr} : ∀ {l : List (Addr × Obj)}, LCg.Off1 D l → ∀ p ∈ l, p.1 ≠ D
  | [], _, _, h => nomatch h
  | _ :: _, x, p, h => by
    rcases List.mem_cons.mp h with rfl | h
    · exact x.1
    · exact off1_mem x.2 p h
theorem beq_strL (a b : List Nat) : (a == b) = (strL a == strL b) := by
  rw [Bool.eq_iff_iff, beq_iff_eq, beq_iff_eq]
  exact ⟨fun h => by rw [h], fun h => strL_inj h⟩
theorem row0_get {n i : Nat} (hi : i < n + 1) : (row0 n)[i]? = some ((0 + (i : Int)) == 0) := by
  have e : (row0 n)[i]? = some (i == 0) := by
    unfold row0
    rw [List.getElem?_map, List.getElem?_range hi]
    rfl
  rw [e, Int.zero_add]
  congr 1
  rw [Bool.eq_iff_iff, beq_iff_eq, beq_iff_eq]
  omega
section
variable {prog : Program} {w : World} {A : Around} {E : Value → Shared → Prop} {s : Shared} {h₀ : Heap} {L : Addr} {news : List (Addr × Obj)}
theorem item_lastR {l : Addr} {rs : List Nat} {r0 n : Nat} {tk : Tok} {value slice : Expr} {Q : Value → Shared → Prop} (N : News h₀ L s.heap news) (hl : (l, listOf (rs.map Value.ref).toArray n) ∈ news) (hr : rs.getLast? = some r0) (h : Q (.ref r0) s)
    (hs : subscripted slice false (.ref l) (.int (-1) tk) = operate [.ref l, .int (-1) tk] (getItem (.ref l) (.int (-1) tk)) := by with_unfolding_all rfl) :
    wpAny (model prog w) A (subscriptTail value slice (.ref l) (.int (-1) tk)) Q E s := by
  have hL : s.heap.IsList l (rs.map Value.ref).toArray := News.isList N hl
  have hne : rs ≠ [] := fun e => by rw [e] at hr; cases hr
  have hlen : 0 < rs.length := List.length_pos_iff.mpr hne
  refine tail_any hL.typeIs slot_list_getitem.lookup (wpAny_getItem_list_neg hL (by decide) ?_ (by decide) ?_ h) hs
  · simp; omega
  · have e : (-1 + ((rs.map Value.ref).toArray.size : Int)).toNat = rs.length - 1 := by simp; omega
    rw [e]
    rw [List.getLast?_eq_getElem?] at hr
    simp [hr]
theorem item_at {l : Addr} {its : Array Value} {n : Nat} {k : Int} {tk : Tok} {v : Value} {value slice : Expr} {Q : Value → Shared → Prop} (N : News h₀ L s.heap news) (hl : (l, listOf its n) ∈ news) (h0 : 0 ≤ k) (hk : k < 2 ^ 63) (hx : its[k.toNat]? = some v) (h : Q v s)
    (hs : subscripted slice false (.ref l) (.int k tk) = operate [.ref l, .int k tk] (getItem (.ref l) (.int k tk)) := by with_unfolding_all rfl) :
    wpAny (model prog w) A (subscriptTail value slice (.ref l) (.int k tk)) Q E s := by
  have hL : s.heap.IsList l its := News.isList N hl
  exact tail_any hL.typeIs slot_list_getitem.lookup (wpAny_getItem_list hL h0 hk hx h) hs
end
section
local macro_rules | `(tactic| walk_at "subscriptTail") => `(tactic| (k_here; refine held ?_))
local macro_rules | `(tactic| walk_at "subscriptTail Name Slice ref ref") => `(tactic| (k_here; (with_reducible show wpAny _ _ (subscriptTail _ (PySem.Expr.Slice _ _ none _) (Value.ref _) (Value.ref _)) _ _ _); k_dflt (refine kmk_slice_lit (by k_asm) (by k_asm) (by exact News.isList (by k_asm) (by (repeat first | assumption | apply List.Mem.head | apply List.Mem.tail))) (by kmk_part) (by kmk_part) (by exact slice_take _ _) ?_ (by with_unfolding_all rfl) (by kmk_pure) (by (try simp only [List.size_toArray, List.length_map]); rw [sizeLine_eq]; (try rw [tabRow_len]); omega)); intro D' h' F' N' l1; (try k_lt l1); (try k_sweep)))
local macro_rules | `(tactic| walk_at "call builtin:list.append") => `(tactic| (k_here; (with_reducible show wpAny _ _ (call (Value.builtin _) [Value.ref _, _]) _ _ _); k_dflt (refine append_K (by k_asm) (by k_asm) (by k_upd) ?_ (by (try simp only [List.size_toArray, List.length_map]); rw [sizeLine_eq]; omega); k_whole); intro h' F' N'; (try k_sweep)))
local macro_rules | `(tactic| walk_at "compareOp In bool ref") => `(tactic| (k_here; refine held ?_))
local macro_rules | `(tactic| walk_at "call builtin:len") => `(tactic| (k_here; (with_reducible show wpAny _ _ (call (Value.builtin "len") [Value.ref _]) _ _ _); k_dflt (refine len_at (by k_asm) (by repeat first | assumption | apply List.Mem.head | apply List.Mem.tail) ‹_› (by omega) ?_; k_whole); intro _ _))
local macro_rules | `(tactic| walk_at "CompSrc") => `(tactic| (k_here; refine held ?_))
local macro_rules | `(tactic| walk_at "exec For") => `(tactic| (k_here; refine held ?_))
local macro_rules | `(tactic| walk_at "exec For Name Name cons nil") => `(tactic| (k_here; refine held ?_))
local macro_rules | `(tactic| walk_at "eval ListComp") => `(tactic| (k_here; refine held ?_))
local macro_rules | `(tactic| walk_at "CompEnd") => `(tactic| (k_here; refine held ?_))

set_option maxHeartbeats 1000000 in
theorem table_ctr (w : World) (p : Program) (loose : List PySem.Str) (mean : ExcName → Option Value) (mg mb : PySem.Str → Option Value) (lW cW lG cG : Nat) (wq gq : List (PySem.Str × Tok)) (W G : List (List Nat)) (hW : wq.map (·.1) = W.map strL) (hG : gq.map (·.1) = G.map strL) (hlW : W.length ≤ 100) (hlG : G.length ≤ 100) (news : List (Addr × Obj))
    (mW : (lW, listOf (strValues wq).toArray cW) ∈ news) (mG : (lG, listOf (strValues gq).toArray cG) ∈ news) :
    Ctr 10 100 w p loose mean mg mb 790 [.ref lW, .ref lG] news (fun r news' => ∃ (T c : Nat) (rs : List Nat) (rl : List (Addr × Obj)), r = .ref T ∧ news' = (T, listOf (rs.map Value.ref).toArray c) :: (rl ++ news) ∧ rs.length = W.length + 1 ∧ RowsOk G W rs rl ∧ ∀ q ∈ rl, q.2.cls = .type "list") := by
  unfold Ctr
  k_fill
  intro dp un gd cn cs a ccd cl outer A₀ base h₀ L m s Q E B F X N T hk hd hu hret
  have hgl : (strValues gq).length = G.length := by have := congrArg List.length hG; simpa [strValues] using this
  have hwl : (strValues wq).length = W.length := by have := congrArg List.length hW; simpa [strValues] using this
  have hgz : (strValues gq).toArray.size = G.length := by simpa using hgl
  have hwz : (strValues wq).toArray.size = W.length := by simpa using hwl
  have hgL : LenIs (strValues gq).toArray G.length := ⟨hgz⟩
  have hwL : LenIs (strValues wq).toArray W.length := ⟨hwz⟩
  refine wpAny_noRaise ?_
  refine wpAny_call ?_
  k_dflt (refine' code_defC ?k1 ?k2 ?k3 ?k4 ?k5 ?kA ?kF ?kK ?k6 ?k7 ?k8 ?k9 ?kB ?kD ?_ ?c2 ?c3 ?c4; (case kA => exact rfl); (case kF => exact rfl); (case kK => first | exact rfl | assumption); (case k1 => k_asm); (case k2 => k_asm); (case k3 => k_asm); (case k4 => k_asm); (case k5 => k_asm); (case k6 => k_is); (case k7 => k_is); (case k8 => ktr_room); (case k9 => exact BindsTo.of_eq rfl); (case kB => exact rfl); (case kD => decide +kernel); (case c2 => exact rfl); (case c3 => exact rfl); (case c4 => exact rfl); k_whole; intro g' L' h' tk' cells' FG' F' N' Y' B' X' T' l1; (try k_lt l1); k_cells Y'; (try simp only [List.cons_append, List.nil_append] at N'); (try dsimp only); (try k_lift B'); (try k_fold))
  rename_i oA0 oW0 oG0 da dw dg
  have dG := dg.trans (show _ = Data.cell (some (.ref lG)) from rfl)
  refine wpAny_noRaise ?_
  try k_fold
  k_steps
  unfold Held
  rename Fr _ _ _ _ => F0
  rename News _ _ _ _ => N0
  refine LCg.ListComp_U F0 (by exact rfl) (by decide) rfl (by decide) (by exact rfl) ?_
  try k_fold
  k_steps
  unfold Held
  rename Fr _ _ _ _ => F1
  rename News _ _ _ _ => N1
  rename IsRange _ _ _ _ _ _ _ _ => R1
  obtain ⟨r1, r2, r3⟩ := range_ok (n := G.length) (by omega)
  refine LCg.CompSrc.range rfl F1 N1 R1 r1 r2 r3 ?_
  intro g1
  refine comp_ind (upTo (row0 G.length)) rfl ?_ ?_
  case' refine_2 =>
    intro i v I oI C oC D m₂ h2 tk2 E' hi hP hC hm F2 N2 off hd2
    obtain ⟨t2, rfl⟩ := hP
    clear F1 N1 R1
    try k_fold
    k_steps
    unfold Held
    refine LCg.CompEnd.intro F2 N2 _ (fun p hp => hp) off trivial ⟨rfl, upTo_step ?_⟩
    exact row0_get hi
  · intro D1 h1 tk1 F2 N2 off1
    rw [upTo_all (by simp [row0])] at N2
    have hTD : D1 < h1.objs.size := Heap.lt_size (N2 _ (.head _)).1
    have hTw : L' + 1 + 1 < h1.objs.size := Heap.lt_size (N2 _ (.tail _ (.tail _ (.head _)))).1
    have hTn : ∀ q ∈ news, @LT.lt Nat _ q.1 h1.objs.size := fun q hq => Heap.lt_size (N2 q (.tail _ (.tail _ (.tail _ (.tail _ hq))))).1
    have hTa : L' + 1 + 1 + 1 < h1.objs.size := Heap.lt_size (N2 _ (.tail _ (.head _))).1
    have hTg : L' + 1 < h1.objs.size := Heap.lt_size (N2 _ (.tail _ (.tail _ (.tail _ (.head _))))).1
    have hDa : L' + 1 + 1 + 1 ≠ D1 := off1.1
    have hDw : L' + 1 + 1 ≠ D1 := off1.2.1
    have hDg : L' + 1 ≠ D1 := off1.2.2.1
    clear F1 N1 R1
    try k_fold
    k_steps
    unfold Held
    rename Fr _ _ _ _ => F3
    rename News _ _ _ _ => N3
    refine for_cell (l := lW) (vs := strValues wq) (n₀ := cW) (news := (h1.objs.size, listOf ([D1].map Value.ref).toArray 0) :: (L' + 1 + 1 + 1, oA0) :: (L' + 1, oG0) :: ([(D1, LCg.lst (List.map Value.bool (row0 G.length)))] ++ news)) (TabL G W h1.objs.size (L' + 1 + 1 + 1) (L' + 1 + 1) (L' + 1) oG0 news) (by exact rfl) (by exact rfl) (by exact rfl) rfl F3 dw (fun p hp => N3 p ?_) ?_ ?_ ?_ ?_ ?_ ?_ ?_
    · rcases List.mem_cons.mp hp with rfl | hp
      · exact .tail _ (.tail _ (.tail _ (.head _)))
      rcases List.mem_cons.mp hp with rfl | hp
      · exact .head _
      rcases List.mem_cons.mp hp with rfl | hp
      · exact .tail _ (.tail _ (.head _))
      rcases List.mem_cons.mp hp with rfl | hp
      · exact .tail _ (.tail _ (.tail _ (.tail _ (.head _))))
      rcases List.mem_cons.mp hp with rfl | hp
      · exact .tail _ (.head _)
      · exact .tail _ (.tail _ (.tail _ (.tail _ (.tail _ hp))))
    · intro q hq
      rcases List.mem_cons.mp hq with rfl | hq
      · exact Nat.ne_of_gt hTw
      rcases List.mem_cons.mp hq with rfl | hq
      · exact Nat.succ_ne_self _
      rcases List.mem_cons.mp hq with rfl | hq
      · exact Nat.ne_of_lt (Nat.lt_succ_self _)
      rcases List.mem_cons.mp hq with rfl | hq
      · exact Ne.symm hDw
      · exact Nat.ne_of_lt (Nat.lt_trans (l1 q hq) (Nat.lt_trans (Nat.lt_succ_self _) (Nat.lt_succ_self _)))
    · exact .tail _ (.tail _ (.tail _ (.tail _ mW)))
    · intro Q' E' hq
      exact nameX_L F3 rfl hq
    · refine ⟨[D1], 0, oA0, _, [_], rfl, rfl, da, ?_, ?_⟩
      · intro i b hb
        cases i with
        | zero =>
          obtain rfl : D1 = b := by simpa using hb
          exact ⟨_, .head _⟩
        | succ i => simp at hb
      · intro q hq
        rw [List.mem_singleton.mp hq]
        exact ⟨rfl, Nat.ne_of_lt hTD, Ne.symm hDa, Ne.symm hDw, Ne.symm hDg⟩
    · rintro i n ⟨rs, cT, oA, vA, rl, rfl, _⟩
      exact .tail _ (.tail _ (.tail _ (List.mem_append_right _ mW)))
    · rintro i v n hx tkx I oI oc hv ⟨rs, cT, oA, vA, rl, rfl, hrs, hA, hrows, hrl⟩ hoff hcI hoc Fx Nx
      clear F3 N3
      obtain ⟨b, hbW, tb, rfl⟩ : ∃ b, W[i]? = some b ∧ ∃ t, v = .str (strL b) t := by
        obtain ⟨q, t, rfl, hq⟩ := strs_at hv
        rw [hW, List.getElem?_map] at hq
        obtain ⟨b, hb, rfl⟩ := Option.map_eq_some_iff.mp hq
        exact ⟨b, hb, t, rfl⟩
      have hi1 : i < W.length := (List.getElem?_eq_some_iff.mp hbW).1
      obtain ⟨r0, hr0⟩ : ∃ r0, rs[i]? = some r0 := ⟨_, List.getElem?_eq_getElem (by omega)⟩
      have hr1 : rs.getLast? = some r0 := by rw [List.getLast?_eq_getElem?, hrs]; exact hr0
      have n1 : L' + 1 + 1 ≠ L' + 1 + 1 + 1 := Nat.ne_of_lt (Nat.lt_succ_self _)
      have n2 : h1.objs.size ≠ L' + 1 + 1 + 1 := Nat.ne_of_gt hTa
      have n3 : L' + 1 ≠ L' + 1 + 1 + 1 := Nat.ne_of_lt (Nat.lt_trans (Nat.lt_succ_self _) (Nat.lt_succ_self _))
      have n4 : L' + 1 + 1 ≠ h1.objs.size := Nat.ne_of_lt hTw
      have n5 : L' + 1 + 1 + 1 ≠ h1.objs.size := Nat.ne_of_lt hTa
      have n6 : L' + 1 ≠ h1.objs.size := Nat.ne_of_lt hTg
      have hX1 : ∀ q ∈ rl ++ news ++ [(I, oI)], q.1 ≠ h1.objs.size := by
        intro q hq
        rcases List.mem_append.mp hq with hq | hq
        · rcases List.mem_append.mp hq with hq | hq
          · exact (hrl q hq).2.1
          · exact Nat.ne_of_lt (hTn q hq)
        · rw [List.mem_singleton.mp hq]; exact Ne.symm (hoff _ (.head _)).1
      have hX2 : ∀ q ∈ rl ++ news ++ [(I, oI)], q.1 ≠ L' + 1 + 1 + 1 := by
        intro q hq
        rcases List.mem_append.mp hq with hq | hq
        · rcases List.mem_append.mp hq with hq | hq
          · exact (hrl q hq).2.2.1
          · exact Nat.ne_of_lt (Nat.lt_trans (l1 q hq) (Nat.lt_trans (Nat.lt_trans (Nat.lt_succ_self _) (Nat.lt_succ_self _)) (Nat.lt_succ_self _)))
        · rw [List.mem_singleton.mp hq]; exact Ne.symm (hoff _ (.tail _ (.head _))).1
      simp only [List.cons_append] at Nx
      obtain ⟨cr, hmr⟩ := hrows i r0 hr0
      have hmG : (lG, listOf (strValues gq).toArray cG) ∈ rl ++ news ++ [(I, oI)] := List.mem_append_left _ (List.mem_append_right _ mG)
      have hmR : (r0, listOf ((tabRow G W i).map Value.bool).toArray cr) ∈ rl ++ news ++ [(I, oI)] := List.mem_append_left _ (List.mem_append_left _ hmr)
      try k_fold
      k_steps
      refine item_lastR Nx (.tail _ (.head _)) hr1 ?_
      try k_fold
      k_steps
      · unfold Held
        have hb : b = dotsL := by
          have : (strL b == PySem.Str.ofString "...") = true := by assumption
          exact strL_inj ((eq_of_beq this).trans (by decide +kernel))
        rename Fr _ _ _ _ => F4
        rename News _ _ _ _ => N4
        refine LCg.ListComp_U F4 (by exact rfl) (by decide) rfl (by decide) (by exact rfl) ?_
        try k_fold
        k_steps
        unfold Held
        rename Fr _ _ _ _ => F5
        rename News _ _ _ _ => N5
        rename IsRange _ _ _ _ _ _ _ _ => R5
        refine LCg.CompSrc.range rfl F5 N5 R5 r1 r2 r3 ?_
        intro g5
        refine comp_ind (upTo (nextRow G b (tabRow G W i))) rfl ?_ ?_
        case' refine_2 =>
          intro j v I2 oI2 C2 oC2 D2 m₂ h2 tk2 E' hi hP hC hm F2 N2 off hd2
          obtain ⟨t2, rfl⟩ := hP
          clear F5 N5 R5
          try k_fold
          k_steps
          unfold Held
          rename Fr _ _ _ _ => F6
          rename News _ _ _ _ => N6
          refine in_bools (bs := (tabRow G W i).take j) (by rw [List.map_take]; exact News.isList N6 (.head _)) ?_
          exact LCg.CompEnd.intro F6 N6 _ (fun p hp => .tail _ hp) off trivial ⟨rfl, upTo_step (nextRow_dots hb hi)⟩
        · intro D7 h7 tk7 F7 N7 off7
          rw [upTo_all (nextRow_len _ _ _)] at N7
          have mm1 : D7 ≠ h1.objs.size := Ne.symm off7.2.1
          have mm2 : D7 ≠ L' + 1 + 1 := Ne.symm off7.1
          have mm3 : D7 ≠ L' + 1 + 1 + 1 := Ne.symm off7.2.2.1
          have mm4 : D7 ≠ L' + 1 := Ne.symm off7.2.2.2.1
          clear F5 N5 R5
          try k_fold
          k_steps
          rename Fr _ _ _ _ => F8
          rename News _ _ _ _ => N8
          refine tab_end (vA := some (.ref r0)) F8 N8 (.tail _ (.tail _ (.head _))) (.tail _ (.tail _ (.tail _ (.head _)))) (.tail _ (.tail _ (.tail _ (.tail _ (.head _))))) (.tail _ (.head _)) (.head _) (fun p hp => .tail _ (.tail _ (.tail _ (.tail _ (.tail _ hp))))) ?_ hoc hbW hrs hrows hrl ⟨mm1, mm3, mm2, mm4, ?_⟩ ⟨hoff _ (.head _), hoff _ (.tail _ (.head _)), hoff _ (.tail _ (.tail _ (.head _))), fun p hp => hoff p (.tail _ (.tail _ (.tail _ hp)))⟩
          · assumption
          · exact Ne.symm (off1_mem off7 (I, oI) (.tail _ (.tail _ (.tail _ (.tail _ (List.mem_append_right _ (.head _)))))))
      · unfold Held
        have hb : b ≠ dotsL := by
          rintro rfl
          have : (strL dotsL == PySem.Str.ofString "...") = false := by assumption
          rw [show strL dotsL = PySem.Str.ofString "..." by decide +kernel, beq_self_eq_true] at this
          cases this
        rename Fr _ _ _ _ => F4
        rename News _ _ _ _ => N4
        refine LCg.ListComp_U F4 (by exact rfl) (by decide) rfl (by decide) (by exact rfl) ?_
        try k_fold
        k_steps
        unfold Held
        rename Fr _ _ _ _ => F5
        rename News _ _ _ _ => N5
        rename IsRange _ _ _ _ _ _ _ _ => R5
        refine LCg.CompSrc.range rfl F5 N5 R5 r1 r2 r3 ?_
        intro g5
        refine comp_ind (upTo (nextRow G b (tabRow G W i))) rfl ?_ ?_
        case' refine_2 =>
          intro j v I2 oI2 C2 oC2 D2 m₂ h2 tk2 E' hi hP hC hm F2 N2 off hd2
          obtain ⟨t2, rfl⟩ := hP
          clear F5 N5 R5
          cases j with
          | zero =>
            try k_fold
            k_steps
            unfold Held
            exact LCg.CompEnd.intro F2 N2 _ (fun p hp => hp) off trivial ⟨rfl, upTo_step ((nextRow_word hb hi).trans (by simp))⟩
          | succ j =>
            have hjr : j < (tabRow G W i).length := by rw [tabRow_len]; omega
            have hjg : j < G.length := by omega
            have hxr : ((tabRow G W i).map Value.bool).toArray[((0 : Int) + ((j + 1 : Nat) : Int) - 1).toNat]? = some (.bool ((tabRow G W i)[j])) := by
              have e : ((0 : Int) + ((j + 1 : Nat) : Int) - 1).toNat = j := by omega
              rw [e]; simp [hjr]
            obtain ⟨tg, hxg⟩ : ∃ t, (strValues gq).toArray[((0 : Int) + ((j + 1 : Nat) : Int) - 1).toNat]? = some (.str (strL (G[j])) t) := by
              have e : ((0 : Int) + ((j + 1 : Nat) : Int) - 1).toNat = j := by omega
              have h1 : (gq.map (·.1))[j]? = some (strL (G[j])) := by rw [hG]; simp [hjg]
              rw [List.getElem?_map] at h1
              obtain ⟨q, hq, e1⟩ := Option.map_eq_some_iff.mp h1
              refine ⟨q.2, ?_⟩
              rw [e, ← e1]
              simp [strValues, hq]
            have hnx : (nextRow G b (tabRow G W i))[j + 1]? = some ((tabRow G W i)[j] && (G[j] == b)) := by
              rw [nextRow_word hb hi]
              simp [List.getD_eq_getElem?_getD, hjr, hjg]
            try k_fold
            k_steps
            refine item_at N2 (.tail _ (.tail _ (.tail _ (.tail _ (.tail _ (.tail _ (.tail _ hmR))))))) (by omega) (by omega) hxr ?_
            cases hbv : (tabRow G W i)[j] with
            | false =>
              rw [hbv] at hnx
              try k_fold
              k_steps
              unfold Held
              exact LCg.CompEnd.intro F2 N2 _ (fun p hp => hp) off trivial ⟨rfl, upTo_step (hnx.trans (by simp))⟩
            | true =>
              rw [hbv] at hnx
              try k_fold
              k_steps
              refine item_at N2 (.tail _ (.tail _ (.tail _ (.tail _ (.tail _ (.tail _ (.tail _ hmG))))))) (by omega) (by omega) hxg ?_
              try k_fold
              k_steps
              unfold Held
              refine LCg.CompEnd.intro F2 N2 _ (fun p hp => hp) off trivial ⟨rfl, upTo_step (hnx.trans ?_)⟩
              rw [Bool.true_and, beq_strL]
        · intro D7 h7 tk7 F7 N7 off7
          rw [upTo_all (nextRow_len _ _ _)] at N7
          have mm1 : D7 ≠ h1.objs.size := Ne.symm off7.2.1
          have mm2 : D7 ≠ L' + 1 + 1 := Ne.symm off7.1
          have mm3 : D7 ≠ L' + 1 + 1 + 1 := Ne.symm off7.2.2.1
          have mm4 : D7 ≠ L' + 1 := Ne.symm off7.2.2.2.1
          clear F5 N5 R5
          try k_fold
          k_steps
          rename Fr _ _ _ _ => F8
          rename News _ _ _ _ => N8
          refine tab_end (vA := some (.ref r0)) F8 N8 (.tail _ (.tail _ (.head _))) (.tail _ (.tail _ (.tail _ (.head _)))) (.tail _ (.tail _ (.tail _ (.tail _ (.head _))))) (.tail _ (.head _)) (.head _) (fun p hp => .tail _ (.tail _ (.tail _ (.tail _ (.tail _ hp))))) ?_ hoc hbW hrs hrows hrl ⟨mm1, mm3, mm2, mm4, ?_⟩ ⟨hoff _ (.head _), hoff _ (.tail _ (.head _)), hoff _ (.tail _ (.tail _ (.head _))), fun p hp => hoff p (.tail _ (.tail _ (.tail _ hp)))⟩
          · assumption
          · exact Ne.symm (off1_mem off7 (I, oI) (.tail _ (.tail _ (.tail _ (.tail _ (List.mem_append_right _ (.head _)))))))
    · rintro oc vc n hx tkx ⟨rs, cT, oA, vA, rl, rfl, hrs, hA, hrows, hrl⟩ hoc Fx Nx
      clear F3 N3
      try k_fold
      k_steps
      exact hret _ _ _ _ (by assumption) (fun q hq => (by assumption : News _ _ _ _) q (by
        rcases List.mem_cons.mp hq with rfl | hq
        · exact .tail _ (.head _)
        · exact .tail _ (.tail _ (.tail _ (.tail _ hq))))) ⟨_, cT, rs, rl, rfl, rfl, by rw [hrs, hwl], hrows, fun q hq => (hrl q hq).1⟩
end
end Mine
end

theorem Mine.off_T1 : True := by
  w_top off
  first | walk1 | trivial

-- part L4
section
open PySem PySem.W PyProof.Rows PySem.Calls PySem.Spec
set_option maxRecDepth 100000
namespace Mine
section
variable {prog : Program} {w : World} {A : Around} {E : Value → Shared → Prop} {s : Shared} {h₀ : Heap} {L : Addr} {m : PySem.Str → Option Value} {env : Env}

/-- a comprehension over a range, its element a call that may turn more of the machine than heap and ids (generators): T says the ledger, G the rest, Y the list -/
theorem comp_gens {elt iter : Expr} {x y : PySem.Str} {px py : Pos} {scope : Scope} {cl : List (PySem.Str × Addr)} {pos spos : Pos} {Q : Flow → Shared → Prop} {n : Nat}
    (G : Shared → Prop) (T : List (Addr × Obj) → Prop) (Y : Nat → List Value → Prop) (hLe : env.locals = L) (hh : A.handled = none)
    (hG : ∀ (z : Shared) h tk, G z → G { z with heap := h, toks := tk })
    (hsw : swapsWith (.ListComp elt [⟨.Name x px, iter, [], 0⟩] scope pos) (some (.Name y py)) spos.line env = pure true)
    (hclos : closureFor scope env = pure cl) (hcell : ∀ z ∈ scope.names, z.2 ≠ .cell) (hkind : scope.kind = .function)
    (hnames : ∀ z ∈ scope.names, z.2 = .local → scope.names.lookup z.1 = some .local) (hx : scope.names.lookup x = some .local)
    (hy : env.kindOf y = some .local) (hp : (env.scope.kind == .class || (env.scope.kind == .module && env.locals != env.globals)) = false)
    (hsz : n ≤ sizeLine)
    (h : wpAny (model prog w) A (eval iter env) (fun xv s₁ => ∃ r a b t u v news, xv = .ref r ∧ a = (0 : Int) ∧ Fr h₀ L s₁.heap m ∧ News h₀ L s₁.heap news ∧ T news ∧ G s₁ ∧ IsRange s₁.heap r a b 1 t u v ∧ Builtin.Range.small a b 1 = true ∧ Builtin.Range.rangeSize a b 1 = ((n : Nat) : Int)) (fun _ _ => False) s)
    (h0 : Y 0 [])
    (step : ∀ i t' I oI C oC D m₂ s₁ ys lg, i < n → Y i ys → T lg → G s₁ → LCg.NsObj oC m₂ → m₂ x = some (.int (i : Int) t') → Fr h₀ L s₁.heap m → News h₀ L s₁.heap ((I, oI) :: (C, oC) :: (D, LCg.lst ys) :: lg) → LCg.Off3 I C D lg → ((@Ne Nat I C) ∧ (@Ne Nat I D) ∧ (@Ne Nat C D)) → (∀ p ∈ lg, @LT.lt Nat _ p.1 I) → (@LT.lt Nat _ I C ∧ @LT.lt Nat _ I D) →
      wpAny (model prog w) A (eval elt (compEnvC scope cl C env)) (fun yv s₂ => ∃ lg', T lg' ∧ G s₂ ∧ Fr h₀ L s₂.heap m ∧ News h₀ L s₂.heap ((I, oI) :: (C, oC) :: (D, LCg.lst ys) :: lg') ∧ LCg.Off3 I C D lg' ∧ (∀ p ∈ lg', @LT.lt Nat _ p.1 I) ∧ Y (i + 1) (ys ++ [yv])) (fun _ _ => False) s₁)
    (done : ∀ D ys lg s', Y n ys → T lg → G s' → Fr h₀ L s'.heap (fun z => if z = y then some (.ref D) else m z) → News h₀ L s'.heap ((D, LCg.lst ys) :: lg) → LCg.Off1 D lg → (∀ p ∈ lg, @LT.lt Nat _ p.1 D) → Q .next s')
    (hs : ∀ x, foldedSetIterable iter env x = pure x := by intro _; rfl) :
    wpAny (model prog w) A (exec (.Assign [.Name y py] (.ListComp elt [⟨.Name x px, iter, [], 0⟩] scope pos) spos) env) Q E s := by
  subst hLe
  refine wpAny_noRaise ?_
  rw [exec_Assign_Name_used _ _ _ _ hsw]
  refine wpAny_bind (wpAny_standAt (wpAny_bind ?_))
  show wpAny _ A (do let _ ← comprehension (.ListComp elt [⟨.Name x px, iter, [], 0⟩] scope pos) scope env _ (newList []) false (eval iter env) (some (assign (.Name y py) env))) _ _ s
  refine wpAny_bind (wpAny_mono (wpAny_comprehension_free (use := some (assign (.Name y py) env)) (Q := fun _ s' => Q .next s') rfl hs hclos hkind hnames
    (wpAny_mono h (fun xv s₁ h₁ => ?_) fun _ _ e => e)) (fun _ s' hq => wpAny_pure (wpAny_pure hq)) fun _ _ e => e)
  obtain ⟨r, a, b, t, u, v, news, rfl, rfl, F, N, hT, g1, hr, hsm, hn⟩ := h₁
  refine wpAny_pyIter_range hr hsm ?_
  have hI1 : (s₁.heap.push { cls := .type "range_iterator", data := .fields #[rawInt 0, rawInt (Builtin.Range.rangeSize 0 b 1), rawInt 1] }).get? s₁.heap.objs.size = some { cls := .type "range_iterator", data := .fields #[rawInt 0, rawInt (Builtin.Range.rangeSize 0 b 1), rawInt 1] } := Heap.get?_push_size _ rfl
  have up1 : ∀ b' o, s₁.heap.get? b' = some o → (s₁.heap.push { cls := .type "range_iterator", data := .fields #[rawInt 0, rawInt (Builtin.Range.rangeSize 0 b 1), rawInt 1] }).get? b' = some o := fun b' o e => Heap.get?_push_of_some _ e
  have z1 : (s₁.heap.push { cls := .type "range_iterator", data := .fields #[rawInt 0, rawInt (Builtin.Range.rangeSize 0 b 1), rawInt 1] }).objs.size = s₁.heap.objs.size + 1 := Heap.size_push _ _
  generalize s₁.heap.push { cls := .type "range_iterator", data := .fields #[rawInt 0, rawInt (Builtin.Range.rangeSize 0 b 1), rawInt 1] } = H1 at hI1 up1 z1 ⊢
  refine wpAny_newObj_type (wpAny_newFunctionEnv hcell (by intro y hy; simp at hy) (fun h₁ hns₁ hsb₁ => ?_) hkind)
  dsimp only at hns₁ hsb₁ ⊢
  have hD2 : (H1.push { cls := .type "list", dict := none, data := .seq ([] : List Value).toArray }).get? H1.objs.size = some (LCg.lst []) := Heap.get?_push_size _ rfl
  have up2 : ∀ b' o, H1.get? b' = some o → (H1.push { cls := .type "list", dict := none, data := .seq ([] : List Value).toArray }).get? b' = some o := fun b' o e => Heap.get?_push_of_some _ e
  have z2 : (H1.push { cls := .type "list", dict := none, data := .seq ([] : List Value).toArray }).objs.size = H1.objs.size + 1 := Heap.size_push _ _
  generalize H1.push { cls := .type "list", dict := none, data := .seq ([] : List Value).toArray } = H2 at hD2 up2 z2 hns₁ hsb₁ ⊢
  have hIlt : s₁.heap.objs.size < H1.objs.size := by rw [z1]; exact Nat.lt_succ_self _
  have hDlt : H1.objs.size < H2.objs.size := by rw [z2]; exact Nat.lt_succ_self _
  have hLlt : env.locals < s₁.heap.objs.size := F.ns.lt
  have fresh₀ : ∀ a, s₁.heap.objs.size ≤ a → h₀.get? a = none := fun a ha => Heap.get?_none_of_le (Nat.le_trans (Nat.le_trans F.above (Nat.le_of_lt hLlt)) ha)
  have hI₀ := fresh₀ _ (Nat.le_refl s₁.heap.objs.size)
  have hD₀ := fresh₀ H1.objs.size (Nat.le_of_lt hIlt)
  have hC₀ := fresh₀ H2.objs.size (Nat.le_of_lt (Nat.lt_trans hIlt hDlt))
  have hlg : ∀ p ∈ news, @LT.lt Nat _ p.1 s₁.heap.objs.size := fun p hp => Heap.lt_size (N p hp).1
  have hCu : ∀ b' o, H2.get? b' = some o → h₁.get? b' = some o := fun b' o e => hsb₁.extBut b' o (Nat.ne_of_lt (Heap.lt_size e)) (Heap.get?_push_of_some _ e)
  have old : ∀ b' o, s₁.heap.get? b' = some o → h₁.get? b' = some o := fun b' o e => hCu b' o (up2 b' o (up1 b' o e))
  have hIn : IsRangeIter h₁ s₁.heap.objs.size (0 + ((0 : Nat) : Int) * 1) ((n : Int) - ((0 : Nat) : Int)) 1 := by
    show h₁.get? _ = some _
    rw [hCu _ _ (up2 _ _ hI1), hn]
    simp
  have hDn := hCu _ _ hD2
  generalize hIe : s₁.heap.objs.size = I at *
  generalize hDe : H1.objs.size = D at *
  generalize hCe : H2.objs.size = C at *
  have hCI : I ≠ C := Nat.ne_of_lt (Nat.lt_trans hIlt hDlt)
  have hDI : I ≠ D := Nat.ne_of_lt hIlt
  have hCD : C ≠ D := Nat.ne_of_gt hDlt
  have hCL : C ≠ env.locals := Nat.ne_of_gt (Nat.lt_trans hLlt (Nat.lt_trans hIlt hDlt))
  have hDL : D ≠ env.locals := Nat.ne_of_gt (Nat.lt_trans hLlt hIlt)
  have hIL : I ≠ env.locals := Nat.ne_of_gt hLlt
  have off0 : LCg.Off3 I C D news := LCg.Off3.of fun p hp => ⟨Nat.ne_of_lt (hlg p hp), Nat.ne_of_lt (Nat.lt_trans (hlg p hp) (Nat.lt_trans hIlt hDlt)), Nat.ne_of_lt (Nat.lt_trans (hlg p hp) hIlt)⟩
  have W := LCg.range_walks (prog := prog) (w := w) (I := I) hh 0 n
  have loop : ∀ s₃ : Shared, G s₃ → s₃.heap = h₁ → codeAny (model prog w) A (.compLoop (.ListComp elt [⟨.Name x px, iter, [], 0⟩] scope pos) 0 (.ref I) (.ref D) (compEnvC scope cl C env))
      (compPost (model prog w) A (fun _ _ => False) (some (assign (.Name y py) env)) (fun _ s' => Q .next s') (.ref D) C) s₃ := by
    intro s₃ g3 e3
    refine codeAny_compLoop_tests (fun k s' => ∃ i ys m' lg, i ≤ n ∧ k = n + 1 - i ∧ ys.length = i ∧ Y i ys ∧ T lg ∧ G s' ∧ IsRangeIter s'.heap I (0 + (i : Nat) * 1) ((n : Int) - (i : Nat)) 1 ∧ Fr h₀ env.locals s'.heap m ∧ s'.heap.Ns C m' ∧ News h₀ env.locals s'.heap ((D, LCg.lst ys) :: lg) ∧ LCg.Off3 I C D lg ∧ (∀ p ∈ lg, @LT.lt Nat _ p.1 I)) ?_ (n + 1)
      ⟨0, [], _, news, Nat.zero_le _, rfl, rfl, h0, hT, g3, e3 ▸ hIn, e3 ▸ F.keeps old, e3 ▸ hns₁, fun p hp => ?_, off0, hlg⟩
    · rintro k s' ⟨i, ys, m', lg, hi, rfl, hyl, hY, hT', g', hst', F', hn', N', off', hlt'⟩
      have off3 := off'.mem
      by_cases hlt : i < n
      · refine W.item i _ _ _ hlt hst' fun v h₂ tk₂ hPv hst₂ hk₂ => ?_
        obtain ⟨t', rfl⟩ := hPv
        have hk₂' : ∀ b' o, b' ≠ I → s'.heap.get? b' = some o → h₂.get? b' = some o := fun b' o hb e => hk₂ b' o (by simpa using hb) e
        refine wpAny_assign_Name (wpAny_storeName_local (lookup_relabel_local hx) (hn'.at' fun o e => hk₂' _ o (Ne.symm hCI) e) (fun h₃ hn₃ hs₃ => ?_) (by simp [compEnvC, relabel, hkind]))
        refine wpAny_tests_nil ?_
        simp only [if_true]
        have hst₃ := W.frame _ _ _ hst₂ fun b' hb o e => hs₃.extBut b' o (fun q => by rw [List.mem_singleton.mp hb] at q; exact hCI q) e
        obtain ⟨oC, heC, hoC⟩ := LCg.ns_obj hn₃
        have F₂ : Fr h₀ env.locals h₂ m := ⟨F'.ns.at' fun o e => hk₂' _ o (Ne.symm hIL) e, fun b' o e => hk₂' b' o (fun q => by rw [q, hI₀] at e; cases e) (F'.keep b' o e), F'.above⟩
        have F₃ : Fr h₀ env.locals h₃ m := F₂.change hs₃ hCL hC₀
        have N₂ : News h₀ env.locals h₂ ((D, LCg.lst ys) :: lg) := fun p hp => by
          refine ⟨hk₂' _ _ ?_ (N' p hp).1, (N' p hp).2⟩
          rcases List.mem_cons.mp hp with rfl | hp
          · exact Ne.symm hDI
          · exact (off3 p hp).1
        have N₃ : News h₀ env.locals h₃ ((I, _) :: (C, oC) :: (D, LCg.lst ys) :: lg) := fun p hp => by
          rcases List.mem_cons.mp hp with rfl | hp
          · exact ⟨hst₃, hIL, hI₀⟩
          · rcases List.mem_cons.mp hp with rfl | hp
            · exact ⟨heC, hCL, hC₀⟩
            · refine ⟨hs₃.extBut _ _ ?_ (N₂ p hp).1, (N₂ p hp).2⟩
              rcases List.mem_cons.mp hp with rfl | hp
              · exact Ne.symm hCD
              · exact (off3 p hp).2.1
        have e0 : ((0 : Int) + (i : Int)) = (i : Int) := Int.zero_add _
        refine wpAny_mono (step i t' I _ C oC D _ _ ys lg hlt hY hT' (hG _ _ _ g') hoC (by simp [e0]) F₃ N₃ off' ⟨hCI, hDI, hCD⟩ hlt' ⟨Nat.lt_trans hIlt hDlt, hIlt⟩) (fun yv s₄ h₄ => ?_) fun _ _ e => e.elim
        obtain ⟨lg', hT4, g4, F₄, N₄, off4, hlt4, hY4⟩ := h₄
        have zI := (N₄ (I, _) List.mem_cons_self).1
        have zC := (N₄ (C, oC) (List.mem_cons_of_mem _ List.mem_cons_self)).1
        have zD := (N₄ (D, LCg.lst ys) (List.mem_cons_of_mem _ (List.mem_cons_of_mem _ List.mem_cons_self))).1
        refine append_at (hsz := by show ys.toArray.size ≤ sizeLine; rw [List.size_toArray, hyl]; exact Nat.le_trans hi hsz) zD fun h₅ hs₅ hD₅ => ?_
        have off4m := off4.mem
        refine ⟨n + 1 - (i + 1), by omega, i + 1, ys ++ [yv], _, lg', hlt, rfl, by rw [List.length_append, List.length_singleton, hyl], hY4, hT4, hG s₄ h₅ s₄.toks g4, hs₅.extBut _ _ hDI zI, F₄.change hs₅ hDL hD₀, (hoC.ns zC).sameBut hs₅ hCD, fun p hp => ?_, off4, hlt4⟩
        rcases List.mem_cons.mp hp with rfl | hp
        · exact ⟨hD₅.trans (congrArg some (LCg.lst_snoc ys yv)), hDL, hD₀⟩
        · exact ⟨hs₅.extBut _ _ (off4m p hp).2.2 (N₄ p (List.mem_cons_of_mem _ (List.mem_cons_of_mem _ (List.mem_cons_of_mem _ hp)))).1, (N₄ p (List.mem_cons_of_mem _ (List.mem_cons_of_mem _ (List.mem_cons_of_mem _ hp)))).2⟩
      · obtain rfl : i = n := Nat.le_antisymm hi (Nat.not_lt.mp hlt)
        refine W.done _ _ _ hst' fun h₂ tk₂ hk₂ => ?_
        have hk₂' : ∀ b' o, b' ≠ I → s'.heap.get? b' = some o → h₂.get? b' = some o := fun b' o hb e => hk₂ b' o (by simpa using hb) e
        have F₂ : Fr h₀ env.locals h₂ m := ⟨F'.ns.at' fun o e => hk₂' _ o (Ne.symm hIL) e, fun b' o e => hk₂' b' o (fun q => by rw [q, hI₀] at e; cases e) (F'.keep b' o e), F'.above⟩
        have N₂ : News h₀ env.locals h₂ ((D, LCg.lst ys) :: lg) := fun p hp => by
          refine ⟨hk₂' _ _ ?_ (N' p hp).1, (N' p hp).2⟩
          rcases List.mem_cons.mp hp with rfl | hp
          · exact Ne.symm hDI
          · exact (off3 p hp).1
        show wpAny _ A (assign (.Name y py) env (.ref D)) _ _ _
        refine wpAny_assign_Name (wpAny_storeName_local hy F₂.ns (fun h₃ hn₃ hs₃ => ?_) hp)
        have F₃ : Fr h₀ env.locals h₃ (fun z => if z = y then some (.ref D) else m z) := F₂.set hn₃ hs₃
        refine ⟨m', (hn'.at' fun o e => hk₂' _ o (Ne.symm hCI) e).sameBut hs₃ hCL, fun h₄ hs₄ => ?_⟩
        refine done D ys lg _ hY hT' (hG s' h₄ _ g') (F₃.change hs₄ hCL hC₀) (fun p hp => ?_) off'.one (fun p hp => Nat.lt_trans (hlt' p hp) hIlt)
        refine ⟨hs₄.extBut _ _ ?_ (hs₃.extBut _ _ (N₂ p hp).2.1 (N₂ p hp).1), (N₂ p hp).2⟩
        rcases List.mem_cons.mp hp with rfl | hp
        · exact Ne.symm hCD
        · exact (off3 p hp).2.1
    · rcases List.mem_cons.mp hp with rfl | hp
      · exact e3 ▸ ⟨hDn, hDL, hD₀⟩
      · exact e3 ▸ ⟨old _ _ (N p hp).1, (N p hp).2⟩
  have g1' := hG s₁ h₁ (s₁.toks + ([] : List (PySem.Str × Value)).length) g1
  exact codeAny_compStart_list (loop _ g1' rfl) (W.self 0 _ _ _ hIn (loop _ g1' rfl))
end
end Mine
end

-- part L5
section
open PySem PySem.W PyProof.Rows PySem.Calls PySem.Spec
set_option maxRecDepth 100000
namespace Mine
section
variable {prog : Program} {w : World} {A₀ A : Around} {s : Shared} {base h₀ : Heap} {env : Env} {L : Addr} {m : PySem.Str → Option Value} {news : List (Addr × Obj)} {K : Frag} {p : Program} {loose : List PySem.Str} {mean : ExcName → Option Value} {mg mb : PySem.Str → Option Value}
    {R : Result → Shared → Prop} {name qual : PySem.Str} {params : Arguments} {body : List Stmt} {scope : Scope} {dV kV doc pm cdv ct oc : Value} {an od : Option Addr} {osl : Array (Option Value)} {f : Addr} {args : Args} {binds : List (PySem.Str × Value)}
/-- the entry of a def in which one is caught, from the law's frame, whatever cells it has -/
theorem code_defX0 (B : Below A₀ base [] h₀) (F : Fr h₀ L s.heap m) (X₀ : K.In h₀) (N : News h₀ L s.heap news) (T : Top p loose mean mg mb h₀) (hA : A.frames = some [env]) (hf : env.frame = some L) (hke : env.scope.kind = .function)
    (ho : K.lookup f = some ⟨oc, od, .func (fnOf name qual params body scope dV kV doc pm an cdv ct), osl⟩) (hcd : codeIn K cdv qual = true) (hroom : A.depth < recursionLimit)
    (hbind : BindsTo s (fnOf name qual params body scope dV kV doc pm an cdv ct) args binds) (hloc : ∀ y ∈ binds, scope.names.lookup y.1 = some .local)
    (h : ∀ g L' h₁, Fr h₀ L g m → Fr g L' h₁ (fun y => binds.reverse.lookup y) → News g L' h₁ news → Below A base [env] g → K.In g → Top p loose mean mg mb g → KtsDicts ([env].filterMap (·.frame)) g →
      wpAny (model prog w) (A.deeper (envOf qual scope L' f cdv)) (execs body (envOf qual scope L' f cdv))
        (fun fl s' => LeaveS0 ([env].filterMap (·.frame)) h₀ L m g R (match fl with | .ret v => v | _ => .none) s') (fun _ _ => False)
        { s with heap := h₁, toks := s.toks + binds.length })
    (hco : scope.isCoroutine = false) (hgen : scope.isGenerator = false) (hk : scope.kind = .function)
    (hcell : ∀ x ∈ scope.names, x.2 ≠ .cell) : codeAny (model prog w) A (.call (.ref f) args) R s := by
  have X := X₀.keeps F.keep
  obtain ⟨FG, BG, st, _⟩ := groundX (R := R) B F N hA hf hke
  obtain ⟨oL, es, ep, hLg, hLd, hLk, hLf⟩ := FG.ns
  have nL₀ : h₀.get? L = none := kts_self F
  have hfs : ∀ b, b ∈ [env].filterMap (·.frame) → b = L := fun b hb => by
    obtain ⟨e, he, hfe⟩ := List.mem_filterMap.mp hb
    rw [List.mem_singleton.mp he, hf] at hfe
    exact (Option.some.inj hfe).symm
  refine codeAny_call_def (fd := fnOf name qual params body scope dV kV doc pm an cdv ct) (body := body) (binds := binds) hroom (X _ _ ho) rfl (T.nolimit.keeps F.keep) (codeRec_of X hcd) rfl hbind hcell hloc (fun h₁ hns hk₁ => ?_) hco hgen hk
  refine wpAny_mono (h _ s.heap.objs.size h₁ FG ⟨hns, fun b o e => hk₁ b o (of_hideAll _ e), Nat.le_of_eq (hideAll_size _ _)⟩
    (fun q hq => ⟨hk₁ _ _ (N q hq).1, Nat.ne_of_lt (Heap.lt_size (N q hq).1), hideAll_none _ (List.mem_map_of_mem hq)⟩) BG (X₀.keeps st) (T.keeps st) (fun b hb => by
      rw [hfs b hb]
      exact ⟨oL, es, ep, hLg, hLd⟩)) (fun fl s' hl => ?_) fun _ _ e => e.elim
  obtain ⟨g', L', m', news', T', F', N', k⟩ := hl
  obtain ⟨sl, hs⟩ := T'.up hLg
  refine k ⟨⟨_, es, ep, F'.keep _ _ hs, hLd, hLk, hLf⟩, fun b o e => F'.keep b o (T'.other b o (st b o e) fun q => ?_), F.above⟩ fun q hq => ⟨(N' q hq).1, fun e => ?_, ?_⟩
  · rw [hfs b q, nL₀] at e
    cases e
  · have := (N' q hq).2.2
    rw [e, hs] at this; cases this
  · cases e : h₀.get? q.1 with
    | none => rfl
    | some o =>
      obtain ⟨sl', hs'⟩ := T'.up (st _ _ e)
      have := (N' q hq).2.2
      rw [hs'] at this
      cases this
end
end Mine
end

-- part L6
section
open PySem PySem.W PyProof.Rows PySem.Calls PySem.Spec PySem.SeqAt
set_option maxRecDepth 100000
namespace Mine
section
variable {prog : Program} {w : World} {A : Around} {E : Value → Shared → Prop} {s : Shared}
theorem strs_get {ql : List (PySem.Str × Tok)} {j : Nat} (h : j < (strValues ql).toArray.size) : ∃ q t, (strValues ql).toArray[j] = .str q t ∧ (ql.map (·.1))[j]? = some q := by
  have hj : j < ql.length := by simpa [strValues] using h
  exact ⟨ql[j].1, ql[j].2, by simp [strValues], by simp [hj]⟩
theorem strs_rc {a b : Addr} {xs ys : List (PySem.Str × Tok)} (ha : s.heap.IsList a (strValues xs).toArray) (hb : s.heap.IsList b (strValues ys).toArray) (hu : A.units < cLine) : RcAt A s (.ref a) (.ref b) (xs.map (·.1) == ys.map (·.1)) := by
  have zx : (strValues xs).toArray.size = xs.length := by simp [strValues]
  have zy : (strValues ys).toArray.size = ys.length := by simp [strValues]
  by_cases hz : xs.length = ys.length
  · have key := RcAt.lists (A := A) (e := fun j => (xs.map (·.1))[j]? == (ys.map (·.1))[j]?) ha hb (by rw [zx, zy, hz]) hu (fun j h1 h2 => ?_)
    · have e : (List.range (strValues xs).toArray.size).all (fun j => (xs.map (·.1))[j]? == (ys.map (·.1))[j]?) = (xs.map (·.1) == ys.map (·.1)) := by
        rw [Bool.eq_iff_iff, List.all_eq_true, beq_iff_eq]
        constructor
        · intro h
          apply List.ext_getElem?
          intro j
          by_cases hj : j < xs.length
          · exact beq_iff_eq.mp (h j (List.mem_range.mpr (by rw [zx]; exact hj)))
          · rw [List.getElem?_eq_none (by simpa using hj), List.getElem?_eq_none (by rw [List.length_map]; omega)]
        · intro h j _
          rw [h]; exact beq_self_eq_true _
      rw [e] at key
      exact key
    · obtain ⟨q, t, e1, e2⟩ := strs_get h1
      obtain ⟨q', t', e1', e2'⟩ := strs_get h2
      rw [e1, e1', e2, e2']
      have : ((some q : Option PySem.Str) == some q') = (q.cps.toList == q'.cps.toList) := by
        rw [Bool.eq_iff_iff, beq_iff_eq, beq_iff_eq]
        constructor
        · rintro h; cases h; rfl
        · intro h
          have : q = q' := by cases q; cases q'; simp only [PySem.Str.mk.injEq]; exact Array.toList_inj.mp h
          rw [this]
      rw [this]
      exact fun prog w E Q hq => SeqRoads2.EqGives.str q q' t t' prog w A.in1 E s Q hq
  · have e : (xs.map (·.1) == ys.map (·.1)) = false := by
      rw [beq_eq_false_iff_ne]
      intro h
      exact hz (by simpa using congrArg List.length h)
    rw [e]
    exact RcAt.lists_lengths ha hb (by rw [zx, zy]; exact bne_iff_ne.mpr hz) hu
theorem eq_strs {a b : Addr} {xs ys : List (PySem.Str × Tok)} {Q : Value → Shared → Prop} (ha : s.heap.IsList a (strValues xs).toArray) (hb : s.heap.IsList b (strValues ys).toArray) (hu : A.units < cLine) (h : Q (.bool (xs.map (·.1) == ys.map (·.1))) s) : wpAny (model prog w) A (compareOp .Eq (.ref a) (.ref b)) Q E s :=
  strs_rc ha hb hu prog w E Q h
theorem eq_pairs {a b a1 b1 a2 b2 : Addr} {x1 y1 x2 y2 : List (PySem.Str × Tok)} {Q : Value → Shared → Prop} (ha : s.heap.IsList a #[.ref a1, .ref b1]) (hb : s.heap.IsList b #[.ref a2, .ref b2]) (h1 : s.heap.IsList a1 (strValues x1).toArray) (h2 : s.heap.IsList b1 (strValues y1).toArray) (h3 : s.heap.IsList a2 (strValues x2).toArray) (h4 : s.heap.IsList b2 (strValues y2).toArray)
    (n1 : a1 ≠ a2) (n2 : b1 ≠ b2) (e1 : x1.map (·.1) = x2.map (·.1)) (e2 : y1.map (·.1) = y2.map (·.1)) (hu : A.units < cLine) (hu2 : A.in1.units < cLine) (h : Q (.bool true) s) : wpAny (model prog w) A (compareOp .Eq (.ref a) (.ref b)) Q E s := by
  refine eq_listAt (e := fun _ => true) ha hb rfl hu (fun j g1 g2 => ?_) (by exact h)
  have r1 := EqAt.of_refs (A := A.in1) (s := s) n1 (strs_rc h1 h3 hu2)
  have r2 := EqAt.of_refs (A := A.in1) (s := s) n2 (strs_rc h2 h4 hu2)
  rw [e1, beq_self_eq_true] at r1
  rw [e2, beq_self_eq_true] at r2
  match j, g1, g2 with
  | 0, _, _ => exact r1
  | 1, _, _ => exact r2
  | j + 2, g1, _ => exact absurd (show j + 2 < 2 from g1) (by omega)
end
end Mine
end

-- part X0
section
open PySem PySem.W PyProof.Rows PySem.Calls
set_option maxRecDepth 100000
namespace Mine
theorem post_law {M : Model} {A : Around} {cd : Code} {s s₁ : Shared} {cw : ClaimW} {cl : PySem.Str → Option Addr} {mean : ExcName → Option Value} {args : List WData} (hT : TabsAt [(757, 753)] s₁.heap) (hr : ∀ x, cw.raises args x = false) (hp : cw.post args (.bool true) args = true)
    (h : codeAny M A cd (fun r s' => r = .ok (.ret (.bool true)) ∧ (∀ b o, (ghostOf s₁.heap [(757, 753)]).get? b = some o → s'.heap.get? b = some o) ∧ s'.os = s₁.os ∧ AllBare s'.gens ∧ ∃ ps, s'.heap.get? 753 = some (tabObj ps)) s) :
    codeAny M A cd (GoodWG cw cl mean args s₁) s := by
  refine codeAny_mono h fun r s' => ?_
  rintro ⟨rfl, hk, hos, hg, ps, hP⟩
  have hT1 := hT (757, 753) (.head _)
  have keep : ∀ b o, b ≠ 753 → s₁.heap.get? b = some o → s'.heap.get? b = some o := fun b o hb e => hk b o (ghost_ne e (by simpa using hb))
  refine ⟨.inl ⟨.bool true, .bool true, [], rfl, hr, .bool true, hp, fun _ => ⟨List.nodup_nil, fun _ h => nomatch h⟩⟩, ⟨fun b o e => ?_, fun b o e => ?_⟩, hos, hg⟩
  · by_cases hb : b = 753
    · subst hb
      have e2 := hT1.2
      rw [e] at e2
      cases e2
      exact .inr (.inl ⟨(hT1.1.tab hT1.2).isCodeTable, rfl, #[], ps, rfl, by rw [Array.empty_append]; exact hP⟩)
    · exact .inl (keep b o hb e)
  · by_cases hb : b = 753
    · subst hb; exact ⟨_, hP⟩
    · exact ⟨o, keep b o hb e⟩
theorem ints_pairs : ∀ {vs : List Value} {ns : List Int}, IntsAre vs ns → ∃ xs : List (Int × Tok), vs = xs.map (fun q => Value.int q.1 q.2) ∧ xs.length = ns.length
  | _, _, .nil => ⟨[], rfl, rfl⟩
  | _, _, .cons n t h => by
    obtain ⟨xs, e, hl⟩ := ints_pairs h
    exact ⟨(n, t) :: xs, by rw [e]; rfl, by simp [hl]⟩
end Mine
end

-- part N1
section
open PySem PySem.W PyProof.Rows PySem.Calls
set_option maxRecDepth 100000
namespace Mine

/-- a tree that only reads the written part, but for two objects that it makes -/
noncomputable def two {α : Type} (K : Frag) (S : Setting) (t : Sem α) (D x : Addr) : Option (Obj × Obj × α) := match peekA K S t with
  | some (o1, g) => (match peekA K S (g D) with
    | some (o2, g2) => (match peek K S (g2 x) with
      | some a => some (o1, o2, a)
      | none => none)
    | none => none)
  | none => none

section
variable {w : World} {A : Around} {E : Value → Shared → Prop} {s : Shared} {h₀ : Heap} {L : Addr} {m : PySem.Str → Option Value} {news : List (Addr × Obj)}

theorem wp_two {α : Type} {M : Model} {K : Frag} {t : Sem α} {o1 : Obj} {o2 : Addr → Obj} {a : Addr → Addr → α} {Q : α → Shared → Prop} (F : Fr h₀ L s.heap m) (X₀ : K.In h₀) (N : News h₀ L s.heap news)
    (e : ∀ D x, two K ⟨M.prog, M.w.params⟩ t D x = some (o1, o2 D, a D x)) (f1 : o1.isFreed = false) (f2 : ∀ D, (o2 D).isFreed = false)
    (h : ∀ x dx h', Fr h₀ L h' m → News h₀ L h' ((x, o2 dx) :: (dx, o1) :: news) → (∀ p ∈ news, p.1 < dx) → dx < x → Q (a dx x) { s with heap := h' }) : wpAny M A t Q E s := by
  have split : ∀ D x, ∃ g g2, peekA K ⟨M.prog, M.w.params⟩ t = some (o1, g) ∧ peekA K ⟨M.prog, M.w.params⟩ (g D) = some (o2 D, g2) ∧ peek K ⟨M.prog, M.w.params⟩ (g2 x) = some (a D x) := by
    intro D x
    have := e D x
    unfold two at this
    split at this
    · rename_i p1 g e1
      split at this
      · rename_i p2 g2 e2
        split at this
        · rename_i v e3
          cases this
          exact ⟨g, g2, e1, e2, e3⟩
        · cases this
      · cases this
    · cases this
  obtain ⟨g, _, e1, _, _⟩ := split 0 0
  refine wp_of_peekA F N (X₀.keeps F.keep) f1 _ _ e1 fun h' F' N' l => ?_
  obtain ⟨g', g2, e1', e2, _⟩ := split s.heap.objs.size 0
  rw [e1] at e1'
  cases e1'
  refine wp_of_peekA (s := { s with heap := h' }) F' N' (X₀.keeps F'.keep) (f2 _) _ _ e2 fun h'' F'' N'' l' => ?_
  obtain ⟨g', g2', e1', e2', e3⟩ := split s.heap.objs.size h'.objs.size
  rw [e1] at e1'
  cases e1'
  rw [e2] at e2'
  cases e2'
  exact (Looks.of_peek (X₀.keeps F''.keep) e3).here (h _ _ _ F'' N'' l (l' _ (.head _)))

theorem chk_new {P : Params} {pr : Program} : peek (Mine.hd.heap_1 P) ⟨pr, P⟩ (checkBuiltinCall "object.__new__" ⟨[.ref 604], []⟩) = some () := by kernel_rfl
theorem new_run {P : Params} {pr : Program} (D x : Addr) : two (Mine.hd.heap_1 P) ⟨pr, P⟩ (Builtin.«object.__new__» ⟨[.ref 604], []⟩) D x = some (dictOf [] 0, instObj 604 D, .done (.ret (.ref x))) := by kernel_rfl

theorem new_604 {prog : Program} {Q : Value → Shared → Prop} (F : Fr h₀ L s.heap m) (X₀ : (Mine.hd.heap_1 w.params).In h₀) (N : News h₀ L s.heap news)
    (h : ∀ x dx h', Fr h₀ L h' m → News h₀ L h' ((x, instObj 604 dx) :: (dx, dictOf [] 0) :: news) → (∀ p ∈ news, p.1 < dx) → dx < x → Q (.ref x) { s with heap := h' }) :
    wpAny (model prog w) A (call (.builtin "object.__new__") [.ref 604]) Q E s := by
  refine wpAny_call (codeAny_call_builtin_code (Code.quiet_builtin _ PySem.F.objNew.quiet) ?_)
  refine (Looks.of_peek (r := ()) (X₀.keeps F.keep) (chk_new (pr := prog))).here ?_
  refine codeAny_builtin PySem.F.objNew.entry ?_
  exact wp_two F X₀ N (fun D x => new_run (pr := prog) D x) rfl (fun _ => rfl) fun x dx h' F' N' l l' => h x dx h' F' N' l l'
end
end Mine
end

-- part P3
section
open PySem PySem.W PyProof.Rows PySem.StrLaws
set_option maxRecDepth 100000
namespace Mine
theorem slice_one {b : PySem.Str} {i c : Nat} {j : Int} (hc : b.cps.toList[i]? = some c) (hj : j = (i : Int) + 1) : Txt.slice b (some (i : Int)) (some j) = strL [c] := by
  subst hj
  obtain ⟨hi, e⟩ := List.getElem?_eq_some_iff.mp hc
  show sliceText b (some (i : Int)) (some ((i : Int) + 1)) = _
  rw [sliceText_plain ⟨by omega, by omega, by omega⟩]
  have e1 : ((i : Int)).toNat = i := by omega
  have e2 : ((i : Int) + 1 - (i : Int)).toNat = 1 := by omega
  rw [e1, e2, List.drop_eq_getElem_cons hi, e]
  rfl
theorem slice_cut (l : List Nat) : Txt.slice (strL l ++ PySem.Str.ofString " ") none (some (-1)) = strL l := by
  show sliceText _ none (some (-1)) = _
  rw [show PySem.Str.ofString " " = strL [32] by decide +kernel, strL_append]
  have hl : (strL (l ++ [32])).length = l.length + 1 := by rw [strL_len]; simp
  rw [sliceText_to_neg (by decide) (by rw [hl]; omega), hl, strL_cps]
  have e2 : (-1 + ((l.length + 1 : Nat) : Int) - 0).toNat = l.length := by omega
  rw [e2, List.drop_zero, List.take_left]
  rfl
end Mine
end

-- part N4
section
open PySem PySem.W PyProof.Rows PySem.Calls
set_option maxRecDepth 100000
namespace Mine
section
set_option maxHeartbeats 2000000 in
theorem sio_read (w : World) (p : Program) (loose : List PySem.Str) (mean : ExcName → Option Value) (mg mb : PySem.Str → Option Value) (b : PySem.Str) (ts : Tok) (k1 k2 k3 tn tb tp : Tok) (i c : Nat) (x dx : Nat) (news : List (Addr × Obj)) (hb : b.length ≤ 10000) (hn : ∀ p ∈ news, p.1 ≠ dx) (hxx : dx < x) (hc : b.cps.toList[i]? = some c) (hi : i < b.length) :
    Ctr 6 60 w p loose mean mg mb 550 [.ref x, .int 1 ts] ((x, instObj 604 dx) :: (dx, dictOf (sioE w.params k1 k2 k3 tn tb tp b (i : Int)) 3) :: news) (fun r news' => ∃ t' tp' p', p' = (i : Int) + 1 ∧ r = .str (strL [c]) t' ∧ news' = (x, instObj 604 dx) :: (dx, dictOf (sioE w.params k1 k2 k3 tn tb tp' b p') 3) :: news) := by
  unfold Ctr
  k_fill
  intro dp un gd cn cs a ccd cl outer A₀ base h₀ L m s Q E B F X N T hk hd hu hret
  refine wpAny_noRaise ?_
  refine wpAny_call ?_
  k_dflt k_enter
  refine wpAny_noRaise ?_
  k_steps
  · rw [slice_one hc rfl, slice_cut]
    exact hret _ _ _ _ (by k_asm) (by k_asm) ⟨_, _, _, rfl, rfl, rfl⟩
  · have hj : (b.length : Int) = (i : Int) + 1 := by omega
    rw [slice_one hc hj, slice_cut]
    exact hret _ _ _ _ (by k_asm) (by k_asm) ⟨_, _, _, hj, rfl, rfl⟩

set_option maxHeartbeats 2000000 in
theorem sio_eof (w : World) (p : Program) (loose : List PySem.Str) (mean : ExcName → Option Value) (mg mb : PySem.Str → Option Value) (b : PySem.Str) (ts : Tok) (k1 k2 k3 tn tb tp : Tok) (x dx : Nat) (news : List (Addr × Obj)) (hb : b.length ≤ 10000) (hn : ∀ p ∈ news, p.1 ≠ dx) (hxx : dx < x) :
    Ctr 6 60 w p loose mean mg mb 550 [.ref x, .int 1 ts] ((x, instObj 604 dx) :: (dx, dictOf (sioE w.params k1 k2 k3 tn tb tp b (b.length : Int)) 3) :: news) (fun r news' => ∃ t', r = .str (PySem.Str.ofString "") t' ∧ news' = (x, instObj 604 dx) :: (dx, dictOf (sioE w.params k1 k2 k3 tn tb tp b (b.length : Int)) 3) :: news) := by
  unfold Ctr
  k_fill
  intro dp un gd cn cs a ccd cl outer A₀ base h₀ L m s Q E B F X N T hk hd hu hret
  refine wpAny_noRaise ?_
  refine wpAny_call ?_
  k_dflt k_enter
  refine wpAny_noRaise ?_
  k_steps
  exact hret _ _ _ _ (by k_asm) (by k_asm) ⟨_, rfl, rfl⟩
end
end Mine
end

theorem Mine.off_N4 : True := by
  w_top off
  first | walk1 | trivial

-- part R1
section
open PySem PySem.W PyProof.Rows PySem.Calls
set_option maxRecDepth 100000
namespace Mine
structure Gh where
  (nc : Option Value) (q : Bool) (st : St) (ts : Tok) (ln : Int) (tl : Tok) (tk : List Nat) (tt : Tok) (i : Nat) (tp : Tok)
noncomputable def upR (a : Gh) (m : PySem.Str → Option Value) (z : PySem.Str) : Option Value := if z = PySem.Str.ofString "nextchar" then a.nc else if z = PySem.Str.ofString "quoted" then some (.bool a.q) else m z
noncomputable abbrev RdR (P : Params) (T₀ : LT) (d x dS xS d1 d2 : Nat) (b : PySem.Str) (tb : Tok) (news : List (Addr × Obj)) (out : Option (List Nat)) (st' : St) (rest : List Nat) (a : Gh) (n : List (Addr × Obj)) : Prop := n = lexN P T₀ d x dS xS d1 d2 b tb (stV a.st a.ts) a.ln a.tl (strL a.tk) a.tt a.i a.tp news ∧ a.i ≤ b.length ∧ 1 ≤ a.ln ∧ a.ln ≤ 1 + a.i ∧ a.tk.length ≤ a.i ∧ lexTok a.st a.q a.tk (b.cps.toList.drop a.i) = some (out, st', rest)
noncomputable abbrev RdB (P : Params) (T₀ : LT) (d x dS xS d1 d2 : Nat) (b : PySem.Str) (tb : Tok) (news : List (Addr × Obj)) (out : Option (List Nat)) (st' : St) (rest : List Nat) (a : Gh) (n : List (Addr × Obj)) : Prop := n = lexN P T₀ d x dS xS d1 d2 b tb (stV a.st a.ts) a.ln a.tl (strL a.tk) a.tt a.i a.tp news ∧ a.i ≤ b.length ∧ 1 ≤ a.ln ∧ a.ln ≤ 1 + a.i ∧ a.tk.length ≤ a.i ∧ outOf a.q a.tk = out ∧ a.st = st' ∧ b.cps.toList.drop a.i = rest
theorem up_a {m : PySem.Str → Option Value} {nc v : Option Value} {q : Bool} {z : PySem.Str} : (if z = PySem.Str.ofString "nextchar" then v else if z = PySem.Str.ofString "nextchar" then nc else if z = PySem.Str.ofString "quoted" then some (.bool q) else m z) = (if z = PySem.Str.ofString "nextchar" then v else if z = PySem.Str.ofString "quoted" then some (.bool q) else m z) := by
  by_cases h1 : z = PySem.Str.ofString "nextchar"
  · rw [if_pos h1, if_pos h1]
  · rw [if_neg h1, if_neg h1, if_neg h1]
theorem up_b {m : PySem.Str → Option Value} {nc v : Option Value} {q : Bool} {z : PySem.Str} : (if z = PySem.Str.ofString "quoted" then some (.bool true) else if z = PySem.Str.ofString "nextchar" then v else if z = PySem.Str.ofString "nextchar" then nc else if z = PySem.Str.ofString "quoted" then some (.bool q) else m z) = (if z = PySem.Str.ofString "nextchar" then v else if z = PySem.Str.ofString "quoted" then some (.bool true) else m z) := by
  by_cases h1 : z = PySem.Str.ofString "nextchar"
  · subst h1
    rw [if_neg (by decide +kernel), if_pos rfl, if_pos rfl]
  · by_cases h2 : z = PySem.Str.ofString "quoted"
    · rw [if_pos h2, if_neg h1, if_pos h2]
    · rw [if_neg h2, if_neg h1, if_neg h1, if_neg h2, if_neg h1, if_neg h2]
/-- a turn that ends: on a break too the ledger is told -/
noncomputable def EndB {σ : Type} (μ : σ → Nat) (h₀ : Heap) (L : Addr) (up : σ → PySem.Str → Option Value) (R Rb : σ → List (Addr × Obj) → Prop) (a : σ) (s₁ : Shared) (f : Flow) (s₂ : Shared) : Prop :=
  match f with
  | .ret _ => False
  | .brk => ∃ h' tk m' news' a', s₂ = { s₁ with heap := h', toks := tk } ∧ Fr h₀ L h' m' ∧ (∀ z, m' z = up a' z) ∧ News h₀ L h' news' ∧ Rb a' news'
  | _ => ∃ h' tk m' news' a', s₂ = { s₁ with heap := h', toks := tk } ∧ Fr h₀ L h' m' ∧ (∀ z, m' z = up a' z) ∧ News h₀ L h' news' ∧ R a' news' ∧ μ a' < μ a
section
variable {prog : Program} {w : World} {A : Around} {E : Value → Shared → Prop} {s : Shared} {env : Env} {h₀ : Heap} {test : Expr} {body : List Stmt} {Q : Flow → Shared → Prop}
theorem while_brk {σ : Type} {pos : Pos} (μ : σ → Nat) (up : σ → (PySem.Str → Option Value) → PySem.Str → Option Value) (R Rb : σ → List (Addr × Obj) → Prop) (a₀ : σ) {m₀ : PySem.Str → Option Value} {news : List (Addr × Obj)}
    (hE : PassesOwn (model prog w) A env E) (F : Fr h₀ env.locals s.heap m₀) (N : News h₀ env.locals s.heap news) (h0 : (∀ z, m₀ z = up a₀ m₀ z) ∧ R a₀ news)
    (rest : ∀ a news₁ h tk, Rb a news₁ → Fr h₀ env.locals h (up a m₀) → News h₀ env.locals h news₁ → Q .next { s with heap := h, toks := tk })
    (turn : ∀ a news₁ h tk (q : Flow → Shared → Prop), (∀ f s₂, EndB μ h₀ env.locals (fun a => up a m₀) R Rb a { s with heap := h, toks := tk } f s₂ → q f s₂) → R a news₁ → Fr h₀ env.locals h (up a m₀) → News h₀ env.locals h news₁ →
      wpAny (model prog w) A (isTrue test env (eval test env)) (fun b s₂ => WhlIf b (wpAny (model prog w) A (execs body env) q E s₂) False) E { s with heap := h, toks := tk }) :
    wpAny (model prog w) A (exec (.While test body [] pos) env) Q E s := by
  refine while_ledger μ up R a₀ hE F N h0 fun a news₁ h tk r F₁ N₁ => wpAny_mono (turn a news₁ h tk _ (fun _ _ z => z) r F₁ N₁) (fun b s₂ hb => ?_) fun _ _ z => z
  cases b with
  | false => exact (show False from hb).elim
  | true =>
    refine wpAny_mono (show wpAny (model prog w) A (execs body env) _ E s₂ from hb) (fun f s₃ hf => ?_) fun _ _ z => z
    cases f with
    | ret v => exact (show False from hf).elim
    | brk =>
      obtain ⟨h', tk', m', news', a', rfl, F', hm, N', hr⟩ := hf
      obtain rfl : m' = up a' m₀ := funext hm
      exact rest a' news' h' tk' hr F' N'
    | next => exact hf
    | cont => exact hf
end
section
local macro_rules | `(tactic| walk_at "call ref") => `(tactic| refine held ?_)
local macro_rules | `(tactic| walk_at "ite") => `(tactic| (first | with_reducible refine ite_tt ?_ | with_reducible refine ite_ff ?_ | k_dflt (first | with_reducible refine ite_pos (by assumption) ?_ | with_reducible refine ite_neg (by assumption) ?_ | with_reducible refine ite_neg (ne_of_beq_false' (by assumption)) ?_)))
local macro_rules | `(tactic| walk_at "compareOp In str str") => `(tactic| (k_here; first
  | ((with_reducible show wpAny _ _ (compareOp CmpOp.In (Value.str (strL [_]) _) (Value.str _ _)) _ _ _); k_dflt (first | refine one_no (by first | assumption | exact List.not_mem_nil | decide +kernel) ?_ | refine one_yes (by first | assumption | decide +kernel) ?_ | (refine one_any ?_; intro v9; cases v9)))
  | k_dflt (first | refine lit_no (by decide +kernel) ?_ | refine lit_yes (by decide +kernel) ?_)))
local macro_rules | `(tactic| walk_at "compareOp NotIn str str") => `(tactic| (k_here; k_dflt (refine one_notno (by first | assumption | exact List.not_mem_nil) ?_)))
local macro_rules | `(tactic| walk_at "inplaceOp Add str str") => `(tactic| (k_here; (with_reducible show wpAny _ _ (inplaceOp Operator.Add (Value.str (strL _) _) (Value.str (strL _) _)) _ _ _); k_dflt (refine' iadd_strL ?kAz ?_; (case kAz => first | omega | (simp only [List.length_nil, List.length_cons, List.length_append] at *; omega))); intro _ _))
local macro_rules | `(tactic| walk_at "truthy str") => `(tactic| (k_here; (with_reducible show wpAny _ _ (PySem.truthy (Value.str (strL _) _)) _ _ _); first
  | ((with_reducible show wpAny _ _ (PySem.truthy (Value.str (strL (_ :: _)) _)) _ _ _); k_dflt (refine' truthy_cons ?kTz ?_; (case kTz => first | omega | (simp only [List.length_nil, List.length_cons, List.length_append] at *; omega))))
  | ((with_reducible show wpAny _ _ (PySem.truthy (Value.str (strL []) _)) _ _ _); k_dflt (refine truthy_nil ?_))))
local macro_rules | `(tactic| walk_at "exec If") => `(tactic| (k_here; first | ((with_reducible show wpAny _ _ (exec (Stmt.If (Expr.Compare _ [CmpOp.Is] _ _) _ _ _) _) _ _ _); refine held ?_) | ((with_reducible show wpAny _ _ (exec (Stmt.If (Expr.UnaryOp UnaryOp.Not (Expr.Name _ _) _) _ _ _) _) _ _ _); refine held ?_)))
local macro_rules | `(tactic| walk_at "exec While") => `(tactic| (k_here; refine held ?_))
set_option maxHeartbeats 6000000 in
theorem read_ctr (w : World) (p : Program) (loose : List PySem.Str) (mean : ExcName → Option Value) (mg mb : PySem.Str → Option Value) (T₀ : LT) (d x dS xS d1 d2 : Nat) (b : PySem.Str) (tb : Tok) (st0 st' : St) (ts : Tok) (ln : Int) (tl tt : Tok) (i : Nat) (tp : Tok) (out : Option (List Nat)) (rest : List Nat) (news : List (Addr × Obj))
    (hb : b.length ≤ 10000) (hi : i ≤ b.length) (hln : 1 ≤ ln ∧ ln ≤ 1 + i) (hnS : ∀ p ∈ news, p.1 ≠ dS) (hnD : ∀ p ∈ news, p.1 ≠ d) (hdx : d < x) (hxs : x < dS) (hss : dS < xS) (hs1 : xS < d1) (h12 : d1 < d2)
    (hlex : lexTok st0 false [] (b.cps.toList.drop i) = some (out, st', rest)) :
    Ctr 12 150 w p loose mean mg mb 707 [.ref x] (lexN w.params T₀ d x dS xS d1 d2 b tb (stV st0 ts) ln tl (PySem.Str.ofString "") tt i tp news)
      (fun r news' => ∃ (i' : Nat) (ts' : Tok) (ln' : Int) (tl' tt' tp' t : Tok), r = outV out t ∧ b.cps.toList.drop i' = rest ∧ i' ≤ b.length ∧ 1 ≤ ln' ∧ ln' ≤ 1 + i' ∧ news' = lexN w.params T₀ d x dS xS d1 d2 b tb (stV st' ts') ln' tl' (PySem.Str.ofString "") tt' i' tp' news) := by
  dsimp only [lexN]
  unfold Ctr
  k_fill
  intro dp un gd cn cs a ccd cl outer A₀ base h₀ L m s Q E B F X N T hk hd hu hret
  refine wpAny_noRaise ?_
  refine wpAny_call ?_
  k_dflt k_enter
  refine wpAny_noRaise ?_
  k_steps
  all_goals (unfold Held)
  rename Fr _ _ _ _ => F0
  rename News _ _ _ _ => N0
  refine while_brk (μ := fun a : Gh => b.length - a.i) upR
    (RdR w.params T₀ d x dS xS d1 d2 b tb news out st' rest)
    (RdB w.params T₀ d x dS xS d1 d2 b tb news out st' rest)
    ⟨none, false, st0, ts, ln, tl, [], tt, i, tp⟩ PassesOwn.never F0 N0 ⟨?_, rfl, hi, hln.1, hln.2, Nat.zero_le _, hlex⟩ ?_ ?_
  · intro z
    unfold upR
    by_cases h1 : z = PySem.Str.ofString "nextchar"
    · subst h1; exact rfl
    by_cases h2 : z = PySem.Str.ofString "quoted"
    · subst h2; exact rfl
    simp only [if_neg h1, if_neg h2]
  · rintro ⟨nc, q, sst, sts, sln, stl, stk, stt, si, stp⟩ news₁ h1 tk1 ⟨rfl, hsi, hl1, hl2, htk, ho, rfl, rfl⟩ F1 N1
    unfold upR at F1
    dsimp only at hsi hl1 hl2 htk ho F1 N1
    dsimp only [lexN] at N1
    cases q with
    | false =>
      cases stk with
      | nil =>
        subst ho
        k_steps
        exact hret _ _ _ _ (by k_asm) (by k_asm) ⟨si, sts, sln, _, _, _, 0, rfl, rfl, hsi, hl1, hl2, rfl⟩
      | cons e stl =>
        have hE := ord_cons (e := e) (l := stl)
        subst ho
        k_steps
        exact hret _ _ _ _ (by k_asm) (by k_asm) ⟨si, sts, sln, _, _, _, _, rfl, rfl, hsi, hl1, hl2, rfl⟩
    | true =>
      subst ho
      k_steps
      exact hret _ _ _ _ (by k_asm) (by k_asm) ⟨si, sts, sln, _, _, _, _, rfl, rfl, hsi, hl1, hl2, rfl⟩
  · rintro ⟨nc, q, sst, sts, sln, stl, stk, stt, si, stp⟩ news₁ h1 tk1 qe hq ⟨rfl, hsi, hl1, hl2, htk, hlx⟩ F1 N1
    unfold upR at F1
    dsimp only at hsi hl1 hl2 htk hlx F1 N1
    dsimp only [lexN] at N1
    cases hd0 : b.cps.toList.drop si with
    | nil =>
      rw [hd0] at hlx
      obtain rfl := drop_nil hd0 hsi
      k_steps
      unfold Held
      k_dflt (refine' (sio_eof _ _ _ _ _ _ _ _ _ _ _ _ _ _ _ _ _ ?kBn1 ?kNn1 ?kSn1).use ?k1n1 ?k2n1 ?k3n1 ?k4n1 ?k5n1 ?k6n1 ?k7n1 ?k8n1 ?_; (case k1n1 => k_asm); (case k2n1 => k_asm); (case k3n1 => k_asm); (case k4n1 => k_asm); (case k5n1 => k_asm); (case kBn1 => assumption); (case kSn1 => assumption); (case kNn1 => exact all_ne4 (by omega) (by omega) (by omega) (by omega) (by assumption)); (case k6n1 => first | exact rfl | assumption); (case k7n1 => ktr_room); (case k8n1 => ((have hcL9 := cLine_is); (simp only [units_under_tc, units_in1, units_deeper, Around.mark_units]); (try dsimp only [ktrTop]); omega))); intro r9 h9 tk9 n9 F' N' hpo; obtain ⟨tR, e1, e2⟩ := hpo; subst e1; subst e2
      k_steps
      all_goals (unfold Held)
      rename News _ _ _ _ => N2
      cases sst with
      | fin =>
        cases q
        · cases hlx
          dsimp only [stV] at N2
          refine wpAny_If ?_
          k_steps
          all_goals (refine hq _ _ ?_; (dsimp only [EndB]); (refine' ⟨_, _, _, _, ⟨?ncn2, ?gqn2, (.fin), (0), ?glnn2, ?gtln2, ([]), ?gttn2, (b.length), ?gtpn2⟩, rfl, ?c1n2, ?c2n2, ?c3n2, ⟨?c4n2, ?c5n2, ?c6n2, ?c7n2, ?c8n2, ?c9n2, rfl, ?c10n2⟩⟩); (case c1n2 => k_asm); (case c4n2 => exact rfl); (case c3n2 => first | exact fun p hp => (by k_asm : News _ _ _ _) p hp | exact fun p hp => (by k_asm : News _ _ _ _) p (.tail _ hp)); (case c2n2 => first | exact fun z => up_a | exact fun z => up_b | (intro z; unfold upR; dsimp only; by_cases h1 : z = PySem.Str.ofString "nextchar"; (· subst h1; exact rfl); by_cases h2 : z = PySem.Str.ofString "quoted"; (· subst h2; exact rfl); simp only [if_neg h1, if_neg h2])); (case c5n2 => first | exact q5 | exact hsi | (dsimp only; omega)); (case c6n2 => first | exact hl1 | (dsimp only; omega)); (case c7n2 => first | exact q7 | exact hl2 | (dsimp only; omega)); (case c8n2 => first | exact q8 | exact q9 _ | exact htk | (dsimp only; (try simp only [List.length_append, List.length_cons, List.length_nil]); omega)); (case c9n2 => exact rfl); (case c10n2 => exact hd0))
        · cases hlx
      | word =>
        cases hlx
        dsimp only [stV] at N2
        refine wpAny_If ?_
        k_steps
        all_goals (unfold Held)
        refine wpAny_If ?_
        k_steps
        all_goals (refine hq _ _ ?_; (dsimp only [EndB]); (refine' ⟨_, _, _, _, ⟨?ncn3, ?gqn3, (.fin), (0), ?glnn3, ?gtln3, (stk), ?gttn3, (b.length), ?gtpn3⟩, rfl, ?c1n3, ?c2n3, ?c3n3, ⟨?c4n3, ?c5n3, ?c6n3, ?c7n3, ?c8n3, ?c9n3, rfl, ?c10n3⟩⟩); (case c1n3 => k_asm); (case c4n3 => exact rfl); (case c3n3 => first | exact fun p hp => (by k_asm : News _ _ _ _) p hp | exact fun p hp => (by k_asm : News _ _ _ _) p (.tail _ hp)); (case c2n3 => first | exact fun z => up_a | exact fun z => up_b | (intro z; unfold upR; dsimp only; by_cases h1 : z = PySem.Str.ofString "nextchar"; (· subst h1; exact rfl); by_cases h2 : z = PySem.Str.ofString "quoted"; (· subst h2; exact rfl); simp only [if_neg h1, if_neg h2])); (case c5n3 => first | exact q5 | exact hsi | (dsimp only; omega)); (case c6n3 => first | exact hl1 | (dsimp only; omega)); (case c7n3 => first | exact q7 | exact hl2 | (dsimp only; omega)); (case c8n3 => first | exact q8 | exact q9 _ | exact htk | (dsimp only; (try simp only [List.length_append, List.length_cons, List.length_nil]); omega)); (case c9n3 => exact rfl); (case c10n3 => exact hd0))
      | blank => cases hlx
      | sq => cases hlx
      | dq => cases hlx
    | cons c r =>
      obtain ⟨hc, hi', hd1⟩ := drop_cons hd0
      rw [hd0] at hlx
      have q5 : si + 1 ≤ b.length := hi'
      have q7 : sln ≤ 1 + ((si + 1 : Nat) : Int) := by omega
      have q8 : stk.length ≤ si + 1 := Nat.le_succ_of_le htk
      have q9 : ∀ c, (stk ++ [c]).length ≤ si + 1 := fun c => by rw [List.length_append]; exact Nat.succ_le_succ htk
      have q10 : b.length - (si + 1) < b.length - si := by omega
      by_cases h10 : c = 10
      · subst h10
        cases sst with
        | sq =>
          dsimp only [stV] at N1
          have hlx' : lexTok .sq true (stk ++ [10]) r = some (out, st', rest) := hlx
          have hne := ord_any (x := strL [39]) rfl (show ¬ (10 = 39) by decide)
          k_steps
          unfold Held
          k_dflt (refine' (sio_read _ _ _ _ _ _ _ _ _ _ _ _ _ _ _ _ _ _ _ ?kBn4 ?kNn4 ?kSn4 ?kCn4 ?kIn4).use ?k1n4 ?k2n4 ?k3n4 ?k4n4 ?k5n4 ?k6n4 ?k7n4 ?k8n4 ?_; (case k1n4 => k_asm); (case k2n4 => k_asm); (case k3n4 => k_asm); (case k4n4 => k_asm); (case k5n4 => k_asm); (case kBn4 => assumption); (case kSn4 => assumption); (case kNn4 => exact all_ne4 (by omega) (by omega) (by omega) (by omega) (by assumption)); (case k6n4 => first | exact rfl | assumption); (case k7n4 => ktr_room); (case k8n4 => ((have hcL9 := cLine_is); (simp only [units_under_tc, units_in1, units_deeper, Around.mark_units]); (try dsimp only [ktrTop]); omega)); (case kCn4 => assumption); (case kIn4 => assumption)); intro r9 h9 tk9 n9 F' N' hpo; obtain ⟨tR, tpR, pR, e0, e1, e2⟩ := hpo; subst e0; subst e1; subst e2
          k_steps
          all_goals (unfold Held)
          refine wpAny_If ?_
          k_steps
          all_goals (unfold Held)
          refine wpAny_If ?_
          k_steps
          all_goals (refine hq _ _ ?_; (dsimp only [EndB]); (refine' ⟨_, _, _, _, ⟨?ncn5, (true), (.sq), ?gtsn5, (sln + 1), ?gtln5, (stk ++ [10]), ?gttn5, (si + 1), ?gtpn5⟩, rfl, ?c1n5, ?c2n5, ?c3n5, ⟨?c4n5, ?c5n5, ?c6n5, ?c7n5, ?c8n5, ?c9n5⟩, ?c10n5⟩); (case c1n5 => k_asm); (case c4n5 => exact rfl); (case c3n5 => first | exact fun p hp => (by k_asm : News _ _ _ _) p hp | exact fun p hp => (by k_asm : News _ _ _ _) p (.tail _ hp)); (case c2n5 => first | exact fun z => up_a | exact fun z => up_b | (intro z; unfold upR; dsimp only; by_cases h1 : z = PySem.Str.ofString "nextchar"; (· subst h1; exact rfl); by_cases h2 : z = PySem.Str.ofString "quoted"; (· subst h2; exact rfl); simp only [if_neg h1, if_neg h2])); (case c5n5 => first | exact q5 | exact hsi | (dsimp only; omega)); (case c6n5 => first | exact hl1 | (dsimp only; omega)); (case c7n5 => first | exact q7 | exact hl2 | (dsimp only; omega)); (case c8n5 => first | exact q8 | exact q9 _ | exact htk | (dsimp only; (try simp only [List.length_append, List.length_cons, List.length_nil]); omega)); (case c9n5 => (dsimp only; rw [hd1]; exact hlx')); (case c10n5 => first | exact q10 | (dsimp only; omega)))
        | fin => cases hlx
        | word => exact absurd hlx (by intro e; cases e)
        | blank => exact absurd hlx (by intro e; cases e)
        | dq => exact absurd hlx (by intro e; cases e)
      have hnl := ord_nl h10
      k_steps
      unfold Held
      k_dflt (refine' (sio_read _ _ _ _ _ _ _ _ _ _ _ _ _ _ _ _ _ _ _ ?kBn6 ?kNn6 ?kSn6 ?kCn6 ?kIn6).use ?k1n6 ?k2n6 ?k3n6 ?k4n6 ?k5n6 ?k6n6 ?k7n6 ?k8n6 ?_; (case k1n6 => k_asm); (case k2n6 => k_asm); (case k3n6 => k_asm); (case k4n6 => k_asm); (case k5n6 => k_asm); (case kBn6 => assumption); (case kSn6 => assumption); (case kNn6 => exact all_ne4 (by omega) (by omega) (by omega) (by omega) (by assumption)); (case k6n6 => first | exact rfl | assumption); (case k7n6 => ktr_room); (case k8n6 => ((have hcL9 := cLine_is); (simp only [units_under_tc, units_in1, units_deeper, Around.mark_units]); (try dsimp only [ktrTop]); omega)); (case kCn6 => assumption); (case kIn6 => assumption)); intro r9 h9 tk9 n9 F' N' hpo; obtain ⟨tR, tpR, pR, e0, e1, e2⟩ := hpo; subst e0; subst e1; subst e2
      k_steps
      all_goals (unfold Held)
      rename News _ _ _ _ => N2
      cases sst with
      | fin => cases hlx
      | word =>
        dsimp only [stV] at N2
        refine wpAny_If ?_
        k_steps
        all_goals (unfold Held)
        by_cases h32 : c = 32
        · subst h32
          refine wpAny_If ?_
          rcases q with _ | _ <;> rcases stk with _ | ⟨e, stl⟩
          · exact absurd (show (none : Option (Option (List Nat) × St × List Nat)) = some (out, st', rest) from hlx) (by intro e; cases e)
          · cases (show some (some (e :: stl), St.blank, r) = some (out, st', rest) from hlx)
            have htk2 : stl.length + 1 ≤ si := htk
            k_steps
            all_goals (refine hq _ _ ?_; (dsimp only [EndB]); (refine' ⟨_, _, _, _, ⟨?ncn7, ?gqn7, (.blank), (_), ?glnn7, ?gtln7, (e :: stl), ?gttn7, (si + 1), ?gtpn7⟩, rfl, ?c1n7, ?c2n7, ?c3n7, ⟨?c4n7, ?c5n7, ?c6n7, ?c7n7, ?c8n7, ?c9n7, rfl, ?c10n7⟩⟩); (case c1n7 => k_asm); (case c4n7 => exact rfl); (case c3n7 => first | exact fun p hp => (by k_asm : News _ _ _ _) p hp | exact fun p hp => (by k_asm : News _ _ _ _) p (.tail _ hp)); (case c2n7 => first | exact fun z => up_a | exact fun z => up_b | (intro z; unfold upR; dsimp only; by_cases h1 : z = PySem.Str.ofString "nextchar"; (· subst h1; exact rfl); by_cases h2 : z = PySem.Str.ofString "quoted"; (· subst h2; exact rfl); simp only [if_neg h1, if_neg h2])); (case c5n7 => first | exact q5 | exact hsi | (dsimp only; omega)); (case c6n7 => first | exact hl1 | (dsimp only; omega)); (case c7n7 => first | exact q7 | exact hl2 | (dsimp only; omega)); (case c8n7 => first | exact q8 | exact q9 _ | exact htk | (dsimp only; (try simp only [List.length_append, List.length_cons, List.length_nil]); omega)); (case c9n7 => exact rfl); (case c10n7 => exact hd1))
          · cases (show some (some ([] : List Nat), St.blank, r) = some (out, st', rest) from hlx)
            k_steps
            all_goals (refine hq _ _ ?_; (dsimp only [EndB]); (refine' ⟨_, _, _, _, ⟨?ncn8, ?gqn8, (.blank), (_), ?glnn8, ?gtln8, ([]), ?gttn8, (si + 1), ?gtpn8⟩, rfl, ?c1n8, ?c2n8, ?c3n8, ⟨?c4n8, ?c5n8, ?c6n8, ?c7n8, ?c8n8, ?c9n8, rfl, ?c10n8⟩⟩); (case c1n8 => k_asm); (case c4n8 => exact rfl); (case c3n8 => first | exact fun p hp => (by k_asm : News _ _ _ _) p hp | exact fun p hp => (by k_asm : News _ _ _ _) p (.tail _ hp)); (case c2n8 => first | exact fun z => up_a | exact fun z => up_b | (intro z; unfold upR; dsimp only; by_cases h1 : z = PySem.Str.ofString "nextchar"; (· subst h1; exact rfl); by_cases h2 : z = PySem.Str.ofString "quoted"; (· subst h2; exact rfl); simp only [if_neg h1, if_neg h2])); (case c5n8 => first | exact q5 | exact hsi | (dsimp only; omega)); (case c6n8 => first | exact hl1 | (dsimp only; omega)); (case c7n8 => first | exact q7 | exact hl2 | (dsimp only; omega)); (case c8n8 => first | exact q8 | exact q9 _ | exact htk | (dsimp only; (try simp only [List.length_append, List.length_cons, List.length_nil]); omega)); (case c9n8 => exact rfl); (case c10n8 => exact hd1))
          · cases (show some (some (e :: stl), St.blank, r) = some (out, st', rest) from hlx)
            have htk2 : stl.length + 1 ≤ si := htk
            k_steps
            all_goals (refine hq _ _ ?_; (dsimp only [EndB]); (refine' ⟨_, _, _, _, ⟨?ncn9, ?gqn9, (.blank), (_), ?glnn9, ?gtln9, (e :: stl), ?gttn9, (si + 1), ?gtpn9⟩, rfl, ?c1n9, ?c2n9, ?c3n9, ⟨?c4n9, ?c5n9, ?c6n9, ?c7n9, ?c8n9, ?c9n9, rfl, ?c10n9⟩⟩); (case c1n9 => k_asm); (case c4n9 => exact rfl); (case c3n9 => first | exact fun p hp => (by k_asm : News _ _ _ _) p hp | exact fun p hp => (by k_asm : News _ _ _ _) p (.tail _ hp)); (case c2n9 => first | exact fun z => up_a | exact fun z => up_b | (intro z; unfold upR; dsimp only; by_cases h1 : z = PySem.Str.ofString "nextchar"; (· subst h1; exact rfl); by_cases h2 : z = PySem.Str.ofString "quoted"; (· subst h2; exact rfl); simp only [if_neg h1, if_neg h2])); (case c5n9 => first | exact q5 | exact hsi | (dsimp only; omega)); (case c6n9 => first | exact hl1 | (dsimp only; omega)); (case c7n9 => first | exact q7 | exact hl2 | (dsimp only; omega)); (case c8n9 => first | exact q8 | exact q9 _ | exact htk | (dsimp only; (try simp only [List.length_append, List.length_cons, List.length_nil]); omega)); (case c9n9 => exact rfl); (case c10n9 => exact hd1))
        by_cases h39 : c = 39
        · subst h39
          refine wpAny_If ?_
          k_steps
          all_goals (refine hq _ _ ?_; (dsimp only [EndB]); (refine' ⟨_, _, _, _, ⟨?ncn10, (q), (.sq), ?gtsn10, (sln), ?gtln10, (stk), ?gttn10, (si + 1), ?gtpn10⟩, rfl, ?c1n10, ?c2n10, ?c3n10, ⟨?c4n10, ?c5n10, ?c6n10, ?c7n10, ?c8n10, ?c9n10⟩, ?c10n10⟩); (case c1n10 => k_asm); (case c4n10 => exact rfl); (case c3n10 => first | exact fun p hp => (by k_asm : News _ _ _ _) p hp | exact fun p hp => (by k_asm : News _ _ _ _) p (.tail _ hp)); (case c2n10 => first | exact fun z => up_a | exact fun z => up_b | (intro z; unfold upR; dsimp only; by_cases h1 : z = PySem.Str.ofString "nextchar"; (· subst h1; exact rfl); by_cases h2 : z = PySem.Str.ofString "quoted"; (· subst h2; exact rfl); simp only [if_neg h1, if_neg h2])); (case c5n10 => first | exact q5 | exact hsi | (dsimp only; omega)); (case c6n10 => first | exact hl1 | (dsimp only; omega)); (case c7n10 => first | exact q7 | exact hl2 | (dsimp only; omega)); (case c8n10 => first | exact q8 | exact q9 _ | exact htk | (dsimp only; (try simp only [List.length_append, List.length_cons, List.length_nil]); omega)); (case c9n10 => (dsimp only; rw [hd1]; exact hlx)); (case c10n10 => first | exact q10 | (dsimp only; omega)))
        by_cases h34 : c = 34
        · subst h34
          refine wpAny_If ?_
          k_steps
          all_goals (refine hq _ _ ?_; (dsimp only [EndB]); (refine' ⟨_, _, _, _, ⟨?ncn11, (q), (.dq), ?gtsn11, (sln), ?gtln11, (stk), ?gttn11, (si + 1), ?gtpn11⟩, rfl, ?c1n11, ?c2n11, ?c3n11, ⟨?c4n11, ?c5n11, ?c6n11, ?c7n11, ?c8n11, ?c9n11⟩, ?c10n11⟩); (case c1n11 => k_asm); (case c4n11 => exact rfl); (case c3n11 => first | exact fun p hp => (by k_asm : News _ _ _ _) p hp | exact fun p hp => (by k_asm : News _ _ _ _) p (.tail _ hp)); (case c2n11 => first | exact fun z => up_a | exact fun z => up_b | (intro z; unfold upR; dsimp only; by_cases h1 : z = PySem.Str.ofString "nextchar"; (· subst h1; exact rfl); by_cases h2 : z = PySem.Str.ofString "quoted"; (· subst h2; exact rfl); simp only [if_neg h1, if_neg h2])); (case c5n11 => first | exact q5 | exact hsi | (dsimp only; omega)); (case c6n11 => first | exact hl1 | (dsimp only; omega)); (case c7n11 => first | exact q7 | exact hl2 | (dsimp only; omega)); (case c8n11 => first | exact q8 | exact q9 _ | exact htk | (dsimp only; (try simp only [List.length_append, List.length_cons, List.length_nil]); omega)); (case c9n11 => (dsimp only; rw [hd1]; exact hlx)); (case c10n11 => first | exact q10 | (dsimp only; omega)))
        by_cases hord : ordC c = true
        · have hlx' : lexTok .word q (stk ++ [c]) r = some (out, st', rest) := by
            rw [← hlx]
            simp only [lexTok, if_neg h32, if_neg h39, if_neg h34, if_pos hord]
          have hws := ord_ws hord
          have hqu := ord_qu hord
          have hes := ord_es hord
          refine wpAny_If ?_
          k_steps
          focus (refine hq _ _ ?_; (dsimp only [EndB]); (refine' ⟨_, _, _, _, ⟨?ncn12, (q), (.word), ?gtsn12, (sln), ?gtln12, (stk ++ [c]), ?gttn12, (si + 1), ?gtpn12⟩, rfl, ?c1n12, ?c2n12, ?c3n12, ⟨?c4n12, ?c5n12, ?c6n12, ?c7n12, ?c8n12, ?c9n12⟩, ?c10n12⟩); (case c1n12 => k_asm); (case c4n12 => exact rfl); (case c3n12 => first | exact fun p hp => (by k_asm : News _ _ _ _) p hp | exact fun p hp => (by k_asm : News _ _ _ _) p (.tail _ hp)); (case c2n12 => first | exact fun z => up_a | exact fun z => up_b | (intro z; unfold upR; dsimp only; by_cases h1 : z = PySem.Str.ofString "nextchar"; (· subst h1; exact rfl); by_cases h2 : z = PySem.Str.ofString "quoted"; (· subst h2; exact rfl); simp only [if_neg h1, if_neg h2])); (case c5n12 => first | exact q5 | exact hsi | (dsimp only; omega)); (case c6n12 => first | exact hl1 | (dsimp only; omega)); (case c7n12 => first | exact q7 | exact hl2 | (dsimp only; omega)); (case c8n12 => first | exact q8 | exact q9 _ | exact htk | (dsimp only; (try simp only [List.length_append, List.length_cons, List.length_nil]); omega)); (case c9n12 => (dsimp only; rw [hd1]; exact hlx')); (case c10n12 => first | exact q10 | (dsimp only; omega)))
          all_goals (refine hq _ _ ?_; (dsimp only [EndB]); (refine' ⟨_, _, _, _, ⟨?ncm12, (q), (.word), ?gtsm12, (sln), ?gtlm12, (stk ++ [c]), ?gttm12, (si + 1), ?gtpm12⟩, rfl, ?c1m12, ?c2m12, ?c3m12, ⟨?c4m12, ?c5m12, ?c6m12, ?c7m12, ?c8m12, ?c9m12⟩, ?c10m12⟩); (case c1m12 => k_asm); (case c4m12 => exact rfl); (case c3m12 => first | exact fun p hp => (by k_asm : News _ _ _ _) p hp | exact fun p hp => (by k_asm : News _ _ _ _) p (.tail _ hp)); (case c2m12 => first | exact fun z => up_a | exact fun z => up_b | (intro z; unfold upR; dsimp only; by_cases h1 : z = PySem.Str.ofString "nextchar"; (· subst h1; exact rfl); by_cases h2 : z = PySem.Str.ofString "quoted"; (· subst h2; exact rfl); simp only [if_neg h1, if_neg h2])); (case c5m12 => first | exact q5 | exact hsi | (dsimp only; omega)); (case c6m12 => first | exact hl1 | (dsimp only; omega)); (case c7m12 => first | exact q7 | exact hl2 | (dsimp only; omega)); (case c8m12 => first | exact q8 | exact q9 _ | exact htk | (dsimp only; (try simp only [List.length_append, List.length_cons, List.length_nil]); omega)); (case c9m12 => (dsimp only; rw [hd1]; exact hlx')); (case c10m12 => first | exact q10 | (dsimp only; omega)))
        · exfalso
          simp only [lexTok, if_neg h32, if_neg h39, if_neg h34, if_neg hord] at hlx
          cases hlx
      | blank =>
        dsimp only [stV] at N2
        refine wpAny_If ?_
        k_steps
        all_goals (unfold Held)
        by_cases h39 : c = 39
        · subst h39
          refine wpAny_If ?_
          k_steps
          all_goals (refine hq _ _ ?_; (dsimp only [EndB]); (refine' ⟨_, _, _, _, ⟨?ncn13, (q), (.sq), ?gtsn13, (sln), ?gtln13, (stk), ?gttn13, (si + 1), ?gtpn13⟩, rfl, ?c1n13, ?c2n13, ?c3n13, ⟨?c4n13, ?c5n13, ?c6n13, ?c7n13, ?c8n13, ?c9n13⟩, ?c10n13⟩); (case c1n13 => k_asm); (case c4n13 => exact rfl); (case c3n13 => first | exact fun p hp => (by k_asm : News _ _ _ _) p hp | exact fun p hp => (by k_asm : News _ _ _ _) p (.tail _ hp)); (case c2n13 => first | exact fun z => up_a | exact fun z => up_b | (intro z; unfold upR; dsimp only; by_cases h1 : z = PySem.Str.ofString "nextchar"; (· subst h1; exact rfl); by_cases h2 : z = PySem.Str.ofString "quoted"; (· subst h2; exact rfl); simp only [if_neg h1, if_neg h2])); (case c5n13 => first | exact q5 | exact hsi | (dsimp only; omega)); (case c6n13 => first | exact hl1 | (dsimp only; omega)); (case c7n13 => first | exact q7 | exact hl2 | (dsimp only; omega)); (case c8n13 => first | exact q8 | exact q9 _ | exact htk | (dsimp only; (try simp only [List.length_append, List.length_cons, List.length_nil]); omega)); (case c9n13 => (dsimp only; rw [hd1]; exact hlx)); (case c10n13 => first | exact q10 | (dsimp only; omega)))
        by_cases hord : ordC c = true
        · have hlx' : lexTok .word q [c] r = some (out, st', rest) := by
            rw [← hlx]
            simp only [lexTok, if_neg h39, if_pos hord]
          have hws := ord_ws hord
          have hqu := ord_qu hord
          have hes := ord_es hord
          refine wpAny_If ?_
          k_steps
          focus (refine hq _ _ ?_; (dsimp only [EndB]); (refine' ⟨_, _, _, _, ⟨?ncn14, (q), (.word), ?gtsn14, (sln), ?gtln14, ([c]), ?gttn14, (si + 1), ?gtpn14⟩, rfl, ?c1n14, ?c2n14, ?c3n14, ⟨?c4n14, ?c5n14, ?c6n14, ?c7n14, ?c8n14, ?c9n14⟩, ?c10n14⟩); (case c1n14 => k_asm); (case c4n14 => exact rfl); (case c3n14 => first | exact fun p hp => (by k_asm : News _ _ _ _) p hp | exact fun p hp => (by k_asm : News _ _ _ _) p (.tail _ hp)); (case c2n14 => first | exact fun z => up_a | exact fun z => up_b | (intro z; unfold upR; dsimp only; by_cases h1 : z = PySem.Str.ofString "nextchar"; (· subst h1; exact rfl); by_cases h2 : z = PySem.Str.ofString "quoted"; (· subst h2; exact rfl); simp only [if_neg h1, if_neg h2])); (case c5n14 => first | exact q5 | exact hsi | (dsimp only; omega)); (case c6n14 => first | exact hl1 | (dsimp only; omega)); (case c7n14 => first | exact q7 | exact hl2 | (dsimp only; omega)); (case c8n14 => first | exact q8 | exact q9 _ | exact htk | (dsimp only; (try simp only [List.length_append, List.length_cons, List.length_nil]); omega)); (case c9n14 => (dsimp only; rw [hd1]; exact hlx')); (case c10n14 => first | exact q10 | (dsimp only; omega)))
          all_goals (refine hq _ _ ?_; (dsimp only [EndB]); (refine' ⟨_, _, _, _, ⟨?ncm14, (q), (.word), ?gtsm14, (sln), ?gtlm14, ([c]), ?gttm14, (si + 1), ?gtpm14⟩, rfl, ?c1m14, ?c2m14, ?c3m14, ⟨?c4m14, ?c5m14, ?c6m14, ?c7m14, ?c8m14, ?c9m14⟩, ?c10m14⟩); (case c1m14 => k_asm); (case c4m14 => exact rfl); (case c3m14 => first | exact fun p hp => (by k_asm : News _ _ _ _) p hp | exact fun p hp => (by k_asm : News _ _ _ _) p (.tail _ hp)); (case c2m14 => first | exact fun z => up_a | exact fun z => up_b | (intro z; unfold upR; dsimp only; by_cases h1 : z = PySem.Str.ofString "nextchar"; (· subst h1; exact rfl); by_cases h2 : z = PySem.Str.ofString "quoted"; (· subst h2; exact rfl); simp only [if_neg h1, if_neg h2])); (case c5m14 => first | exact q5 | exact hsi | (dsimp only; omega)); (case c6m14 => first | exact hl1 | (dsimp only; omega)); (case c7m14 => first | exact q7 | exact hl2 | (dsimp only; omega)); (case c8m14 => first | exact q8 | exact q9 _ | exact htk | (dsimp only; (try simp only [List.length_append, List.length_cons, List.length_nil]); omega)); (case c9m14 => (dsimp only; rw [hd1]; exact hlx')); (case c10m14 => first | exact q10 | (dsimp only; omega)))
        · exfalso
          simp only [lexTok, if_neg h39, if_neg hord] at hlx
          cases hlx
      | sq =>
        dsimp only [stV] at N2
        refine wpAny_If ?_
        k_steps
        all_goals (unfold Held)
        by_cases h39 : c = 39
        · subst h39
          refine wpAny_If ?_
          k_steps
          all_goals (refine hq _ _ ?_; (dsimp only [EndB]); (refine' ⟨_, _, _, _, ⟨?ncn15, (true), (.word), ?gtsn15, (sln), ?gtln15, (stk), ?gttn15, (si + 1), ?gtpn15⟩, rfl, ?c1n15, ?c2n15, ?c3n15, ⟨?c4n15, ?c5n15, ?c6n15, ?c7n15, ?c8n15, ?c9n15⟩, ?c10n15⟩); (case c1n15 => k_asm); (case c4n15 => exact rfl); (case c3n15 => first | exact fun p hp => (by k_asm : News _ _ _ _) p hp | exact fun p hp => (by k_asm : News _ _ _ _) p (.tail _ hp)); (case c2n15 => first | exact fun z => up_a | exact fun z => up_b | (intro z; unfold upR; dsimp only; by_cases h1 : z = PySem.Str.ofString "nextchar"; (· subst h1; exact rfl); by_cases h2 : z = PySem.Str.ofString "quoted"; (· subst h2; exact rfl); simp only [if_neg h1, if_neg h2])); (case c5n15 => first | exact q5 | exact hsi | (dsimp only; omega)); (case c6n15 => first | exact hl1 | (dsimp only; omega)); (case c7n15 => first | exact q7 | exact hl2 | (dsimp only; omega)); (case c8n15 => first | exact q8 | exact q9 _ | exact htk | (dsimp only; (try simp only [List.length_append, List.length_cons, List.length_nil]); omega)); (case c9n15 => (dsimp only; rw [hd1]; exact hlx)); (case c10n15 => first | exact q10 | (dsimp only; omega)))
        · have hlx' : lexTok .sq true (stk ++ [c]) r = some (out, st', rest) := by
            rw [← hlx]
            simp only [lexTok, if_neg h39]
          have hne := ord_any (x := strL [39]) rfl h39
          refine wpAny_If ?_
          k_steps
          focus (refine hq _ _ ?_; (dsimp only [EndB]); (refine' ⟨_, _, _, _, ⟨?ncn16, (true), (.sq), ?gtsn16, (sln), ?gtln16, (stk ++ [c]), ?gttn16, (si + 1), ?gtpn16⟩, rfl, ?c1n16, ?c2n16, ?c3n16, ⟨?c4n16, ?c5n16, ?c6n16, ?c7n16, ?c8n16, ?c9n16⟩, ?c10n16⟩); (case c1n16 => k_asm); (case c4n16 => exact rfl); (case c3n16 => first | exact fun p hp => (by k_asm : News _ _ _ _) p hp | exact fun p hp => (by k_asm : News _ _ _ _) p (.tail _ hp)); (case c2n16 => first | exact fun z => up_a | exact fun z => up_b | (intro z; unfold upR; dsimp only; by_cases h1 : z = PySem.Str.ofString "nextchar"; (· subst h1; exact rfl); by_cases h2 : z = PySem.Str.ofString "quoted"; (· subst h2; exact rfl); simp only [if_neg h1, if_neg h2])); (case c5n16 => first | exact q5 | exact hsi | (dsimp only; omega)); (case c6n16 => first | exact hl1 | (dsimp only; omega)); (case c7n16 => first | exact q7 | exact hl2 | (dsimp only; omega)); (case c8n16 => first | exact q8 | exact q9 _ | exact htk | (dsimp only; (try simp only [List.length_append, List.length_cons, List.length_nil]); omega)); (case c9n16 => (dsimp only; rw [hd1]; exact hlx')); (case c10n16 => first | exact q10 | (dsimp only; omega)))
          all_goals (refine hq _ _ ?_; (dsimp only [EndB]); (refine' ⟨_, _, _, _, ⟨?ncm16, (true), (.sq), ?gtsm16, (sln), ?gtlm16, (stk ++ [c]), ?gttm16, (si + 1), ?gtpm16⟩, rfl, ?c1m16, ?c2m16, ?c3m16, ⟨?c4m16, ?c5m16, ?c6m16, ?c7m16, ?c8m16, ?c9m16⟩, ?c10m16⟩); (case c1m16 => k_asm); (case c4m16 => exact rfl); (case c3m16 => first | exact fun p hp => (by k_asm : News _ _ _ _) p hp | exact fun p hp => (by k_asm : News _ _ _ _) p (.tail _ hp)); (case c2m16 => first | exact fun z => up_a | exact fun z => up_b | (intro z; unfold upR; dsimp only; by_cases h1 : z = PySem.Str.ofString "nextchar"; (· subst h1; exact rfl); by_cases h2 : z = PySem.Str.ofString "quoted"; (· subst h2; exact rfl); simp only [if_neg h1, if_neg h2])); (case c5m16 => first | exact q5 | exact hsi | (dsimp only; omega)); (case c6m16 => first | exact hl1 | (dsimp only; omega)); (case c7m16 => first | exact q7 | exact hl2 | (dsimp only; omega)); (case c8m16 => first | exact q8 | exact q9 _ | exact htk | (dsimp only; (try simp only [List.length_append, List.length_cons, List.length_nil]); omega)); (case c9m16 => (dsimp only; rw [hd1]; exact hlx')); (case c10m16 => first | exact q10 | (dsimp only; omega)))
      | dq =>
        dsimp only [stV] at N2
        refine wpAny_If ?_
        k_steps
        all_goals (unfold Held)
        by_cases h34 : c = 34
        · subst h34
          refine wpAny_If ?_
          k_steps
          all_goals (refine hq _ _ ?_; (dsimp only [EndB]); (refine' ⟨_, _, _, _, ⟨?ncn17, (true), (.word), ?gtsn17, (sln), ?gtln17, (stk), ?gttn17, (si + 1), ?gtpn17⟩, rfl, ?c1n17, ?c2n17, ?c3n17, ⟨?c4n17, ?c5n17, ?c6n17, ?c7n17, ?c8n17, ?c9n17⟩, ?c10n17⟩); (case c1n17 => k_asm); (case c4n17 => exact rfl); (case c3n17 => first | exact fun p hp => (by k_asm : News _ _ _ _) p hp | exact fun p hp => (by k_asm : News _ _ _ _) p (.tail _ hp)); (case c2n17 => first | exact fun z => up_a | exact fun z => up_b | (intro z; unfold upR; dsimp only; by_cases h1 : z = PySem.Str.ofString "nextchar"; (· subst h1; exact rfl); by_cases h2 : z = PySem.Str.ofString "quoted"; (· subst h2; exact rfl); simp only [if_neg h1, if_neg h2])); (case c5n17 => first | exact q5 | exact hsi | (dsimp only; omega)); (case c6n17 => first | exact hl1 | (dsimp only; omega)); (case c7n17 => first | exact q7 | exact hl2 | (dsimp only; omega)); (case c8n17 => first | exact q8 | exact q9 _ | exact htk | (dsimp only; (try simp only [List.length_append, List.length_cons, List.length_nil]); omega)); (case c9n17 => (dsimp only; rw [hd1]; exact hlx)); (case c10n17 => first | exact q10 | (dsimp only; omega)))
        by_cases h39 : c = 39
        · subst h39
          refine wpAny_If ?_
          k_steps
          all_goals (refine hq _ _ ?_; (dsimp only [EndB]); (refine' ⟨_, _, _, _, ⟨?ncn18, (true), (.dq), ?gtsn18, (sln), ?gtln18, (stk ++ [39]), ?gttn18, (si + 1), ?gtpn18⟩, rfl, ?c1n18, ?c2n18, ?c3n18, ⟨?c4n18, ?c5n18, ?c6n18, ?c7n18, ?c8n18, ?c9n18⟩, ?c10n18⟩); (case c1n18 => k_asm); (case c4n18 => exact rfl); (case c3n18 => first | exact fun p hp => (by k_asm : News _ _ _ _) p hp | exact fun p hp => (by k_asm : News _ _ _ _) p (.tail _ hp)); (case c2n18 => first | exact fun z => up_a | exact fun z => up_b | (intro z; unfold upR; dsimp only; by_cases h1 : z = PySem.Str.ofString "nextchar"; (· subst h1; exact rfl); by_cases h2 : z = PySem.Str.ofString "quoted"; (· subst h2; exact rfl); simp only [if_neg h1, if_neg h2])); (case c5n18 => first | exact q5 | exact hsi | (dsimp only; omega)); (case c6n18 => first | exact hl1 | (dsimp only; omega)); (case c7n18 => first | exact q7 | exact hl2 | (dsimp only; omega)); (case c8n18 => first | exact q8 | exact q9 _ | exact htk | (dsimp only; (try simp only [List.length_append, List.length_cons, List.length_nil]); omega)); (case c9n18 => (dsimp only; rw [hd1]; exact hlx)); (case c10n18 => first | exact q10 | (dsimp only; omega)))
        · exfalso
          simp only [lexTok, if_neg h34, if_neg h39] at hlx
          cases hlx
end
end Mine
end

theorem Mine.off_R1 : True := by
  w_top off
  first | walk1 | trivial

-- part R2
section
open PySem PySem.W PyProof.Rows PySem.Calls
set_option maxRecDepth 100000
namespace Mine
section
local macro_rules | `(tactic| walk_at "truthy ref") => `(tactic| (k_here; (with_reducible show wpAny _ _ (PySem.truthy (Value.ref _)) _ _ _); k_dflt (refine' dq_truthy ?kD ?_; (case kD => exact (News.get (by k_asm) (by k_mem))))))
local macro_rules | `(tactic| walk_at "call ref") => `(tactic| refine held ?_)
set_option maxHeartbeats 2000000 in
theorem get_ctr (w : World) (p : Program) (loose : List PySem.Str) (mean : ExcName → Option Value) (mg mb : PySem.Str → Option Value) (T₀ : LT) (d x dS xS d1 d2 : Nat) (b : PySem.Str) (tb : Tok) (st0 st' : St) (ts : Tok) (ln : Int) (tl tt : Tok) (i : Nat) (tp : Tok) (out : Option (List Nat)) (rest : List Nat) (news : List (Addr × Obj))
    (hb : b.length ≤ 10000) (hi : i ≤ b.length) (hln : 1 ≤ ln ∧ ln ≤ 1 + i) (hnS : ∀ p ∈ news, p.1 ≠ dS) (hnD : ∀ p ∈ news, p.1 ≠ d) (hdx : d < x) (hxs : x < dS) (hss : dS < xS) (hs1 : xS < d1) (h12 : d1 < d2)
    (hlex : lexTok st0 false [] (b.cps.toList.drop i) = some (out, st', rest)) :
    Ctr 16 180 w p loose mean mg mb 700 [.ref x] (lexN w.params T₀ d x dS xS d1 d2 b tb (stV st0 ts) ln tl (PySem.Str.ofString "") tt i tp news)
      (fun r news' => ∃ (i' : Nat) (ts' : Tok) (ln' : Int) (tl' tt' tp' t : Tok), r = outV out t ∧ b.cps.toList.drop i' = rest ∧ i' ≤ b.length ∧ 1 ≤ ln' ∧ ln' ≤ 1 + i' ∧ news' = lexN w.params T₀ d x dS xS d1 d2 b tb (stV st' ts') ln' tl' (PySem.Str.ofString "") tt' i' tp' news) := by
  dsimp only [lexN]
  unfold Ctr
  k_fill
  intro dp un gd cn cs a ccd cl outer A₀ base h₀ L m s Q E B F X N T hk hd hu hret
  refine wpAny_noRaise ?_
  refine wpAny_call ?_
  k_dflt k_enter
  refine wpAny_noRaise ?_
  cases out with
  | none =>
    k_steps
    unfold Held
    k_dflt (refine' (read_ctr _ _ _ _ _ _ _ _ _ _ _ _ _ _ _ _ _ _ _ _ _ _ _ _ _ _ ?r1n1 ?r2n1 ?r3n1 ?r4n1 ?r5n1 ?r6n1 ?r7n1 ?r8n1 ?r9n1 ?r10n1 ?r11n1).use ?k1n1 ?k2n1 ?k3n1 ?k4n1 ?k5n1 ?k6n1 ?k7n1 ?k8n1 ?_; (case k1n1 => k_asm); (case k2n1 => k_asm); (case k3n1 => k_asm); (case k4n1 => k_asm); (case k5n1 => k_asm); (case r10n1 => assumption); (case r1n1 => assumption); (case r2n1 => assumption); (case r3n1 => assumption); (case r4n1 => assumption); (case r5n1 => assumption); (case r6n1 => assumption); (case r7n1 => assumption); (case r8n1 => assumption); (case r9n1 => assumption); (case r11n1 => assumption); (case k6n1 => first | exact rfl | assumption); (case k7n1 => ktr_room); (case k8n1 => ((have hcL9 := cLine_is); (simp only [units_under_tc, units_in1, units_deeper, Around.mark_units]); (try dsimp only [ktrTop]); omega))); intro r9 h9 tk9 n9 F' N' hpo; obtain ⟨iR, tsR, lnR, tlR, ttR, tpR, tR, e0, e1, e2, e3, e4, e5⟩ := hpo; subst e0; subst e5; (try dsimp only [outV])
    k_steps
    exact hret _ _ _ _ (by k_asm) (by k_asm) ⟨_, _, _, _, _, _, 0, rfl, by assumption, by assumption, by assumption, by assumption, rfl⟩
  | some l =>
    k_steps
    unfold Held
    k_dflt (refine' (read_ctr _ _ _ _ _ _ _ _ _ _ _ _ _ _ _ _ _ _ _ _ _ _ _ _ _ _ ?r1n2 ?r2n2 ?r3n2 ?r4n2 ?r5n2 ?r6n2 ?r7n2 ?r8n2 ?r9n2 ?r10n2 ?r11n2).use ?k1n2 ?k2n2 ?k3n2 ?k4n2 ?k5n2 ?k6n2 ?k7n2 ?k8n2 ?_; (case k1n2 => k_asm); (case k2n2 => k_asm); (case k3n2 => k_asm); (case k4n2 => k_asm); (case k5n2 => k_asm); (case r10n2 => assumption); (case r1n2 => assumption); (case r2n2 => assumption); (case r3n2 => assumption); (case r4n2 => assumption); (case r5n2 => assumption); (case r6n2 => assumption); (case r7n2 => assumption); (case r8n2 => assumption); (case r9n2 => assumption); (case r11n2 => assumption); (case k6n2 => first | exact rfl | assumption); (case k7n2 => ktr_room); (case k8n2 => ((have hcL9 := cLine_is); (simp only [units_under_tc, units_in1, units_deeper, Around.mark_units]); (try dsimp only [ktrTop]); omega))); intro r9 h9 tk9 n9 F' N' hpo; obtain ⟨iR, tsR, lnR, tlR, ttR, tpR, tR, e0, e1, e2, e3, e4, e5⟩ := hpo; subst e0; subst e5; (try dsimp only [outV])
    k_steps
    exact hret _ _ _ _ (by k_asm) (by k_asm) ⟨_, _, _, _, _, _, _, rfl, by assumption, by assumption, by assumption, by assumption, rfl⟩
end
end Mine
end

theorem Mine.off_R2 : True := by
  w_top off
  first | walk1 | trivial

-- part Y0
section
open PySem PySem.W PyProof.Rows PySem.Calls
set_option maxRecDepth 100000
namespace Mine

section
variable {prog : Program} {w : World} {A : Around} {E : Value → Shared → Prop} {s : Shared} {x S : Nat} {J : List PySem.Str → Array Value → Nat → Shared → Prop} {D : Array Value → Nat → Shared → Prop}

theorem extend_loop {R : Result → Shared → Prop} {res : Value} {k : List PySem.Str}
    (hnext : ∀ v rest acc c s, J (v :: rest) acc c s → ∀ Q E, (∀ t s', J rest acc c s' → Q (some (.str v t)) s') → wpAny (model prog w) A.in1 (pyNext (.ref x)) Q E s)
    (hpush : ∀ v rest acc c s, J rest acc c s → s.heap.get? S = some (listOf acc c) ∧ ∃ c', J rest (acc.push v) c' { s with heap := s.heap.update S (Obj.mapSeq (·.push v)) })
    (hdone : ∀ acc c s, J [] acc c s → ∀ Q E, (∀ s', D acc c s' → Q none s') → wpAny (model prog w) A.in1 (pyNext (.ref x)) Q E s)
    (hR : ∀ ql c' s', ql.map (·.1) = k → D (strValues ql).toArray c' s' → R (.ok (.ret res)) s') (hk : k.length ≤ 100000) :
    ∀ (ws : List PySem.Str) (ql : List (PySem.Str × Tok)) (c : Nat) (s : Shared), ql.map (·.1) ++ ws = k → J ws (strValues ql).toArray c s → codeAny (model prog w) A (.builtin "list.extend.loop" ⟨[.ref S, .ref x, res], []⟩) R s := by
  intro ws
  induction ws with
  | nil =>
    intro ql c s hq hJ
    refine codeAny_builtin F.entry_extend_loop ?_
    rw [Around.under_plainId F.plain_extend_loop _]
    show wpAny _ A.in1 (pyNext (.ref x) >>= _) _ _ s
    refine wpAny_bind (hdone _ _ _ hJ _ _ fun s' hD => ?_)
    exact wpAny_pure (hR ql c s' (by simpa using hq) hD)
  | cons v ws ih =>
    intro ql c s hq hJ
    refine codeAny_builtin F.entry_extend_loop ?_
    rw [Around.under_plainId F.plain_extend_loop _]
    show wpAny _ A.in1 (pyNext (.ref x) >>= _) _ _ s
    refine wpAny_bind (hnext _ _ _ _ _ hJ _ _ fun t s' hJ' => ?_)
    obtain ⟨hS, c', hJ''⟩ := hpush (.str v t) _ _ _ _ hJ'
    have hl : (strValues ql).toArray.size < 100001 := by
      have h1 := congrArg List.length hq
      simp only [List.length_append, List.length_map, List.length_cons] at h1
      simp only [strValues, List.size_toArray, List.length_map]
      omega
    show wpAny _ A.in1 (updateSeq S (·.push (.str v t)) >>= _) _ _ _
    refine wpAny_bind ?_
    have e : (strValues ql).toArray.push (.str v t) = (strValues (ql ++ [(v, t)])).toArray := by simp [strValues]
    rw [e] at hJ''
    refine wpAny_updateSeq hS rfl (wpAny_pure ⟨plainId_quiet F.plain_extend_loop _, ih (ql ++ [(v, t)]) c' _ (by simpa using hq) hJ''⟩) ?_ ?_
    · rw [sizeLine_eq]; omega
    · rw [Array.size_push, sizeLine_eq]; omega

end

section
variable {P : Params} {pr : Program}
theorem lx_cls : True := trivial
theorem lx_len : peek (Mine.hd.heap_1 P) ⟨pr, P⟩ (typeLookup (.ref 739) "__len__") = some none := by kernel_rfl
theorem lx_hint : peek (Mine.hd.heap_1 P) ⟨pr, P⟩ (typeLookup (.ref 739) "__length_hint__") = some none := by kernel_rfl
end

section
variable {w : World} {A : Around} {E : Value → Shared → Prop} {s : Shared} {h₀ : Heap} {L : Addr} {m : PySem.Str → Option Value} {news : List (Addr × Obj)} {prog : Program} {x d : Nat}
theorem list_own {Q : Value → Shared → Prop} (F : Fr h₀ L s.heap m) (X₀ : (Mine.hd.heap_1 w.params).In h₀) (N : News h₀ L s.heap news) (hx : (x, instObj 739 d) ∈ news) (hd : ∃ es n, (d, dictOf es n) ∈ news)
    (hiter : ∀ (S c : Nat) h tk, Fr h₀ L h m → News h₀ L h ((S, listOf #[] c) :: news) → (∀ p ∈ news, p.1 < S) → ∀ Q, (∀ h' tk', Fr h₀ L h' m → News h₀ L h' ((S, listOf #[] c) :: news) → Q (.ref x) { s with heap := h', toks := tk' }) → wpAny (model prog w) A.in1.in1 (call (.ref 729) [.ref x]) Q E { s with heap := h, toks := tk })
    (hloop : ∀ (S c : Nat) h tk, Fr h₀ L h m → News h₀ L h ((S, listOf #[] c) :: news) → (∀ p ∈ news, p.1 < S) → codeAny (model prog w) A.in1 (.builtin "list.extend.loop" ⟨[.ref S, .ref x, .none], []⟩) (wants (fun r s₂ => r = .none ∧ Q (.ref S) s₂) E) { s with heap := h, toks := tk }) :
    wpAny (model prog w) A (call (.type "list") [.ref x]) Q E s := by
  refine callType_codes (Q₁ := fun obj s₁ => obj = .ref s.heap.objs.size ∧ s₁ = { s with heap := s.heap.push { cls := .type "list", data := .seq #[] } }) PySem.F.called_list (PySem.F.typeCall_list_1 _) PySem.F.entry_list_init
    (code_list_new _ ⟨rfl, rfl⟩) fun obj s₁ h₁ => ?_
  obtain ⟨rfl, rfl⟩ := h₁
  have F1 := F.push { cls := .type "list", data := .seq #[] }
  have N1 := News.push F N { cls := .type "list", data := .seq #[] } rfl
  have hS : (s.heap.push { cls := .type "list", data := .seq #[] }).get? s.heap.objs.size = some { cls := .type "list", data := .seq #[] } := Heap.get?_push_size _ rfl
  have hlt : ∀ p ∈ news, p.1 < s.heap.objs.size := fun p hp => Heap.lt_size (N p hp).1
  refine ⟨⟨_, hS, rfl⟩, PySem.F.args_list_init_2 _ _, ?_⟩
  have hne : ∀ p ∈ news, p.1 ≠ s.heap.objs.size := fun p hp => Nat.ne_of_lt (hlt p hp)
  obtain ⟨c', hc'⟩ : ∃ c', Obj.mapSeq (fun _ => (#[] : Array Value)) { cls := .type "list", data := .seq #[] } = listOf #[] c' := ⟨_, rfl⟩
  have U := news_upd (pre := []) (f := Obj.mapSeq (fun _ => (#[] : Array Value))) F1 N1 (fun _ hp => nomatch hp) hne hc' rfl
  show wpAny _ A.in1.in1 (do let old ← Builtin.List.listItems (.ref s.heap.objs.size); Builtin.List.listUpdate (.ref s.heap.objs.size) (fun _ => #[]); letGo old.toList.reverse; Builtin.List.listExtendWith (.ref s.heap.objs.size) (.ref x) .none) _ _ _
  refine wpAny_bind ?_
  unfold Builtin.List.listItems
  refine wpAny_bind (wpAny_seqItems hS rfl (wpAny_pure ?_))
  show wpAny _ A.in1.in1 (updateSeq s.heap.objs.size (fun _ => #[]) >>= fun _ => letGo (#[] : Array Value).toList.reverse >>= fun _ => Builtin.List.listExtendWith (.ref s.heap.objs.size) (.ref x) .none) _ _ _
  refine wpAny_bind (wpAny_updateSeq hS rfl ?_)
  refine wpAny_bind (wpAny_letGo ?_)
  obtain ⟨F2, N2⟩ := U
  have hx2 := (N2 _ (.tail _ hx)).1
  obtain ⟨es, n, hdn⟩ := hd
  have X2 := X₀.keeps F2.keep
  unfold Builtin.List.listExtendWith
  have t0 : Looks (model prog w) (((s.heap.push { cls := .type "list", data := .seq #[] })).update s.heap.objs.size (Obj.mapSeq (fun _ => (#[] : Array Value)))) (typeOf (.ref x)) (.ref 739) := (Looks.ld hx2).andThen .now
  refine wpAny_bind (t0.here ?_)
  have h1 : Builtin.List.listSameRef (.ref s.heap.objs.size) (.ref x) = false := by
    have := hne _ hx
    simp only [Builtin.List.listSameRef, beq_eq_false_iff_ne]
    exact Ne.symm this
  have h2 : (Value.ref 739 == Value.type "list") = false := by decide
  have h3 : (Value.ref 739 == Value.type "tuple") = false := by decide
  simp only [h1, h2, h3, Bool.or_false, Bool.false_eq_true, if_false]
  have I : InstAt _ x _ 739 _ := InstAt.of_news N2 (.tail _ hx) (.tail _ hdn)
  refine wpAny_bind (owit_iter F2 X₀ I (f := 729) (by kernel_rfl) (by kernel_rfl) ?_)
  refine hiter _ _ _ _ F2 N2 hlt _ fun h' tk' F3 N3 => ?_
  have I3 : InstAt _ x _ 739 _ := InstAt.of_news N3 (.tail _ hx) (.tail _ hdn)
  refine owit_it F3 X₀ I3 (g := .ref 736) (by kernel_rfl) ?_
  have X3 := X₀.keeps F3.keep
  have hx3 := (N3 _ (.tail _ hx)).1
  have t1 : Looks (model prog w) h' (typeOf (.ref x)) (.ref 739) := (Looks.ld hx3).andThen .now
  refine wpAny_bind (wpAny_holding ?_)
  unfold Builtin.List.listLengthHint
  refine wpAny_bind ((t1.andThen (Looks.of_peek X3 (lx_len (pr := prog)))).here ?_)
  show wpAny _ A.in1.in1 (specialOf (Value.ref x) (Str.ofString "__length_hint__") >>= _) _ _ _
  refine wpAny_bind ((t1.andThen (Looks.of_peek X3 (lx_hint (pr := prog)))).here ?_)
  refine wpAny_pure ?_
  show wpAny _ A.in1.in1 (rule "list.extend.makes-room" >>= fun _ => Builtin.List.listTouch (.ref s.heap.objs.size) >>= fun _ => again (.builtin "list.extend.loop" ⟨[.ref s.heap.objs.size, .ref x, .none], []⟩)) _ _ _
  refine wpAny_bind (wpAny_rule ?_)
  refine wpAny_bind ?_
  show wpAny _ A.in1.in1 (updateSeq s.heap.objs.size (·.push .none) >>= fun _ => updateSeq s.heap.objs.size (·.pop)) _ _ _
  have hS3 := (N3 _ (.head _)).1
  obtain ⟨c4, hc4⟩ : ∃ c4, Obj.mapSeq (·.push Value.none) (listOf #[] c') = listOf #[.none] c4 := ⟨_, rfl⟩
  obtain ⟨F4, N4⟩ := news_upd (pre := []) (f := Obj.mapSeq (·.push Value.none)) F3 N3 (fun _ hp => nomatch hp) hne hc4 rfl
  refine wpAny_bind (wpAny_updateSeq hS3 rfl ?_)
  obtain ⟨c5, hc5⟩ : ∃ c5, Obj.mapSeq (·.pop) (listOf #[.none] c4) = listOf #[] c5 := ⟨_, rfl⟩
  obtain ⟨F5, N5⟩ := news_upd (pre := []) (f := Obj.mapSeq (·.pop)) F4 N4 (fun _ hp => nomatch hp) hne hc5 rfl
  refine wpAny_updateSeq (N4 _ (.head _)).1 rfl ?_
  refine wpAny_pure ⟨plainId_quiet PySem.F.plain_extend_loop _, ?_⟩
  exact hloop _ _ _ _ F5 N5 hlt
end

section
variable {M : Model} {A A₀ : Around} {E : Value → Shared → Prop} {s : Shared} {base g G : Heap} {outer : List Env} {L a e t : Addr} {m : PySem.Str → Option Value} {name : PySem.Str} {scope : Scope} {cd : Value} {vs : List Value} {news : List (Addr × Obj)} {X : String}
theorem owit_stopS {Q : Option Value → Shared → Prop} {cl : List (PySem.Str × Addr)} (R : RaisedS base G (envX name scope L a cd cl :: outer) e (.type X) t vs news s.heap) (hsm : G.UpToSlots s.heap) (K : Below A₀ base outer g) (F : Fr g L G m) (hsub : isSubtype (.type X) (.type "StopIteration") = pure true)
    (k : ∀ g', KtsTurn (outer.filterMap (·.frame)) g g' → Fr g' L s.heap m → Below A₀ base outer g' → News g' L s.heap news → Q none s) : OwitStop M A Q E (.ref e) s := by
  obtain ⟨⟨B, hB, hBG, hl, hfl, _⟩, _⟩ := R
  have hL : B.get? L = none := by
    obtain ⟨_, ⟨L', _, hf, hn', _⟩, _⟩ := hfl.2.2.1
    obtain rfl : L = L' := Option.some.inj hf
    exact hn'
  obtain ⟨g', T, F', K'⟩ := kts_ground (name := name) (scope := scope) (a := a) (cd := cd) K F hBG hfl.1 hsm
  obtain ⟨ob, hob, hobc⟩ := hfl.there
  have hT : s.TypeIs (.ref e) X := (show ∃ o, s.heap.get? e = some o ∧ o.cls = .type X from ⟨ob, hob, hobc⟩)
  unfold OwitStop
  refine wpAny_isInstance hT hsub ?_
  show (if true = true then Q none s else E (.ref e) s)
  rw [if_pos rfl]
  exact k g' T F' K' fun q hq => ⟨hfl.1 _ _ (hl q hq).1, (fun z => by have := (hl q hq).1; rw [z, hL] at this; cases this), T.none_ _ (kts_none F.keep (hl q hq).2.1)⟩
end
end Mine
end

-- part R3
section
open PySem PySem.W PyProof.Rows PySem.Calls
set_option maxRecDepth 100000
namespace Mine
section
local macro_rules | `(tactic| walk_at "call ref") => `(tactic| refine held ?_)

theorem iter_ctr (w : World) (p : Program) (loose : List PySem.Str) (mean : ExcName → Option Value) (mg mb : PySem.Str → Option Value) (x : Nat) (news : List (Addr × Obj)) :
    Ctr 4 60 w p loose mean mg mb 729 [.ref x] news (fun r news' => r = .ref x ∧ news' = news) := by
  unfold Ctr
  k_fill
  intro dp un gd cn cs a ccd cl outer A₀ base h₀ L m s Q E B F X N T hk hd hu hret
  refine wpAny_noRaise ?_
  refine wpAny_call ?_
  k_dflt k_enter
  refine wpAny_noRaise ?_
  k_steps
  exact hret _ _ _ _ (by k_asm) (by k_asm) ⟨rfl, rfl⟩

set_option maxHeartbeats 2000000 in
theorem next_ctr (w : World) (p : Program) (loose : List PySem.Str) (mean : ExcName → Option Value) (mg mb : PySem.Str → Option Value) (T₀ : LT) (d x dS xS d1 d2 : Nat) (b : PySem.Str) (tb : Tok) (st0 st' : St) (ts : Tok) (ln : Int) (tl tt : Tok) (i : Nat) (tp : Tok) (l : List Nat) (rest : List Nat) (news : List (Addr × Obj))
    (hb : b.length ≤ 10000) (hi : i ≤ b.length) (hln : 1 ≤ ln ∧ ln ≤ 1 + i) (hnS : ∀ p ∈ news, p.1 ≠ dS) (hnD : ∀ p ∈ news, p.1 ≠ d) (hdx : d < x) (hxs : x < dS) (hss : dS < xS) (hs1 : xS < d1) (h12 : d1 < d2)
    (hlex : lexTok st0 false [] (b.cps.toList.drop i) = some (some l, st', rest)) :
    Ctr 20 210 w p loose mean mg mb 736 [.ref x] (lexN w.params T₀ d x dS xS d1 d2 b tb (stV st0 ts) ln tl (PySem.Str.ofString "") tt i tp news)
      (fun r news' => ∃ (i' : Nat) (ts' : Tok) (ln' : Int) (tl' tt' tp' t : Tok), r = .str (strL l) t ∧ b.cps.toList.drop i' = rest ∧ i' ≤ b.length ∧ 1 ≤ ln' ∧ ln' ≤ 1 + i' ∧ news' = lexN w.params T₀ d x dS xS d1 d2 b tb (stV st' ts') ln' tl' (PySem.Str.ofString "") tt' i' tp' news) := by
  dsimp only [lexN]
  unfold Ctr
  k_fill
  intro dp un gd cn cs a ccd cl outer A₀ base h₀ L m s Q E B F X N T hk hd hu hret
  refine wpAny_noRaise ?_
  refine wpAny_call ?_
  k_dflt k_enter
  refine wpAny_noRaise ?_
  k_steps
  unfold Held
  k_dflt (refine' (get_ctr _ _ _ _ _ _ _ _ _ _ _ _ _ _ _ _ _ _ _ _ _ _ _ _ _ _ ?r1n1 ?r2n1 ?r3n1 ?r4n1 ?r5n1 ?r6n1 ?r7n1 ?r8n1 ?r9n1 ?r10n1 ?r11n1).use ?k1n1 ?k2n1 ?k3n1 ?k4n1 ?k5n1 ?k6n1 ?k7n1 ?k8n1 ?_; (case k1n1 => k_asm); (case k2n1 => k_asm); (case k3n1 => k_asm); (case k4n1 => k_asm); (case k5n1 => k_asm); (case r11n1 => assumption); (case r1n1 => assumption); (case r2n1 => assumption); (case r3n1 => assumption); (case r4n1 => assumption); (case r5n1 => assumption); (case r6n1 => assumption); (case r7n1 => assumption); (case r8n1 => assumption); (case r9n1 => assumption); (case r10n1 => assumption); (case k6n1 => first | exact rfl | assumption); (case k7n1 => ktr_room); (case k8n1 => ((have hcL9 := cLine_is); (simp only [units_under_tc, units_in1, units_deeper, Around.mark_units]); (try dsimp only [ktrTop]); omega))); intro r9 h9 tk9 n9 F' N' hpo; obtain ⟨iR, tsR, lnR, tlR, ttR, tpR, tR, e0, e1, e2, e3, e4, e5⟩ := hpo; subst e0; subst e5; (try dsimp only [outV])
  k_steps
  exact hret _ _ _ _ (by k_asm) (by k_asm) ⟨_, _, _, _, _, _, _, rfl, by assumption, by assumption, by assumption, by assumption, rfl⟩

local macro_rules | `(tactic| walk_at "leaving ref") => `(tactic| (k_here; (refine' leave_raiseS ?k1 ?k0 ?k2 ?k3 ?_; (case k0 => first | assumption | exact Heap.MadeExc.of (by assumption)); (case k2 => assumption); (case k1 => assumption); (case k3 => k_asm); k_whole; intro h' t' S' R' U'; (try dsimp only at S' R' U' ⊢))))
set_option maxHeartbeats 2000000 in
theorem next_stop (w : World) (p : Program) (loose : List PySem.Str) (mean : ExcName → Option Value) (mg mb : PySem.Str → Option Value) (T₀ : LT) (d x dS xS d1 d2 : Nat) (b : PySem.Str) (tb : Tok) (st0 st' : St) (ts : Tok) (ln : Int) (tl tt : Tok) (i : Nat) (tp : Tok) (rest : List Nat) (news : List (Addr × Obj))
    (hb : b.length ≤ 10000) (hi : i ≤ b.length) (hln : 1 ≤ ln ∧ ln ≤ 1 + i) (hnS : ∀ p ∈ news, p.1 ≠ dS) (hnD : ∀ p ∈ news, p.1 ≠ d) (hdx : d < x) (hxs : x < dS) (hss : dS < xS) (hs1 : xS < d1) (h12 : d1 < d2)
    (hlex : lexTok st0 false [] (b.cps.toList.drop i) = some (none, st', rest))
    (dp un : Nat) (gd : Option (List Code)) (cn : PySem.Str) (cs : Scope) (a : Addr) (ccd : Value) (cl : List (PySem.Str × Addr)) (outer : List Env) (A₀ : Around) (base h₀ : Heap) (L : Addr) (m : PySem.Str → Option Value) (s : Shared) (Q : Option Value → Shared → Prop) (E : Value → Shared → Prop)
    (B : Below A₀ base outer h₀) (F : Fr h₀ L s.heap m) (X : (Mine.hd.heap_1 w.params).In h₀) (N : News h₀ L s.heap (lexN w.params T₀ d x dS xS d1 d2 b tb (stV st0 ts) ln tl (PySem.Str.ofString "") tt i tp news)) (T : Top p loose mean mg mb h₀) (hk : cs.kind = .function) (hd : dp + 20 < recursionLimit) (hu : un + 210 < cLine)
    (hret : ∀ g' h' tk', KtsTurn (outer.filterMap (·.frame)) h₀ g' → Fr g' L h' m → Below A₀ base outer g' → News g' L h' news → Q none { s with heap := h', toks := tk' }) :
    wpAny (model PySem.Challenge.rw_ij0141_01.row.prog w) (ktrTop dp un gd cn cs L a ccd cl outer) (pyNext (.ref x)) Q E s := by
  dsimp only [lexN] at N
  revert dp un gd cn cs a ccd cl outer A₀ base h₀ L m s Q E
  k_fill
  intro dp un gd cn cs a ccd cl outer A₀ base h₀ L m s Q E B F X N T hk hd hu hret
  refine owit_next F X (InstAt.of_news (dx := d) (C := 739) N (.tail _ (.tail _ (.head _))) (.tail _ (.tail _ (.tail _ (.head _))))) (f := 736) (by kernel_rfl) (by kernel_rfl) ?_
  refine wpAny_call ?_
  k_dflt k_enter
  k_steps
  unfold Held
  k_dflt (refine' (get_ctr _ _ _ _ _ _ _ _ _ _ _ _ _ _ _ _ _ _ _ _ _ _ _ _ _ _ ?r1n2 ?r2n2 ?r3n2 ?r4n2 ?r5n2 ?r6n2 ?r7n2 ?r8n2 ?r9n2 ?r10n2 ?r11n2).use ?k1n2 ?k2n2 ?k3n2 ?k4n2 ?k5n2 ?k6n2 ?k7n2 ?k8n2 ?_; (case k1n2 => k_asm); (case k2n2 => k_asm); (case k3n2 => k_asm); (case k4n2 => k_asm); (case k5n2 => k_asm); (case r11n2 => assumption); (case r1n2 => assumption); (case r2n2 => assumption); (case r3n2 => assumption); (case r4n2 => assumption); (case r5n2 => assumption); (case r6n2 => assumption); (case r7n2 => assumption); (case r8n2 => assumption); (case r9n2 => assumption); (case r10n2 => assumption); (case k6n2 => first | exact rfl | assumption); (case k7n2 => ktr_room); (case k8n2 => ((have hcL9 := cLine_is); (simp only [units_under_tc, units_in1, units_deeper, Around.mark_units]); (try dsimp only [ktrTop]); omega))); intro r9 h9 tk9 n9 F' N' hpo; obtain ⟨iR, tsR, lnR, tlR, ttR, tpR, tR, e0, e1, e2, e3, e4, e5⟩ := hpo; subst e0; subst e5; (try dsimp only [outV])
  k_steps
  rename RaisedS _ _ _ _ _ _ _ _ _ => rkX
  refine owit_stopS rkX (by assumption) B (by assumption) (by rw [isSubtype_type]; kernel_rfl) fun g' T' F' K' N' => ?_
  exact hret _ _ _ T' F' K' (fun p hp => N' p (.tail _ (.tail _ (.tail _ (.tail _ (.tail _ (.tail _ hp)))))))
end
end Mine
end

theorem Mine.off_R3 : True := by
  w_top off
  first | walk1 | trivial

-- part R4
section
open PySem PySem.W PyProof.Rows PySem.Calls
set_option maxRecDepth 100000
namespace Mine

/-- the words that the lexer gives from a state on a rest of the line -/
inductive Toks : St → List Nat → List (List Nat) → Prop
  | done {st st' : St} {inp rest : List Nat} (h : lexTok st false [] inp = some (none, st', rest)) : Toks st inp []
  | more {st st' : St} {inp rest l : List Nat} {ws : List (List Nat)} (h : lexTok st false [] inp = some (some l, st', rest)) (t : Toks st' rest ws) : Toks st inp (l :: ws)

theorem news_in {h₀ h : Heap} {L : Addr} {a : Addr × Obj} {pre news : List (Addr × Obj)} (N : News h₀ L h (a :: (pre ++ news))) : News h₀ L h (pre ++ a :: news) := fun p hp => N p (List.perm_middle.mem_iff.mp hp)
theorem news_out {h₀ h : Heap} {L : Addr} {a : Addr × Obj} {pre news : List (Addr × Obj)} (N : News h₀ L h (pre ++ a :: news)) : News h₀ L h (a :: (pre ++ news)) := fun p hp => N p (List.perm_middle.mem_iff.mpr hp)

theorem lexN_ne {P : Params} {T : LT} {d x dS xS d1 d2 S : Nat} {b : PySem.Str} {tb : Tok} {st : Value} {ln : Int} {tl : Tok} {tk : PySem.Str} {tt : Tok} {i : Int} {tp : Tok} {news : List (Addr × Obj)}
    (h : d < S ∧ x < S ∧ dS < S ∧ xS < S ∧ d1 < S ∧ d2 < S) (hn : ∀ p ∈ news, p.1 ≠ S) : ∀ p ∈ lexN P T d x dS xS d1 d2 b tb st ln tl tk tt i tp news, p.1 ≠ S := by
  intro p hp
  rcases List.mem_cons.mp hp with rfl | hp
  · exact Nat.ne_of_lt h.2.2.2.1
  refine all_ne4 (oa := _) (a := dS) (b := x) (c := d) (e := d1) (by omega) (by omega) (by omega) (by omega) ?_ p hp
  intro p hp
  rcases List.mem_cons.mp hp with rfl | hp
  · exact Nat.ne_of_lt h.2.2.2.2.2
  exact hn p hp

set_option maxHeartbeats 2000000 in
theorem lex_list (w : World) (p : Program) (loose : List PySem.Str) (mean : ExcName → Option Value) (mg mb : PySem.Str → Option Value) (T₀ : LT) (d x dS xS d1 d2 : Nat) (b : PySem.Str) (tb : Tok) (st0 : St) (ts : Tok) (ln : Int) (tl tt : Tok) (i : Nat) (tp : Tok) (ws : List (List Nat)) (news : List (Addr × Obj))
    (hb : b.length ≤ 10000) (hi : i ≤ b.length) (hln : 1 ≤ ln ∧ ln ≤ 1 + i) (hnS : ∀ p ∈ news, p.1 ≠ dS) (hnD : ∀ p ∈ news, p.1 ≠ d) (hdx : d < x) (hxs : x < dS) (hss : dS < xS) (hs1 : xS < d1) (h12 : d1 < d2)
    (hT : Toks st0 (b.cps.toList.drop i) ws) (hws : ws.length ≤ 1000)
    (dp un : Nat) (gd : Option (List Code)) (cn : PySem.Str) (cs : Scope) (a : Addr) (ccd : Value) (cl : List (PySem.Str × Addr)) (outer : List Env) (A₀ : Around) (base h₀ : Heap) (L : Addr) (m : PySem.Str → Option Value) (s : Shared) (Q E : Value → Shared → Prop)
    (B : Below A₀ base outer h₀) (F : Fr h₀ L s.heap m) (X : (Mine.hd.heap_1 w.params).In h₀) (N : News h₀ L s.heap (lexN w.params T₀ d x dS xS d1 d2 b tb (stV st0 ts) ln tl (PySem.Str.ofString "") tt i tp news)) (T : Top p loose mean mg mb h₀) (hk : cs.kind = .function) (hd : dp + 24 < recursionLimit) (hu : un + 230 < cLine)
    (hret : ∀ (S c : Nat) ql g' h' tk', ql.map (·.1) = ws.map strL → KtsTurn (outer.filterMap (·.frame)) h₀ g' → Fr g' L h' m → Below A₀ base outer g' → News g' L h' ((S, listOf (strValues ql).toArray c) :: news) → (∀ p ∈ news, p.1 < S) → Q (.ref S) { s with heap := h', toks := tk' }) :
    wpAny (model PySem.Challenge.rw_ij0141_01.row.prog w) (ktrTop dp un gd cn cs L a ccd cl outer) (call (.type "list") [.ref x]) Q E s := by
  refine list_own F X N (d := d) (.tail _ (.tail _ (.head _))) ⟨_, _, .tail _ (.tail _ (.tail _ (.head _)))⟩ ?_ ?_
  · intro S c h tk F' N' hlt Q' hQ'
    refine iter_ctr w p loose mean mg mb x ((S, listOf #[] c) :: lexN w.params T₀ d x dS xS d1 d2 b tb (stV st0 ts) ln tl (PySem.Str.ofString "") tt i tp news) _ _ _ _ _ _ _ _ _ _ _ _ _ _ _ _ _ B F' X N' T hk (by dsimp only [ktrTop]; omega) (by dsimp only [ktrTop]; omega) ?_
    rintro _ h' tk' _ F'' N'' ⟨rfl, rfl⟩
    exact hQ' h' tk' F'' N''
  · intro S c h tk F' N' hlt
    have hS : d < S ∧ x < S ∧ dS < S ∧ xS < S ∧ d1 < S ∧ d2 < S := ⟨hlt _ (.tail _ (.tail _ (.tail _ (.head _)))), hlt _ (.tail _ (.tail _ (.head _))), hlt _ (.tail _ (.head _)), hlt _ (.head _), hlt _ (.tail _ (.tail _ (.tail _ (.tail _ (.head _))))), hlt _ (.tail _ (.tail _ (.tail _ (.tail _ (.tail _ (.head _))))))⟩
    have hltn : ∀ p ∈ news, p.1 < S := fun p hp => hlt p (.tail _ (.tail _ (.tail _ (.tail _ (.tail _ (.tail _ hp))))))
    have hnen : ∀ p ∈ news, p.1 ≠ S := fun p hp => Nat.ne_of_lt (hltn p hp)
    refine extend_loop (S := S) (k := ws.map strL)
      (J := fun vs acc c s' => ∃ (st : St) (ts : Tok) (ln : Int) (tl tt : Tok) (i : Nat) (tp : Tok) (h : Heap) (tk : Nat) (ws' : List (List Nat)), s' = { s with heap := h, toks := tk } ∧ vs = ws'.map strL ∧ Toks st (b.cps.toList.drop i) ws' ∧ i ≤ b.length ∧ 1 ≤ ln ∧ ln ≤ 1 + i ∧ Fr h₀ L h m ∧ News h₀ L h ((S, listOf acc c) :: lexN w.params T₀ d x dS xS d1 d2 b tb (stV st ts) ln tl (PySem.Str.ofString "") tt i tp news))
      (D := fun acc c s' => ∃ (g' h : Heap) (tk : Nat), s' = { s with heap := h, toks := tk } ∧ KtsTurn (outer.filterMap (·.frame)) h₀ g' ∧ Fr g' L h m ∧ Below A₀ base outer g' ∧ News g' L h ((S, listOf acc c) :: news))
      ?_ ?_ ?_ ?_ (by simpa using Nat.le_trans hws (by omega)) (ws.map strL) [] c _ rfl ⟨st0, ts, ln, tl, tt, i, tp, h, tk, ws, rfl, rfl, hT, hi, hln.1, hln.2, F', N'⟩
    · rintro v rest acc c s' ⟨st, ts, ln, tl, tt, i, tp, h, tk, ws', rfl, hv, hTk, hi, hl1, hl2, F1, N1⟩ Q1 E1 hQ1
      cases hTk with
      | done _ => cases hv
      | more hlx hTk' =>
        rename_i l ws''
        obtain ⟨rfl, rfl⟩ := List.cons.inj hv
        refine owit_next F1 X (InstAt.of_news (dx := d) (C := 739) N1 (.tail _ (.tail _ (.tail _ (.head _)))) (.tail _ (.tail _ (.tail _ (.tail _ (.head _)))))) (f := 736) (by kernel_rfl) (by kernel_rfl) ?_
        have N1' : News h₀ L h (lexN w.params T₀ d x dS xS d1 d2 b tb (stV st ts) ln tl (PySem.Str.ofString "") tt i tp ((S, listOf acc c) :: news)) := news_in (pre := [_, _, _, _, _, _]) N1
        refine next_ctr w p loose mean mg mb T₀ d x dS xS d1 d2 b tb st _ ts ln tl tt i tp l _ ((S, listOf acc c) :: news) hb hi ⟨hl1, hl2⟩ ?_ ?_ hdx hxs hss hs1 h12 hlx _ _ _ _ _ _ _ _ _ _ _ _ _ _ _ _ _ B F1 X N1' T hk (by dsimp only [ktrTop]; omega) (by dsimp only [ktrTop]; omega) ?_
        · intro p hp
          rcases List.mem_cons.mp hp with rfl | hp
          · exact Nat.ne_of_gt hS.2.2.1
          · exact hnS p hp
        · intro p hp
          rcases List.mem_cons.mp hp with rfl | hp
          · exact Nat.ne_of_gt hS.1
          · exact hnD p hp
        rintro _ h' tk' _ F2 N2 ⟨i', ts', ln', tl', tt', tp', t, rfl, hd', hi', hl1', hl2', rfl⟩
        refine hQ1 t _ ⟨_, ts', ln', tl', tt', i', tp', h', tk', ws'', rfl, rfl, hd'.symm ▸ hTk', hi', hl1', hl2', F2, news_out (pre := [_, _, _, _, _, _]) N2⟩
    · rintro v rest acc c s' ⟨st, ts, ln, tl, tt, i, tp, h, tk, ws', rfl, hv, hTk, hi, hl1, hl2, F1, N1⟩
      refine ⟨(N1 _ (.head _)).1, ?_⟩
      obtain ⟨c', hc'⟩ : ∃ c', Obj.mapSeq (·.push v) (listOf acc c) = listOf (acc.push v) c' := ⟨_, rfl⟩
      have U := news_upd (pre := []) (f := Obj.mapSeq (·.push v)) F1 N1 (fun _ hp => nomatch hp) (lexN_ne hS hnen) hc' rfl
      exact ⟨c', st, ts, ln, tl, tt, i, tp, _, tk, ws', rfl, hv, hTk, hi, hl1, hl2, U.1, U.2⟩
    · rintro acc c s' ⟨st, ts, ln, tl, tt, i, tp, h, tk, ws', rfl, hv, hTk, hi, hl1, hl2, F1, N1⟩ Q1 E1 hQ1
      cases hTk with
      | more _ _ => cases hv
      | done hlx =>
        have N1' : News h₀ L h (lexN w.params T₀ d x dS xS d1 d2 b tb (stV st ts) ln tl (PySem.Str.ofString "") tt i tp ((S, listOf acc c) :: news)) := news_in (pre := [_, _, _, _, _, _]) N1
        refine next_stop w p loose mean mg mb T₀ d x dS xS d1 d2 b tb st _ ts ln tl tt i tp _ ((S, listOf acc c) :: news) hb hi ⟨hl1, hl2⟩ ?_ ?_ hdx hxs hss hs1 h12 hlx _ _ _ _ _ _ _ _ _ _ _ _ _ _ _ _ _ B F1 X N1' T hk (by dsimp only [ktrTop]; omega) (by dsimp only [ktrTop]; omega) ?_
        · intro p hp
          rcases List.mem_cons.mp hp with rfl | hp
          · exact Nat.ne_of_gt hS.2.2.1
          · exact hnS p hp
        · intro p hp
          rcases List.mem_cons.mp hp with rfl | hp
          · exact Nat.ne_of_gt hS.1
          · exact hnD p hp
        intro g' h' tk' hK F2 B2 N2
        exact hQ1 _ ⟨g', h', tk', rfl, hK, F2, B2, N2⟩
    · rintro ql c' s' hq ⟨g', h', tk', rfl, hK, F2, B2, N2⟩
      exact ⟨rfl, hret S c' ql g' h' tk' hq hK F2 B2 N2 hltn⟩
end Mine
end

-- part N2
section
open PySem PySem.W PyProof.Rows PySem.Calls
set_option maxRecDepth 100000
namespace Mine
section
local macro_rules | `(tactic| walk_at "call builtin:object.__new__") => `(tactic| (k_here; k_dflt (refine' new_604 ?kF ?kX ?kN ?_; (case kF => k_asm); (case kX => k_asm); (case kN => k_asm); k_whole); intro x' dx' h' F' N' l1 l2))
set_option maxHeartbeats 2000000 in
theorem sio_new (w : World) (p : Program) (loose : List PySem.Str) (mean : ExcName → Option Value) (mg mb : PySem.Str → Option Value) (b : PySem.Str) (t : Tok) (news : List (Addr × Obj)) :
    Ctr 6 60 w p loose mean mg mb 97 [.ref 604, .str b t] news (fun r news' => ∃ x dx, r = .ref x ∧ news' = (x, instObj 604 dx) :: (dx, dictOf [] 0) :: news ∧ (∀ p ∈ news, p.1 < dx) ∧ dx < x) := by
  unfold Ctr
  k_fill
  intro dp un gd cn cs a ccd cl outer A₀ base h₀ L m s Q E B F X N T hk hd hu hret
  refine wpAny_noRaise ?_
  refine wpAny_call ?_
  k_dflt (refine' kp_both ?k1 ?k2 ?k3 ?k4 ?k5 ?kA ?kF ?kK ?k6 ?k7 ?k8 ?kV ?kX ?kQ ?kM ?kN ?kD ?kR ?kP ?kS ?kT ?kB ?_ ?c2 ?c3 ?c4 ?c5; (case kA => exact rfl); (case kF => exact rfl); (case kK => assumption); (case k1 => k_asm); (case k2 => k_asm); (case k3 => k_asm); (case k4 => k_asm); (case k5 => k_asm); (case k6 => k_is); (case k7 => k_is); (case k8 => ktr_room); (case kV => kp_lit); (case kX => kp_lit); (case kQ => exact rfl); (case kM => exact rfl); (case kN => exact rfl); (case kD => kp_flats); (case kR => exact rfl); (case kP => exact rfl); (case kS => exact fun _ => rfl); (case kT => exact fun _ _ => rfl); (case kB => exact fun _ _ => locs rfl); (case c5 => decide); (case c2 => exact rfl); (case c3 => exact rfl); (case c4 => exact rfl); k_whole)
  intro C' D' o' g' L' h' tk' l1 l2 lo' hs' fs' FG' F' N' B' X' T'
  dsimp only
  refine wpAny_noRaise ?_
  k_steps
  rename (∀ _ ∈ (D', o') :: _, _) => hlt
  rename _ < _ => hxx
  refine hret _ _ _ _ (by k_asm) (fun p hp => ?_) ⟨_, _, rfl, rfl, fun p hp => hlt p (.tail _ (.tail _ hp)), hxx⟩
  refine (by k_asm : News _ _ _ _) p ?_
  rcases List.mem_cons.mp hp with e | hp
  · exact e ▸ .head _
  · rcases List.mem_cons.mp hp with e | hp
    · exact e ▸ .tail _ (.head _)
    · exact .tail _ (.tail _ (.tail _ (.tail _ hp)))
end
end Mine
end

theorem Mine.off_N2 : True := by
  w_top off
  first | walk1 | trivial

-- part N3
section
open PySem PySem.W PyProof.Rows PySem.Calls
set_option maxRecDepth 100000
namespace Mine
section
set_option maxHeartbeats 2000000 in
theorem sio_init (w : World) (p : Program) (loose : List PySem.Str) (mean : ExcName → Option Value) (mg mb : PySem.Str → Option Value) (b : PySem.Str) (t : Tok) (x dx : Nat) (news : List (Addr × Obj)) (hb : b.length ≤ 10000) (hn : ∀ p ∈ news, p.1 ≠ dx) (hxx : dx < x) :
    Ctr 6 60 w p loose mean mg mb 374 [.ref x, .str b t] ((x, instObj 604 dx) :: (dx, dictOf [] 0) :: news) (fun r news' => r = .none ∧ ∃ k1 k2 k3 tn tb tp, news' = (x, instObj 604 dx) :: (dx, dictOf (sioE w.params k1 k2 k3 tn tb tp b 0) 3) :: news) := by
  unfold Ctr
  k_fill
  intro dp un gd cn cs a ccd cl outer A₀ base h₀ L m s Q E B F X N T hk hd hu hret
  refine wpAny_noRaise ?_
  refine wpAny_call ?_
  k_dflt k_enter
  refine wpAny_noRaise ?_
  k_steps
  exact hret _ _ _ _ (by k_asm) (by k_asm) ⟨rfl, _, _, _, _, _, _, rfl⟩
end
end Mine
end

theorem Mine.off_N3 : True := by
  w_top off
  first | walk1 | trivial

-- part N5
section

open PySem PySem.W PyProof.Rows PySem.Calls
set_option maxRecDepth 100000
namespace Mine
section
variable {P : Params} {pr : Program}
theorem sio_any {b : PySem.Str} {t : Tok} : peek (Mine.hd.heap_1 P) ⟨pr, P⟩ (callAny (.ref 604) ⟨[.str b t], []⟩) = some (.again (.call (.builtin "type.__call__") ⟨[.ref 604, .str b t], []⟩)) := by kernel_rfl
theorem sio_chk {b : PySem.Str} {t : Tok} : peek (Mine.hd.heap_1 P) ⟨pr, P⟩ (checkBuiltinCall "type.__call__" ⟨[.ref 604, .str b t], []⟩) = some () := by kernel_rfl
theorem sio_made : peek (Mine.hd.heap_1 P) ⟨pr, P⟩ (Bind.madeBy (.ref 604)) = some none := by kernel_rfl
theorem sio_mro : peek (Mine.hd.heap_1 P) ⟨pr, P⟩ (mroOf (.ref 604)) = some [.ref 604, .ref 127, .ref 100, .type "object"] := by kernel_rfl
theorem sio_self : peek (Mine.hd.heap_1 P) ⟨pr, P⟩ (isSubtype (.ref 604) (.ref 604)) = some true := by kernel_rfl
theorem sio_look : peek (Mine.hd.heap_1 P) ⟨pr, P⟩ (typeLookup (.ref 604) "__init__") = some (some (.ref 374)) := by kernel_rfl
theorem sio_bind (x : Value) : peek (Mine.hd.heap_1 P) ⟨pr, P⟩ (bindSpecial (.ref 374) x) = some (.ref 374, [x]) := by kernel_rfl
end

set_option maxHeartbeats 2000000 in
theorem sio_call (w : World) (p : Program) (loose : List PySem.Str) (mean : ExcName → Option Value) (mg mb : PySem.Str → Option Value) (b : PySem.Str) (t : Tok) (news : List (Addr × Obj)) (hb : b.length ≤ 10000) :
    Ctr 12 100 w p loose mean mg mb 604 [.str b t] news (fun r news' => ∃ (x dx : Nat) (k1 k2 k3 tn tb tp : Tok), r = .ref x ∧ news' = (x, instObj 604 dx) :: (dx, dictOf (sioE w.params k1 k2 k3 tn tb tp b 0) 3) :: news ∧ (∀ p ∈ news, p.1 < dx) ∧ dx < x) := by
  unfold Ctr
  k_fill
  intro dp un gd cn cs a ccd cl outer A₀ base h₀ L m s Q E B F X₀ N T hk hd hu hret
  refine wpAny_noRaise ?_
  have X := X₀.keeps F.keep
  refine wpAny_call (codeAny_of_tree ?_)
  refine (Looks.of_peek (r := Fin.again (.call (.builtin "type.__call__") ⟨[.ref 604, .str b t], []⟩)) X (sio_any (pr := PySem.Challenge.rw_ij0141_01.row.prog))).here ?_
  refine And.intro rfl ?_
  refine codeAny_call_builtin_at (Code.quiet_builtin _ (by decide +kernel)) entry_typeCall ?_
  refine (Looks.of_peek (r := ()) X (sio_chk (pr := PySem.Challenge.rw_ij0141_01.row.prog))).here ?_
  unfold Builtin.«type.__call__»
  dsimp only
  refine KFB.if_not (by decide) ?_
  refine wpAny_bind ((Looks.of_peek X (sio_mro (pr := PySem.Challenge.rw_ij0141_01.row.prog))).here ?_)
  refine KFB.if_not (by decide) ?_
  refine wpAny_bind ((Looks.of_peek X (sio_made (pr := PySem.Challenge.rw_ij0141_01.row.prog))).here ?_)
  refine wpAny_bind ?_
  k_dflt (refine' cls_sm (p := 101) (f := .ref 97) ?k1 ?k2 ?k3 ?k4 ?k5 ?k6 ?k7 ?_; (case k1 => k_asm); (case k2 => k_asm); (case k3 => k_is); (case k4 => k_is); (case k5 => k_is); (case k6 => k_is); (case k7 => k_handed))
  refine wpAny_bind (wpAny_holding ?_)
  have hw : (Code.builtin "type.__call__" ⟨[.ref 604, .str b t], []⟩).weight = 1 := by rfl
  have hc : (Code.builtin "type.__call__" ⟨[.ref 604, .str b t], []⟩).cUnits = 1 := by rfl
  refine sio_new w p loose mean mg mb b t news _ _ _ _ _ _ _ _ _ _ _ _ _ _ _ _ _ B F X₀ N T hk (by rw [hw]; dsimp only [ktrTop]; omega) (by (dsimp only [ktrTop]; omega)) ?_
  rintro _ h' tk' _ F' N' ⟨x, dx, rfl, rfl, hfr, hlt⟩
  have hx := N'.get (List.mem_cons_self ..)
  have X' := X₀.keeps F'.keep
  have t1 : Looks (model PySem.Challenge.rw_ij0141_01.row.prog w) h' (typeOf (.ref x)) (.ref 604) := (Looks.ld hx).andThen .now
  have t2 : Looks (model PySem.Challenge.rw_ij0141_01.row.prog w) h' (isInstance (.ref x) (.ref 604)) true := t1.andThen (Looks.of_peek X' (sio_self (pr := PySem.Challenge.rw_ij0141_01.row.prog)))
  refine wpAny_bind (t2.here ?_)
  refine KFB.if_not (by decide) ?_
  refine wpAny_bind (wpAny_holding ?_)
  unfold callSpecial?
  refine wpAny_bind ?_
  have t3 : Looks (model PySem.Challenge.rw_ij0141_01.row.prog w) h' (specialOf (.ref x) "__init__") (some (.ref 374)) := t1.andThen (Looks.of_peek X' (sio_look (pr := PySem.Challenge.rw_ij0141_01.row.prog)))
  refine t3.here ?_
  dsimp only
  refine wpAny_holding ?_
  refine wpAny_bind ((Looks.of_peek X' (sio_bind (pr := PySem.Challenge.rw_ij0141_01.row.prog) (.ref x))).here ?_)
  dsimp only
  refine wpAny_bind ?_
  refine sio_init w p loose mean mg mb b t x dx news hb (fun p hp => Nat.ne_of_lt (hfr p hp)) hlt _ _ _ _ _ _ _ _ _ _ _ _ _ _ _ _ _ B F' X₀ N' T hk (by rw [hw]; dsimp only [ktrTop]; omega) (by (dsimp only [ktrTop]; omega)) ?_
  rintro _ h'' tk'' _ F'' N'' ⟨rfl, k1, k2, k3, tn, tb, tp, rfl⟩
  refine wpAny_pure ?_
  dsimp only
  refine KFB.if_not (by decide) ?_
  refine wpAny_pure ?_
  exact hret _ _ _ _ F'' N'' ⟨x, dx, k1, k2, k3, tn, tb, tp, rfl, rfl, hfr, hlt⟩
end Mine
end

-- part R5
section
open PySem PySem.W PyProof.Rows PySem.Calls
set_option maxRecDepth 100000
namespace Mine
/-- a contract of a def that catches inside: the frames behind may have turned -/
noncomputable def CtrS (D U : Nat) (w : World) (p : Program) (loose : List PySem.Str) (mean : ExcName → Option Value) (mg mb : PySem.Str → Option Value) (f : Addr) (vs : List Value) (news : List (Addr × Obj)) (post : Value → List (Addr × Obj) → Prop) : Prop :=
  ∀ (dp un : Nat) (gd : Option (List Code)) (cn : PySem.Str) (cs : Scope) (a : Addr) (ccd : Value) (outer : List Env) (A₀ : Around) (base h₀ g₀ : Heap) (L : Addr) (m : PySem.Str → Option Value) (s : Shared) (Q E : Value → Shared → Prop),
    Below A₀ base outer h₀ → Fr h₀ L s.heap m → (Mine.hd.heap_1 w.params).In h₀ → News h₀ L s.heap news → Top p loose mean mg mb h₀ → (Mine.hd.heap_1 w.params).In base → Top p loose mean mg mb base → KtsDicts (outer.filterMap (·.frame)) h₀ → KtsTurn (outer.filterMap (·.frame)) g₀ h₀ →
    cs.kind = .function → dp + D < recursionLimit → un + U < cLine →
    (∀ r h₀' h' tk' news', KtsTurn (outer.filterMap (·.frame)) g₀ h₀' → Fr h₀' L h' m → News h₀' L h' news' → Below A₀ base outer h₀' → (Mine.hd.heap_1 w.params).In h₀' → Top p loose mean mg mb h₀' → KtsDicts (outer.filterMap (·.frame)) h₀' → post r news' → Q r { s with heap := h', toks := tk' }) →
    wpAny (model PySem.Challenge.rw_ij0141_01.row.prog w) (ktrTop dp un gd cn cs L a ccd [] outer) (call (.ref f) vs) Q E s

theorem perm_lex {h₀ h : Heap} {L : Addr} {P : Params} {T : LT} {d x dS xS d1 d2 : Nat} {b : PySem.Str} {tb : Tok} {st : St} {ts : Tok} {ln : Int} {tl : Tok} {tk : PySem.Str} {tt : Tok} {i : Nat} {tp : Tok} {news : List (Addr × Obj)}
    (N : News h₀ L h ((d2, dqObj) :: (d1, dqObj) :: (xS, instObj 604 dS) :: (dS, dictOf (sioE P T.s1 T.s2 T.s3 T.sn tb tp b i) 3) :: (x, instObj 739 d) :: (d, dictOf (lexE P T xS d1 d2 (stV st ts) ln tl tk tt) 19) :: news)) :
    News h₀ L h (lexN P T d x dS xS d1 d2 b tb (stV st ts) ln tl tk tt i tp news) := by
  intro p hp
  refine N p ?_
  simp only [lexN, List.mem_cons] at hp ⊢
  rcases hp with h | h | h | h | h | h | h
  · exact .inr (.inr (.inl h))
  · exact .inr (.inr (.inr (.inl h)))
  · exact .inr (.inr (.inr (.inr (.inl h))))
  · exact .inr (.inr (.inr (.inr (.inr (.inl h)))))
  · exact .inr (.inl h)
  · exact .inl h
  · exact .inr (.inr (.inr (.inr (.inr (.inr h)))))

section
local macro_rules | `(tactic| walk_at "call ref") => `(tactic| (k_here; (with_reducible show wpAny _ _ (call (Value.ref 604) _) _ _ _); refine held ?_))
local macro_rules | `(tactic| walk_at "call type:collections.deque") => `(tactic| (k_here; (with_reducible show wpAny _ _ (call (Value.type "collections.deque") []) _ _ _); k_dflt (refine' dq_call ?k1 ?k2 ?_; (case k1 => k_asm); (case k2 => k_asm)); intro dQ h9 F' N' hfD; (try k_lt hfD)))
local macro_rules | `(tactic| walk_at "call type:list") => `(tactic| (k_here; (with_reducible show wpAny _ _ (call (Value.type "list") [Value.ref _]) _ _ _); refine held ?_))
set_option maxHeartbeats 4000000 in
theorem split_ctr (w : World) (p : Program) (loose : List PySem.Str) (mean : ExcName → Option Value) (mg mb : PySem.Str → Option Value) (b : PySem.Str) (t : Tok) (ws : List (List Nat)) (news : List (Addr × Obj)) (hb : b.length ≤ 10000)
    (hT : Toks .blank b.cps.toList ws) (hws : ws.length ≤ 1000) :
    CtrS 30 300 w p loose mean mg mb 751 [.str b t] news (fun r news' => ∃ (S c : Nat) (ql : List (PySem.Str × Tok)), r = .ref S ∧ ql.map (·.1) = ws.map strL ∧ news' = (S, listOf (strValues ql).toArray c) :: news ∧ ∀ p ∈ news, p.1 < S) := by
  unfold CtrS
  k_fill
  intro dp un gd cn cs a ccd outer A₀ base h₀ g₀ L m s Q E B F X N T XB TB KD KT hk hd hu hret
  refine wpAny_noRaise ?_
  refine wpAny_call ?_
  k_dflt (refine' code_defS ?k1 ?k2 ?k3 ?k4 ?k5 ?XB ?TB ?D ?T0 ?kA ?k6 ?k7 ?k8 ?k9 ?kB ?_ ?cK ?c2 ?c3 ?c4 ?c5; (case kA => exact rfl); (case k2 => exact F); (case k1 => exact B); (case XB => exact XB); (case TB => exact TB); (case D => exact KD); (case T0 => exact KT); (case k3 => exact X); (case k4 => exact N); (case k5 => exact T); (case k6 => k_is); (case k7 => k_is); (case k8 => ktr_room); (case k9 => first | exact BindsTo.of_eq rfl | exact binds_K (X.keeps F.keep) rfl (by k_is) rfl rfl rfl); (case kB => exact locs rfl); (case cK => first | exact rfl | assumption); (case c2 => exact rfl); (case c3 => exact rfl); (case c4 => exact rfl); (case c5 => decide); k_whole; intro g' L' h' FG' F' N' B' X' T' D'; (try dsimp only); (try k_lift B'); (try k_fold))
  refine wpAny_noRaise ?_
  try k_fold
  k_steps
  unfold Held
  k_dflt (refine (sio_call _ _ _ _ _ _ _ _ _ ‹_›).use (by k_asm) (by k_asm) (by k_asm) (by k_asm) (by k_asm) (by first | exact rfl | assumption) (by ktr_room) (by (have hcL9 := cLine_is); (simp only [units_under_tc, units_in1, units_deeper, Around.mark_units]); (try dsimp only [ktrTop]); omega) ?_); intro r9 h9 tk9 n9 F' N' hpo; obtain ⟨xS, dS, k1, k2, k3, tn, tb, tp, e1, e2, hfS, hlS⟩ := hpo; subst e1; subst e2; (try k_lt hfS)
  k_steps
  unfold Held
  rename Fr _ _ _ _ => F9
  rename News _ _ _ _ => N9
  refine' lex_list w p loose mean mg mb (⟨_, _, _, _, _, _, _, _, _, _, _, _, _, _, _, _, _, _, _, _, _, _, _, _, _, _, _, _, _, _, _⟩ : LT) _ _ _ _ _ _ b _ .blank _ 1 _ _ 0 _ ws news hb (Nat.zero_le _) ⟨by omega, by omega⟩ ?hnS ?hnD ?hdx ?hxs ?hss ?hs1 ?h12 hT hws _ _ _ _ _ _ _ _ _ _ _ _ _ _ _ _ _ B' F9 X' (perm_lex N9) T' ?hk ?hd ?hu ?_
  case hnS => exact ne_of_lts (by assumption)
  case hnD => exact ne_of_lts (by assumption)
  case hdx => assumption
  case hxs => assumption
  case hss => assumption
  case hs1 => assumption
  case h12 => assumption
  case hk => exact rfl
  case hd => (dsimp only [ktrTop]; omega)
  case hu => (dsimp only [ktrTop]; omega)
  intro S c ql g2 h2 tk2 hq hK F2 B2 N2 hS
  clear N9 F9
  try k_fold
  k_steps
  refine hret (.ref S) _ _ _ _ (by assumption) (by assumption) (by assumption) (by assumption) (by assumption) (by assumption) (by assumption) ⟨S, c, ql, rfl, hq, rfl, hS⟩
end
end Mine
end

theorem Mine.off_R5 : True := by
  w_top off
  first | walk1 | trivial

-- part R7
section
open PySem PySem.W PyProof.Rows PySem.Calls
set_option maxRecDepth 100000
namespace Mine
/-- a contract for calls from the law's own frame, whatever is caught inside -/
noncomputable def CtrL (D U : Nat) (w : World) (p : Program) (loose : List PySem.Str) (mean : ExcName → Option Value) (mg mb : PySem.Str → Option Value) (f : Addr) (vs : List Value) (news : List (Addr × Obj)) (post : Value → List (Addr × Obj) → Prop) : Prop :=
  ∀ (dp un : Nat) (gd : Option (List Code)) (cn : PySem.Str) (cs : Scope) (a : Addr) (ccd : Value) (cl : List (PySem.Str × Addr)) (A₀ : Around) (base h₀ : Heap) (L : Addr) (m : PySem.Str → Option Value) (s : Shared) (Q E : Value → Shared → Prop),
    Below A₀ base [] h₀ → Fr h₀ L s.heap m → (Mine.hd.heap_1 w.params).In h₀ → News h₀ L s.heap news → Top p loose mean mg mb h₀ → (Mine.hd.heap_1 w.params).In base → Top p loose mean mg mb base → cs.kind = .function → dp + D < recursionLimit → un + U < cLine →
    (∀ r h' tk' news', Fr h₀ L h' m → News h₀ L h' news' → post r news' → Q r { s with heap := h', toks := tk' }) →
    wpAny (model PySem.Challenge.rw_ij0141_01.row.prog w) (ktrTop dp un gd cn cs L a ccd cl []) (call (.ref f) vs) Q E s
section
local macro_rules | `(tactic| walk_at "call ref") => `(tactic| (k_here; (with_reducible show wpAny _ _ (call (Value.ref 751) _) _ _ _); refine held ?_))
set_option maxHeartbeats 4000000 in
theorem read_top (w : World) (p : Program) (loose : List PySem.Str) (mean : ExcName → Option Value) (mg mb : PySem.Str → Option Value) (b : PySem.Str) (t : Tok) (ws : List (List Nat)) (news : List (Addr × Obj)) (hb : b.length ≤ 10000)
    (hT : Toks .blank b.cps.toList ws) (hws : ws.length ≤ 1000) :
    CtrL 34 330 w p loose mean mg mb 785 [.str b t] news (fun r news' => ∃ (S c : Nat) (ql : List (PySem.Str × Tok)), r = .ref S ∧ ql.map (·.1) = ws.map strL ∧ news' = (S, listOf (strValues ql).toArray c) :: news ∧ ∀ p ∈ news, p.1 < S) := by
  unfold CtrL
  k_fill
  intro dp un gd cn cs a ccd cl A₀ base h₀ L m s Q E B F X N T XB TB hk hd hu hret
  refine wpAny_noRaise ?_
  refine wpAny_call ?_
  k_dflt (refine' code_defX0 ?k1 ?k2 ?k3 ?k4 ?k5 ?kA ?kF ?kK ?k6 ?k7 ?k8 ?k9 ?kB ?_ ?c2 ?c3 ?c4 ?c5; (case kA => exact rfl); (case kF => exact rfl); (case kK => first | exact rfl | assumption); (case k2 => exact F); (case k1 => exact B); (case k3 => exact X); (case k4 => exact N); (case k5 => exact T); (case k6 => k_is); (case k7 => k_is); (case k8 => ktr_room); (case k9 => first | exact BindsTo.of_eq rfl | exact binds_K (X.keeps F.keep) rfl (by k_is) rfl rfl rfl); (case kB => exact locs rfl); (case c2 => exact rfl); (case c3 => exact rfl); (case c4 => exact rfl); (case c5 => decide); k_whole; intro g' L' h' FG' F' N' B' X' T' D'; (try dsimp only); (try k_lift B'); (try k_fold))
  k_steps
  unfold Held
  refine split_ctr w p loose mean mg mb b t ws news hb hT hws _ _ _ _ _ _ _ _ _ _ _ _ _ _ _ _ _ B' F' X' N' T' XB TB D' KtsTurn.refl rfl (by dsimp only [ktrTop]; omega) (by dsimp only [ktrTop]; omega) ?_
  rintro _ g2 h2 tk2 _ K2 F2 N2 B2 X2 T2 D2 ⟨S, c, ql, rfl, hq, rfl, hS⟩
  clear N' F'
  k_steps
  refine hret (.ref S) _ _ _ (by assumption) (by assumption) ⟨S, c, ql, rfl, hq, rfl, hS⟩
end
end Mine
end

theorem Mine.off_R7 : True := by
  w_top off
  first | walk1 | trivial

-- part J1
section
open PySem PySem.W PyProof.Rows PySem.Calls
set_option maxRecDepth 100000
namespace Mine
section
local macro_rules | `(tactic| walk_at "callWith ref") => `(tactic| refine held ?_)
local macro_rules | `(tactic| walk_at "call ref") => `(tactic| refine held ?_)
local macro_rules | `(tactic| walk_at "binaryOp Add str str") => `(tactic| (refine PyProof.Rows.add_str (hsz := ?hsz) ?_; (case hsz => (rw [sizeLine_eq]; (try simp only [PySem.Str.length_append]); omega)); intro _ _))

/-- the entry of a def from anywhere: the whole heap is the base -/
theorem code_any {K : Frag} {prog : Program} {w : World} {A : Around} {s : Shared} {p : Program} {loose : List PySem.Str} {mean : ExcName → Option Value} {mg mb : PySem.Str → Option Value} {R : Result → Shared → Prop} {name qual : PySem.Str} {params : Arguments} {body : List Stmt} {scope : Scope} {dV kV doc pm cdv ct oc : Value} {an od : Option Addr} {osl : Array (Option Value)} {f : Addr} {args : Args} {binds : List (PySem.Str × Value)}
    (X : K.In s.heap) (T : Top p loose mean mg mb s.heap)
    (ho : K.lookup f = some ⟨oc, od, .func (fnOf name qual params body scope dV kV doc pm an cdv ct), osl⟩) (hcd : codeIn K cdv qual = true) (hroom : A.depth < recursionLimit)
    (hbind : BindsTo s (fnOf name qual params body scope dV kV doc pm an cdv ct) args binds) (hloc : ∀ y ∈ binds, scope.names.lookup y.1 = some .local)
    (h : ∀ g L' h₁, (∀ b o, s.heap.get? b = some o → g.get? b = some o) → Fr g L' h₁ (fun y => binds.reverse.lookup y) → News g L' h₁ [] → K.In g → Top p loose mean mg mb g →
      wpAny (model prog w) (A.deeper (envOf qual scope L' f cdv)) (execs body (envOf qual scope L' f cdv)) (fun fl s' => R (.ok (.ret (match fl with | .ret v => v | _ => .none))) s') (fun _ _ => False)
        { s with heap := h₁, toks := s.toks + binds.length })
    (hco : scope.isCoroutine = false) (hgen : scope.isGenerator = false) (hk : scope.kind = .function)
    (hcell : ∀ x ∈ scope.names, x.2 ≠ .cell) : codeAny (model prog w) A (.call (.ref f) args) R s := by
  refine codeAny_call_def (fd := fnOf name qual params body scope dV kV doc pm an cdv ct) (body := body) (binds := binds) hroom (X _ _ ho) rfl T.nolimit (codeRec_of X hcd) rfl hbind hcell hloc (fun h₁ hns hk₁ => ?_) hco hgen hk
  exact wpAny_mono (h s.heap s.heap.objs.size h₁ (fun _ _ e => e) ⟨hns, hk₁, Nat.le_refl _⟩ News.nil X T) (fun fl s' hl => hl) fun _ _ e => e.elim

set_option maxHeartbeats 4000000 in
theorem quote_any (w : World) (p : Program) (loose : List PySem.Str) (mean : ExcName → Option Value) (mg mb : PySem.Str → Option Value) (x : PySem.Str) (t : Tok) (hx : x.length ≤ 1000)
    (A : Around) (hA : A.handled = none) (hd : A.depth + 4 < recursionLimit) (hu : A.units + 40 < cLine) (s : Shared) (Q E : Value → Shared → Prop) (X : (Mine.hd.heap_1 w.params).In s.heap) (T : Top p loose mean mg mb s.heap)
    (hret : ∀ t' h' tk', (∀ b o, s.heap.get? b = some o → h'.get? b = some o) → Q (.str (strL (quoteL x.cps.toList)) t') { s with heap := h', toks := tk' }) :
    wpAny (model PySem.Challenge.rw_ij0141_01.row.prog w) A (call (.ref 766) [.str x t]) Q E s := by
  revert X
  k_fill
  intro X
  obtain ⟨hnd, dp, fr, gd, un⟩ := A
  dsimp only at hA hd hu
  subst hA
  have hR := repl_len x
  have hL1 : (PySem.Str.ofString "'").length = 1 := by decide +kernel
  refine wpAny_call ?_
  k_dflt (refine' code_any ?k3 ?k5 ?kA ?k7 ?k8 ?k9 ?kB ?_ ?c2 ?c3 ?c4 ?c5; (case k3 => assumption); (case k5 => assumption); (case kA => k_is); (case k7 => k_is); (case k8 => (dsimp only; omega)); (case k9 => exact BindsTo.of_eq rfl); (case kB => exact locs rfl); (case c2 => exact rfl); (case c3 => exact rfl); (case c4 => exact rfl); (case c5 => decide); k_whole; intro g' L' h' FG' F' N' X' T'; (try dsimp only); (try k_fold))
  k_steps
  all_goals (try (unfold Held; k_dflt (refine callWith_find (by k_asm) ?_; k_whole); k_steps))
  all_goals (try (unfold Held; k_dflt (refine' find_call ?k1 ?k2 ?k3 ?k4 ?k5 ?k6 ?k7; (case k1 => k_asm); (case k2 => k_asm); (case k3 => k_asm); (case k4 => (show 1 ≤ PySem.Str.length _; omega)); (case k5 => (show PySem.Str.length _ ≤ _; omega))); k_steps))
  · refine (congrArg (fun z => Q (Value.str z _) _) ?_).mpr (hret _ _ _ (fun b o e => (by k_asm : Fr _ _ _ _).keep b o (FG' b o e)))
    exact quote_safe (by assumption) (by assumption)
  · refine (congrArg (fun z => Q (Value.str z _) _) ?_).mpr (hret _ _ _ (fun b o e => (by k_asm : Fr _ _ _ _).keep b o (FG' b o e)))
    exact quote_marked (by assumption) (by assumption)
  · refine (congrArg (fun z => Q (Value.str z _) _) ?_).mpr (hret _ _ _ (fun b o e => (by k_asm : Fr _ _ _ _).keep b o (FG' b o e)))
    exact quote_nil (by assumption)
end
end Mine
end

theorem Mine.off_J1 : True := by
  w_top off
  first | walk1 | trivial

-- part J2
section
open PySem PySem.W PyProof.Rows PySem.Calls PySem.Spec
set_option maxRecDepth 100000
namespace Mine
/-- the def join's places: its table of code objects -/
noncomputable abbrev tabE (ps : Array Value) : Addr × Obj := (753, tabObj ps)

section
variable {w : World} {A : Around} {E : Value → Shared → Prop} {s : Shared} {h₀ : Heap} {L : Addr} {m mg mb : PySem.Str → Option Value} {p : Program} {loose : List PySem.Str} {mean : ExcName → Option Value} {news : List (Addr × Obj)}

theorem builtins_at {P : Addr} (T : Top p loose mean mg mb h₀) (F : Fr h₀ L s.heap m) {h' : Heap} {toks : Nat} {Q : Addr → Shared → Prop} (hx : Heap.ExtBut P s.heap h') (hP : h₀.get? P = none) (h : Q builtinsNs { s with heap := h', toks := toks }) :
    wpAny (model PySem.Challenge.rw_ij0141_01.row.prog w) A (builtinsFor mainGlobals builtinsNs) Q (fun _ _ => False) { s with heap := h', toks := toks } := by
  obtain ⟨bm, ob, b1, b2, b3, b4, b5, b6⟩ := T.bmain
  have hgP : mainGlobals ≠ P := fun q => by
    obtain ⟨o, es, ep, e, _⟩ := T.g
    rw [q, hP] at e; cases e
  have hbP : bm ≠ P := fun q => by rw [q, hP] at b3; cases b3
  have hgs := (T.g.keeps F.keep).extBut hx hgP
  exact wpAny_builtinsFor hgs b1 b2 (hx _ _ hbP (F.keep _ _ b3)) b4 b5 b6 h

theorem passing_all (n : Nat) : passing (fun _ => true) n 0 = List.range n := by simp [passing]

theorem gen_quote {env : Env} {iter : Expr} {px p1 p2 p3 pos : Pos} {scope : Scope} {S n : Nat} {ql : List (PySem.Str × Tok)} {ps : Array Value} {Q : Value → Shared → Prop}
    (hcode : env.code = .ref 757) (hglob : env.globals = mainGlobals) (hbi : env.builtins = builtinsNs) (hsc : scope = { kind := .function, names := [(PySem.Str.ofString ".0", .local), (PySem.Str.ofString "arg", .local), (PySem.Str.ofString "quote", .globalImplicit)], isGenerator := true, isCoroutine := false, more := [] }) (hclos : closureFor scope env = pure [])
    (hh : A.handled = none) (hroom : A.depth + 8 < recursionLimit) (hu : A.units + 60 < cLine)
    (F : Fr h₀ L s.heap m) (X : (Mine.hd.heap_1 w.params).In h₀) (T : Top p loose mean mg mb h₀) (N : News h₀ L s.heap (tabE ps :: news)) (hn : ∀ q ∈ news, q.1 ≠ 753) (ht : TriplesOk ps.toList) (C : CodeHd h₀ 757 753) (G : AllBare s.gens) (hS : (S, listOf (strValues ql).toArray n) ∈ news) (hq : ∀ q ∈ ql, q.1.length ≤ 1000)
    (hit : ∀ (Q : Value → Shared → Prop) E, Q (.ref S) s → wpAny (model PySem.Challenge.rw_ij0141_01.row.prog w) A (eval iter env) Q E s)
    (hs : ∀ x, genFold iter env x = pure x)
    (h : ∀ ps' a s', Fr h₀ L s'.heap m → News h₀ L s'.heap (tabE ps' :: news) → TriplesOk ps'.toList → AllBare s'.gens → s'.os = s.os → (∀ q ∈ tabE ps' :: news, q.1 < s.heap.objs.size) →
      Gen PySem.Challenge.rw_ij0141_01.row.prog w A (s.heap.objs.size - 1) a ql.length (fun j y => ∃ q u, ql[j]? = some q ∧ y = .str (strL (quoteL q.1.cps.toList)) u) s' → L ≤ s.heap.objs.size - 1 → Q (.ref a) s') :
    wpAny (model PySem.Challenge.rw_ij0141_01.row.prog w) A (eval (.GeneratorExp (.Call (.Name (PySem.Str.ofString "quote") p1) [.Name (PySem.Str.ofString "arg") p2] [] p3) [⟨.Name (PySem.Str.ofString "arg") px, iter, [], 0⟩] scope pos) env) Q E s := by
  refine wpAny_noRaise ?_
  have hP := N _ (.head _)
  have hlS : s.heap.IsList S (strValues ql).toArray := News.isList N (.tail _ hS)
  have hSlt : S < s.heap.objs.size := by obtain ⟨_, e, _⟩ := hlS; exact Heap.lt_size e
  have hLlt : L < s.heap.objs.size := F.ns.lt
  refine wpAny_GeneratorExp_walksQD (A := A) hh (by rw [hsc]) hclos (by rw [hsc]; decide) (by rw [hsc]; exact rfl) (by rw [hsc]; exact rfl) (by rw [hsc]) (by omega) (hit _ _ (wpAny_pyIter_list hlS ?_)) hs
  have up1 : ∀ b o, s.heap.get? b = some o → (s.heap.push { cls := .type "list_iterator", data := .fields #[.ref S, .int 0 0] }).get? b = some o := fun b o e => Heap.get?_push_of_some _ e
  generalize hH1 : s.heap.push { cls := .type "list_iterator", data := .fields #[.ref S, .int 0 0] } = H1 at up1 ⊢
  have hz1 : H1.objs.size = s.heap.objs.size + 1 := by rw [← hH1, Heap.size_push]
  have F1 : Fr h₀ L H1 m := F.keeps up1
  have hP1 : H1.get? 753 = some (tabObj ps) := up1 _ _ hP.1
  have hcs : cStatics ≠ 753 := by decide
  have hnl : H1.NoLimit := (T.nolimit.keeps F.keep).keeps up1
  refine ⟨hnl, ?_⟩
  rw [hglob, hbi]
  -- the code object: found, or made now
  have key : ∀ (cv : Value) (H2 : Heap) (tk : Nat) (ps' : Array Value), Heap.ExtBut 753 H1 H2 → H1.objs.size ≤ H2.objs.size → H2.get? 753 = some (tabObj ps') → TriplesOk ps'.toList →
      wpAny (model PySem.Challenge.rw_ij0141_01.row.prog w) A (builtinsFor mainGlobals builtinsNs) (fun bi s₄ => ∃ I fp wr n₀ P St₀ pz F, Value.ref s.heap.objs.size = .ref I ∧ (∀ A' : Around, A'.handled = none → Walks PySem.Challenge.rw_ij0141_01.row.prog w A' I fp wr n₀ P St₀) ∧ St₀ 0 s₄.heap ∧ (∀ b ∈ fp, b < s₄.heap.objs.size) ∧ s₄.heap.NoLimit ∧ cStatics ∉ wr ∧
          (∀ href : Heap, (∀ b o, s₄.heap.get? b = some o → href.get? b = some o) →
            QuietGenD PySem.Challenge.rw_ij0141_01.row.prog w (genEnv scope [] s₄.heap.objs.size cv bi env) (PySem.Str.ofString "arg") [] (.Call (.Name (PySem.Str.ofString "quote") p1) [.Name (PySem.Str.ofString "arg") p2] [] p3) (List.range s₄.heap.objs.size) wr P pz F href (A.depth + 1) (A.units + 8)) ∧
          (∀ a h₅ tk gs, gs.bare = true → s₄.heap.objs.size < a → h₅.objs.size = a + 1 → (∀ b o, s₄.heap.get? b = some o → h₅.get? b = some o) →
            WalksS PySem.Challenge.rw_ij0141_01.row.prog w A.in4 a (a :: s₄.heap.objs.size :: List.range s₄.heap.objs.size) (s₄.heap.objs.size :: wr) (GenOnlyQ s₄.gens.size) (passing pz n₀ 0).length
              (fun j y => ∃ i, (passing pz n₀ 0)[j]? = some i ∧ F i y) (GenAt PySem.Challenge.rw_ij0141_01.row.prog w A.in4 a s₄.gens.size s₄.heap.objs.size (List.range s₄.heap.objs.size) wr pz n₀ F) →
            GenAt PySem.Challenge.rw_ij0141_01.row.prog w A.in4 a s₄.gens.size s₄.heap.objs.size (List.range s₄.heap.objs.size) wr pz n₀ F 0 { s₄ with gens := s₄.gens.push gs, toks := tk, heap := h₅ } →
            Q (.ref a) { s₄ with gens := s₄.gens.push gs, toks := tk, heap := h₅ })) (fun _ _ => False) { s with heap := H2, toks := tk } := by
    intro cv H2 tk ps' hx hsz hP2 ht2
    have up2 : ∀ b o, b ≠ 753 → s.heap.get? b = some o → H2.get? b = some o := fun b o hb e => hx b o hb (up1 b o e)
    have keep0 : ∀ b o, h₀.get? b = some o → H2.get? b = some o := fun b o e => up2 b o (fun q => by rw [q, hP.2.2] at e; cases e) (F.keep b o e)
    have hLP : L ≠ 753 := fun q => hP.2.1 q.symm
    have F2 : Fr h₀ L H2 m := ⟨F.ns.extBut (fun b o hb e => up2 b o hb e) hLP, keep0, F.above⟩
    have hnl2 : H2.NoLimit := hnl.extBut hx hcs
    refine builtins_at (s := s) (P := 753) T F (fun b o hb e => up2 b o hb e) hP.2.2 ?_
    have hI0 : h₀.get? s.heap.objs.size = none := Heap.get?_none_of_le (Nat.le_trans F.above (Nat.le_of_lt hLlt))
    have hI1 : H1.get? s.heap.objs.size = some { cls := .type "list_iterator", data := .fields #[.ref S, .int 0 0] } := hH1 ▸ Heap.get?_push_size _ rfl
    have hPlt : 753 < s.heap.objs.size := Heap.lt_size hP.1
    have hI2 := hx _ _ (Nat.ne_of_gt hPlt) hI1
    have hSP : S ≠ 753 := hn _ hS
    have hl2 : H2.IsList S (strValues ql).toArray := by obtain ⟨o, e, r⟩ := hlS; exact ⟨o, up2 _ _ hSP e, r⟩
    refine ⟨s.heap.objs.size, [s.heap.objs.size, S], [s.heap.objs.size], (strValues ql).toArray.size, _, _, (fun _ => true), (fun i y => ∃ q u, ql[i]? = some q ∧ y = .str (strL (quoteL q.1.cps.toList)) u), rfl,
      (fun A' hA => Walks.list hA _ _ (Nat.ne_of_lt hSlt) (strValues ql).toArray), ⟨⟨_, hI2, rfl, rfl⟩, hl2⟩, ?_, hnl2, ?_, ?_, ?_⟩
    · intro b hb
      show b < H2.objs.size
      rcases List.mem_cons.mp hb with rfl | hb
      · exact Nat.lt_of_lt_of_le (by rw [hz1]; exact Nat.lt_succ_self _) hsz
      · rw [List.mem_singleton.mp hb]
        exact Nat.lt_of_lt_of_le (Nat.lt_trans hSlt (by rw [hz1]; exact Nat.lt_succ_self _)) hsz
    · intro hm
      rw [List.mem_singleton] at hm
      have : cStatics < s.heap.objs.size := by
        obtain ⟨mc, hmc, _⟩ := T.nolimit.keeps F.keep
        exact hmc.lt
      exact Nat.ne_of_lt this hm
    · intro href hhref
      have kk : ∀ (s₂ : Shared), (∀ b ∈ List.range H2.objs.size, b ∉ [s.heap.objs.size] → ∀ o, href.get? b = some o → s₂.heap.get? b = some o) → ∀ b o, h₀.get? b = some o → s₂.heap.get? b = some o := fun s₂ hk b o e => by
        have e2 := keep0 b o e
        refine hk b (List.mem_range.mpr (Heap.lt_size e2)) (fun hm => ?_) o (hhref b o e2)
        rw [List.mem_singleton.mp hm, hI0] at e; cases e
      refine ⟨fun A' E' i v s₂ m₂ hA hD hU hP hns hm hk => ?_, fun A' E' i v s₂ m₂ hA hD hU hPi _ hns hm hk => ?_⟩
      · exact wpAny_pure ⟨rfl, _, _, rfl, fun _ _ e => e⟩
      · have k0 := kk s₂ hk
        have hX2 : (Mine.hd.heap_1 w.params).In s₂.heap := X.keeps k0
        have hT2 : Top p loose mean mg mb s₂.heap := T.keeps k0
        have hvi : (strValues ql)[i]? = some v := by simpa using hPi
        simp only [strValues, List.getElem?_map, Option.map_eq_some_iff] at hvi
        obtain ⟨q, hqi, rfl⟩ := hvi
        refine wpAny_Call_Name_kw ?_
        refine Name_function_global (by rw [hsc]; rfl) (by rw [hsc]; exact rfl) (loadGlobal_global (env := genEnv scope [] H2.objs.size cv builtinsNs env) (by show s₂.heap.Ns env.globals mg; rw [hglob]; exact hT2.g) (mg_of hX2 hT2.g (by kernel_rfl : nsIn (Mine.hd.heap_1 w.params) mainGlobals (PySem.Str.ofString "quote") = some (some (.ref 766)))) ?_) (by decide)
        refine callWith_K (K := Mine.hd.heap_1 w.params) (h₀ := s₂.heap) hX2 (by kernel_rfl) ?_
        refine args_cons ?_
        refine wpAny_Name (wpAny_loadName_local (by rw [hsc]; rfl) (by rw [hsc]; exact rfl) hns hm ?_)
        refine args_nil ⟨hX2, ?_⟩
        have hq1 : q.1.length ≤ 1000 := hq q (List.mem_of_getElem? hqi)
        exact quote_any w p loose mean mg mb q.1 q.2 hq1 A' hA (by omega) (by omega) s₂ _ _ hX2 hT2 fun t' h' tk' hk' => ⟨⟨q, t', hqi, rfl⟩, h', tk', rfl, hk'⟩
    · intro a h₅ tk5 gs hgb hag hsz5 hk5 W hat
      have hn0 : (strValues ql).toArray.size = ql.length := by simp [strValues]
      rw [hn0] at W hat
      rw [passing_all, List.length_range] at W
      refine h ps' a _ (F2.keeps hk5) ?_ ht2 (G.push hgb) rfl ?_ ⟨_, _, _, _, W.imp ?_, hat, (fun i s' st => st.1.typeIs), List.mem_cons_self, ?_, ?_⟩ (Nat.le_sub_one_of_lt hLlt)
      · intro q hq'
        rcases List.mem_cons.mp hq' with rfl | hq'
        · exact ⟨hk5 _ _ hP2, hP.2⟩
        · have z := N q (.tail _ hq')
          exact ⟨hk5 _ _ (up2 _ _ (hn q hq') z.1), z.2⟩
      · intro q hq'
        rcases List.mem_cons.mp hq' with rfl | hq'
        · exact hPlt
        · exact Heap.lt_size (N q (.tail _ hq')).1
      · rintro j y ⟨i, hi, hy⟩
        obtain ⟨h1, h2⟩ := List.getElem?_eq_some_iff.mp hi
        rw [List.getElem_range] at h2
        exact h2 ▸ hy
      · intro b hb
        show b < h₅.objs.size
        rw [hsz5]
        rcases List.mem_cons.mp hb with rfl | hb
        · exact Nat.lt_succ_self _
        · rcases List.mem_cons.mp hb with rfl | hb
          · exact Nat.lt_succ_of_lt hag
          · exact Nat.lt_succ_of_lt (Nat.lt_trans (List.mem_range.mp hb) hag)
      · intro b hb
        have e0 : H2.objs.size > s.heap.objs.size := Nat.lt_of_lt_of_le (by rw [hz1]; exact Nat.lt_succ_self _) hsz
        rcases List.mem_cons.mp hb with rfl | hb
        · exact Nat.lt_of_le_of_lt (Nat.sub_le _ _) e0
        · rw [List.mem_singleton.mp hb]
          exact Nat.sub_lt (Nat.lt_of_le_of_lt (Nat.zero_le _) hLlt) (by decide)
  have hcd : H1.IsCode 757 753 ps := (C.keeps F1.keep).code hP1 ht
  have htb : H1.TableAt 757 753 ps := (C.keeps F1.keep).tab hP1
  cases hnf : codeAmong pos ps.toList with
  | some cv =>
    exact wpAny_genexprCode_hit hcode hcd hnf (key cv H1 _ ps (fun _ _ _ e => e) (Nat.le_refl _) hP1 ht)
  | none =>
    refine wpAny_genexprCodeX hcode hcd htb hnf fun c' h' tk hx hge hlt hcode' _ htab' _ => key (.ref c') h' tk _ hx (Nat.le_trans hge (Nat.le_of_lt hlt)) htab'.2 ?_
    obtain ⟨o, vs, file, tf, flags, tg, inF, text, tt, op, ho, hd, h11, h2, h7, h9, h10, hop, hpd, htr, hne⟩ := hcode'
    exact htr
end
end Mine
end

-- part J3
section
open PySem PySem.W PyProof.Rows PySem.Calls PySem.Spec
set_option maxRecDepth 100000
namespace Mine
/-- a contract of a def that makes generators: the places of join's code may have grown -/
noncomputable def CtrG (D U : Nat) (w : World) (p : Program) (loose : List PySem.Str) (mean : ExcName → Option Value) (mg mb : PySem.Str → Option Value) (f : Addr) (vs : List Value) (news : List (Addr × Obj)) (post : Value → Prop) : Prop :=
  ∀ (dp un : Nat) (gd : Option (List Code)) (cn : PySem.Str) (cs : Scope) (a : Addr) (ccd : Value) (cl : List (PySem.Str × Addr)) (outer : List Env) (A₀ : Around) (base h₀ : Heap) (L : Addr) (m : PySem.Str → Option Value) (s : Shared) (Q E : Value → Shared → Prop) (ps : Array Value),
    Below A₀ base outer h₀ → Fr h₀ L s.heap m → (Mine.hd.heap_1 w.params).In h₀ → News h₀ L s.heap (tabE ps :: news) → Top p loose mean mg mb h₀ → CodeHd h₀ 757 753 → TriplesOk ps.toList → AllBare s.gens → cs.kind = .function → dp + D < recursionLimit → un + U < cLine →
    (∀ r ps' s', Fr h₀ L s'.heap m → News h₀ L s'.heap (tabE ps' :: news) → TriplesOk ps'.toList → AllBare s'.gens → s'.os = s.os → post r → Q r s') →
    wpAny (model PySem.Challenge.rw_ij0141_01.row.prog w) (ktrTop dp un gd cn cs L a ccd cl outer) (call (.ref f) vs) Q E s
theorem map_range_get {α β : Type} (l : List α) (f : α → β) (d : β) : (List.range l.length).map (fun j => (l[j]?.map f).getD d) = l.map f := by
  apply List.ext_getElem
  · simp
  · intro i h₁ h₂
    have hi : i < l.length := by simpa using h₂
    simp [List.getElem?_eq_getElem hi]
section
local macro_rules | `(tactic| walk_at "eval GeneratorExp") => `(tactic| (k_here; refine held ?_))
local macro_rules | `(tactic| walk_at "call builtin:str.join") => `(tactic| (k_here; refine held ?_))

set_option maxHeartbeats 2000000 in
theorem join_ctr (w : World) (p : Program) (loose : List PySem.Str) (mean : ExcName → Option Value) (mg mb : PySem.Str → Option Value) (S n : Nat) (ql : List (PySem.Str × Tok)) (news : List (Addr × Obj)) (hn : ∀ q ∈ news, q.1 ≠ 753) (hS : (S, listOf (strValues ql).toArray n) ∈ news) (hq : ∀ q ∈ ql, q.1.length ≤ 1000) (hlen : ql.length ≤ 1000) (hok : JoinOk (PySem.Str.ofString " ") (ql.map fun q => strL (quoteL q.1.cps.toList)) = true) :
    CtrG 14 110 w p loose mean mg mb 758 [.ref S] news (fun r => ∃ t', r = .str (Txt.join (PySem.Str.ofString " ") (ql.map fun q => strL (quoteL q.1.cps.toList))) t') := by
  unfold CtrG
  k_fill
  intro dp un gd cn cs a ccd cl outer A₀ base h₀ L m s Q E ps B F X N T C ht G hk hd hu hret
  refine wpAny_noRaise ?_
  refine wpAny_call ?_
  k_dflt cell_enter
  refine wpAny_noRaise ?_
  k_steps
  unfold Held
  rename Fr _ _ _ _ => F9
  rename News _ _ _ _ => N9
  rename Top _ _ _ _ _ _ => T9
  rename Frag.In _ _ => X9
  rename Fr h₀ L _ m => FG9
  refine gen_quote rfl rfl rfl rfl rfl rfl (by dsimp only [ktrTop, Around.deeper]; omega) (by (simp only [units_under_tc, units_in1, units_deeper, Around.mark_units]); (try dsimp only [ktrTop]); omega) F9 X9 T9 N9 hn ht (C.keeps FG9.keep) G hS hq (fun Q E hQ => ld F9 rfl hQ) (fun _ => rfl) ?_
  intro ps' a' s' F10 N10 ht10 G10 hos hlt X10 hLK
  clear F9 N9
  k_steps
  unfold Held
  refine join_rowsK F10 G10 X10 hLK (fun j => (ql[j]?.map fun q => strL (quoteL q.1.cps.toList)).getD "") (fun j v hv => ?_) ?_ ?_ (Nat.le_trans hlen (by rw [sizeLine_eq]; decide))
  · obtain ⟨q, u, h1, h2⟩ := hv
    exact ⟨u, by rw [h1]; exact h2⟩
  · rw [map_range_get]; exact hok
  · rw [map_range_get]
    intro s2 t2 F11 G11 hos2 hk11
    have N11 : News _ _ s2.heap (tabE ps' :: news) := fun q hq => ⟨hk11 _ _ (Nat.le_sub_one_of_lt (hlt q hq)) (N10 q hq).1, (N10 q hq).2⟩
    k_steps
    exact hret _ ps' s2 (by assumption) (by assumption) ht10 G11 (hos2.trans hos) ⟨_, rfl⟩
end
end Mine
end

theorem Mine.off_J3 : True := by
  w_top off
  first | walk1 | trivial

-- part C3
section
open PySem PySem.W PyProof.Rows PySem.Calls
set_option maxRecDepth 100000
namespace Mine
section
local macro_rules | `(tactic| walk_at "call builtin:str.split") => `(tactic| (k_here; k_dflt (refine split_pieces (by assumption) (by k_asm) (by k_asm) (by exact rfl) (by rw [sizeLine_eq]; omega) ?_; k_whole); intro D' ql' h' k' hlm' F' N' hD'))
local macro_rules | `(tactic| walk_at "call builtin:len") => `(tactic| (k_here; (with_reducible show wpAny _ _ (call (Value.builtin "len") [Value.ref _]) _ _ _); k_dflt (refine len_pieces (by k_asm) (by k_mem) ‹_› (by omega) ?_; k_whole); intro _ _))
local macro_rules | `(tactic| walk_at "subscriptTail") => `(tactic| (k_here; (first
  | ((with_reducible show wpAny _ _ (subscriptTail _ _ _ (Value.int 0 _)) _ _ _); k_dflt (refine item_zero (by k_asm) (by k_mem) ‹_› ?_; k_whole))
  | k_dflt (refine item_last (by k_asm) (by k_mem) ‹_› ?_; k_whole)
  | k_dflt (refine item_last2 (by k_asm) (by k_mem) ‹_› ?_; k_whole)); intro _))
local macro_rules | `(tactic| walk_at "delItem ref int") => `(tactic| (k_here; (first
  | ((with_reducible show wpAny _ _ (delItem _ (Value.int 0 _)) _ _ _); k_dflt (refine del_zero (by k_asm) (by k_asm) (by k_updF) ‹_› (by (try simp only [List.length_append, List.length_cons, List.length_nil]); omega) ?_; k_whole))
  | k_dflt (refine del_last (by k_asm) (by k_asm) (by k_updF) ‹_› (by (try simp only [List.length_append, List.length_cons, List.length_nil]); omega) ?_; k_whole)
  | k_dflt (refine del_last2 (by k_asm) (by k_asm) (by k_updF) ‹_› (by (try simp only [List.length_append, List.length_cons, List.length_nil]); omega) ?_; k_whole)); intro h' ql' hlm' F' N'; (try dsimp only at N')))
local macro_rules | `(tactic| walk_at "call builtin:str.find") => `(tactic| (refine call_find4 ?_))

set_option maxHeartbeats 4000000 in
theorem ell_dots (w : World) (p : Program) (loose : List PySem.Str) (mean : ExcName → Option Value) (mg mb : PySem.Str → Option Value) (x y p0 pn : PySem.Str) (mid : List PySem.Str) (t u : Tok) (news : List (Addr × Obj)) (hx : x.length ≤ 1000) (hy : y.length ≤ 1000)
    (hc : (Builtin.Str.occurrences x (PySem.Str.ofString "...") 0 x.length 1).isEmpty = false) (hsp : Txt.split x (PySem.Str.ofString "...") = p0 :: (mid ++ [pn])) (hp0 : p0.length ≤ 1000) (hpn : pn.length ≤ 1000) (hmid : mid.length ≤ 1000) (hms : ∀ q ∈ mid, q.length ≤ 1000) :
    Ctr 4 40 w p loose mean mg mb 51 [.str x t, .str y u] news (fun r news' => news' = news ∧ r = .bool (ellRest p0 mid pn y)) := by
  unfold Ctr
  k_fill
  intro dp un gd cn cs a ccd cl outer A₀ base h₀ L m s Q E B F X N T hk hd hu hret
  refine wpAny_call ?_
  k_dflt cell_enter
  refine wpAny_noRaise ?_
  k_steps
  · refine hret _ _ _ _ (by k_asm) (fun p hp => (by k_asm : News _ _ _ _) p (.tail _ (.tail _ hp))) ⟨rfl, congrArg Value.bool ?_⟩
    exact (ell_no3 (by first | exact .inl (by assumption) | exact .inr (by assumption)) (by first | exact .inl (by assumption) | exact .inr (by assumption)) (by omega)).symm
  · rename List (PySem.Str × Tok) => ql
    rename List.map _ ql = _ => hql
    have hqm : (if (p0.length : Int) = 0 then [p0] else []) ++ mid ++ (if (pn.length : Int) = 0 then [pn] else []) = ql.map (·.1) := by
      rw [if_neg (by assumption), if_neg (by assumption), hql]
      simp
    have hyes := ell_yes (y := y) (by first | exact .inl (by assumption) | exact .inr (by assumption)) (by first | exact .inl (by assumption) | exact .inr (by assumption)) (by omega) hqm (hi := (y.length : Int) - (pn.length : Int)) (st := (p0.length : Int)) (by omega) (by omega)
    have hlq := pieces_short hp0 hpn hms hqm
    refine for_of (by assumption) (by exact rfl) (by exact rfl) ?_
    walk1
    refine for_ledgerM (vs := strValues ql) (σ := Int × Tok) (fun a m z => if z = PySem.Str.ofString "startpos" then some (.int a.1 a.2) else m z)
      (fun i a n => (∀ q ∈ news, q ∈ n) ∧ ellLoop y ((y.length : Int) - (pn.length : Int)) ((ql.map (·.1)).drop i) a.1 = ellLoop y ((y.length : Int) - (pn.length : Int)) (ql.map (·.1)) ((p0.length : Int)))
      rfl (by assumption) (by assumption) (by k_mem) ?_ ?_ ?_
    · refine' ⟨((p0.length : Int), ?tk01), ?c1, ?c2⟩
      case c1 =>
        intro z hz
        by_cases h1 : z = PySem.Str.ofString "startpos"
        · subst h1; exact rfl
        · exact (if_neg h1).symm
      case c2 => exact ⟨fun q hq => .tail _ (.tail _ hq), rfl⟩
    · rintro i v ⟨pa, ta⟩ news₁ h1 tk1 own I hv ⟨hn1, hr1⟩ hI ho F1 N1
      obtain ⟨q, tq, rfl, hq⟩ := strs_at hv
      have hq1 := hlq q (List.mem_of_getElem? hq)
      have hdr := drop_at hq
      dsimp only at F1 hr1
      k_steps
      · dsimp only [EndM]
        k_steps
        exact hret _ _ _ _ (by k_asm) (fun p hp => (by k_asm : News _ _ _ _) p (List.mem_append_left _ (hn1 p hp))) ⟨rfl, congrArg Value.bool ((ellLoop_fail hdr hr1 (by assumption)).symm.trans hyes.symm)⟩
      · dsimp only [EndM]
        refine' ⟨_, _, _, news₁, (_, ?tkz1), rfl, ?f1, ?c1, ?n1, hI, hn1, ellLoop_step hdr hr1 ?lt⟩
        case f1 => k_asm
        case n1 => k_asm
        case lt => assumption
        case c1 =>
          intro z hz
          by_cases h1 : z = PySem.Str.ofString "startpos"
          · subst h1; exact rfl
          · simp only [if_neg h1, if_neg hz]
    · rintro ⟨pa, ta⟩ uu news₁ h1 tk1 ⟨hn1, hr1⟩ F1 N1
      dsimp only at F1 hr1
      k_steps
      refine hret _ _ _ _ (by k_asm) (fun p hp => (by k_asm : News _ _ _ _) p (hn1 p hp)) ⟨rfl, congrArg Value.bool ?_⟩
      rw [hyes, ← hr1, List.drop_eq_nil_of_le (by simp [strValues])]
      rfl
  · refine hret _ _ _ _ (by k_asm) (fun p hp => (by k_asm : News _ _ _ _) p (.tail _ (.tail _ hp))) ⟨rfl, congrArg Value.bool ?_⟩
    exact (ell_no2 (by first | exact .inl (by assumption) | exact .inr (by assumption)) (by assumption) (by assumption)).symm
  · refine hret _ _ _ _ (by k_asm) (fun p hp => (by k_asm : News _ _ _ _) p (.tail _ (.tail _ hp))) ⟨rfl, congrArg Value.bool ?_⟩
    exact (ell_no3 (by first | exact .inl (by assumption) | exact .inr (by assumption)) (by first | exact .inl (by assumption) | exact .inr (by assumption)) (by omega)).symm
  · rename List (PySem.Str × Tok) => ql
    rename List.map _ ql = _ => hql
    have hqm : (if (p0.length : Int) = 0 then [p0] else []) ++ mid ++ (if (pn.length : Int) = 0 then [pn] else []) = ql.map (·.1) := by
      rw [if_neg (by assumption), if_pos (by assumption), hql]
      simp
    have hyes := ell_yes (y := y) (by first | exact .inl (by assumption) | exact .inr (by assumption)) (by first | exact .inl (by assumption) | exact .inr (by assumption)) (by omega) hqm (hi := (y.length : Int)) (st := (p0.length : Int)) (by omega) (by omega)
    have hlq := pieces_short hp0 hpn hms hqm
    refine for_of (by assumption) (by exact rfl) (by exact rfl) ?_
    walk1
    refine for_ledgerM (vs := strValues ql) (σ := Int × Tok) (fun a m z => if z = PySem.Str.ofString "startpos" then some (.int a.1 a.2) else m z)
      (fun i a n => (∀ q ∈ news, q ∈ n) ∧ ellLoop y ((y.length : Int)) ((ql.map (·.1)).drop i) a.1 = ellLoop y ((y.length : Int)) (ql.map (·.1)) ((p0.length : Int)))
      rfl (by assumption) (by assumption) (by k_mem) ?_ ?_ ?_
    · refine' ⟨((p0.length : Int), ?tk02), ?c1, ?c2⟩
      case c1 =>
        intro z hz
        by_cases h1 : z = PySem.Str.ofString "startpos"
        · subst h1; exact rfl
        · exact (if_neg h1).symm
      case c2 => exact ⟨fun q hq => .tail _ (.tail _ hq), rfl⟩
    · rintro i v ⟨pa, ta⟩ news₁ h1 tk1 own I hv ⟨hn1, hr1⟩ hI ho F1 N1
      obtain ⟨q, tq, rfl, hq⟩ := strs_at hv
      have hq1 := hlq q (List.mem_of_getElem? hq)
      have hdr := drop_at hq
      dsimp only at F1 hr1
      k_steps
      · dsimp only [EndM]
        k_steps
        exact hret _ _ _ _ (by k_asm) (fun p hp => (by k_asm : News _ _ _ _) p (List.mem_append_left _ (hn1 p hp))) ⟨rfl, congrArg Value.bool ((ellLoop_fail hdr hr1 (by assumption)).symm.trans hyes.symm)⟩
      · dsimp only [EndM]
        refine' ⟨_, _, _, news₁, (_, ?tkz2), rfl, ?f1, ?c1, ?n1, hI, hn1, ellLoop_step hdr hr1 ?lt⟩
        case f1 => k_asm
        case n1 => k_asm
        case lt => assumption
        case c1 =>
          intro z hz
          by_cases h1 : z = PySem.Str.ofString "startpos"
          · subst h1; exact rfl
          · simp only [if_neg h1, if_neg hz]
    · rintro ⟨pa, ta⟩ uu news₁ h1 tk1 ⟨hn1, hr1⟩ F1 N1
      dsimp only at F1 hr1
      k_steps
      refine hret _ _ _ _ (by k_asm) (fun p hp => (by k_asm : News _ _ _ _) p (hn1 p hp)) ⟨rfl, congrArg Value.bool ?_⟩
      rw [hyes, ← hr1, List.drop_eq_nil_of_le (by simp [strValues])]
      rfl
  · refine hret _ _ _ _ (by k_asm) (fun p hp => (by k_asm : News _ _ _ _) p (.tail _ (.tail _ hp))) ⟨rfl, congrArg Value.bool ?_⟩
    exact (ell_no1 (by assumption) (by assumption)).symm
  · refine hret _ _ _ _ (by k_asm) (fun p hp => (by k_asm : News _ _ _ _) p (.tail _ (.tail _ hp))) ⟨rfl, congrArg Value.bool ?_⟩
    exact (ell_no3 (by first | exact .inl (by assumption) | exact .inr (by assumption)) (by first | exact .inl (by assumption) | exact .inr (by assumption)) (by omega)).symm
  · rename List (PySem.Str × Tok) => ql
    rename List.map _ ql = _ => hql
    have hqm : (if (p0.length : Int) = 0 then [p0] else []) ++ mid ++ (if (pn.length : Int) = 0 then [pn] else []) = ql.map (·.1) := by
      rw [if_pos (by assumption), if_neg (by assumption), hql]
      simp
    have hyes := ell_yes (y := y) (by first | exact .inl (by assumption) | exact .inr (by assumption)) (by first | exact .inl (by assumption) | exact .inr (by assumption)) (by omega) hqm (hi := (y.length : Int) - (pn.length : Int)) (st := (0 : Int)) (by omega) (by omega)
    have hlq := pieces_short hp0 hpn hms hqm
    refine for_of (by assumption) (by exact rfl) (by exact rfl) ?_
    walk1
    refine for_ledgerM (vs := strValues ql) (σ := Int × Tok) (fun a m z => if z = PySem.Str.ofString "startpos" then some (.int a.1 a.2) else m z)
      (fun i a n => (∀ q ∈ news, q ∈ n) ∧ ellLoop y ((y.length : Int) - (pn.length : Int)) ((ql.map (·.1)).drop i) a.1 = ellLoop y ((y.length : Int) - (pn.length : Int)) (ql.map (·.1)) ((0 : Int)))
      rfl (by assumption) (by assumption) (by k_mem) ?_ ?_ ?_
    · refine' ⟨((0 : Int), ?tk03), ?c1, ?c2⟩
      case c1 =>
        intro z hz
        by_cases h1 : z = PySem.Str.ofString "startpos"
        · subst h1; exact rfl
        · exact (if_neg h1).symm
      case c2 => exact ⟨fun q hq => .tail _ (.tail _ hq), rfl⟩
    · rintro i v ⟨pa, ta⟩ news₁ h1 tk1 own I hv ⟨hn1, hr1⟩ hI ho F1 N1
      obtain ⟨q, tq, rfl, hq⟩ := strs_at hv
      have hq1 := hlq q (List.mem_of_getElem? hq)
      have hdr := drop_at hq
      dsimp only at F1 hr1
      k_steps
      · dsimp only [EndM]
        k_steps
        exact hret _ _ _ _ (by k_asm) (fun p hp => (by k_asm : News _ _ _ _) p (List.mem_append_left _ (hn1 p hp))) ⟨rfl, congrArg Value.bool ((ellLoop_fail hdr hr1 (by assumption)).symm.trans hyes.symm)⟩
      · dsimp only [EndM]
        refine' ⟨_, _, _, news₁, (_, ?tkz3), rfl, ?f1, ?c1, ?n1, hI, hn1, ellLoop_step hdr hr1 ?lt⟩
        case f1 => k_asm
        case n1 => k_asm
        case lt => assumption
        case c1 =>
          intro z hz
          by_cases h1 : z = PySem.Str.ofString "startpos"
          · subst h1; exact rfl
          · simp only [if_neg h1, if_neg hz]
    · rintro ⟨pa, ta⟩ uu news₁ h1 tk1 ⟨hn1, hr1⟩ F1 N1
      dsimp only at F1 hr1
      k_steps
      refine hret _ _ _ _ (by k_asm) (fun p hp => (by k_asm : News _ _ _ _) p (hn1 p hp)) ⟨rfl, congrArg Value.bool ?_⟩
      rw [hyes, ← hr1, List.drop_eq_nil_of_le (by simp [strValues])]
      rfl
  · refine hret _ _ _ _ (by k_asm) (fun p hp => (by k_asm : News _ _ _ _) p (.tail _ (.tail _ hp))) ⟨rfl, congrArg Value.bool ?_⟩
    exact (ell_no2 (by first | exact .inl (by assumption) | exact .inr (by assumption)) (by assumption) (by assumption)).symm
  · rename List (PySem.Str × Tok) => ql
    rename List.map _ ql = _ => hql
    have hqm : (if (p0.length : Int) = 0 then [p0] else []) ++ mid ++ (if (pn.length : Int) = 0 then [pn] else []) = ql.map (·.1) := by
      rw [if_pos (by assumption), if_pos (by assumption), hql]
      simp
    have hyes := ell_yes (y := y) (by first | exact .inl (by assumption) | exact .inr (by assumption)) (by first | exact .inl (by assumption) | exact .inr (by assumption)) (by omega) hqm (hi := (y.length : Int)) (st := (0 : Int)) (by omega) (by omega)
    have hlq := pieces_short hp0 hpn hms hqm
    refine for_of (by assumption) (by exact rfl) (by exact rfl) ?_
    walk1
    refine for_ledgerM (vs := strValues ql) (σ := Int × Tok) (fun a m z => if z = PySem.Str.ofString "startpos" then some (.int a.1 a.2) else m z)
      (fun i a n => (∀ q ∈ news, q ∈ n) ∧ ellLoop y ((y.length : Int)) ((ql.map (·.1)).drop i) a.1 = ellLoop y ((y.length : Int)) (ql.map (·.1)) ((0 : Int)))
      rfl (by assumption) (by assumption) (by k_mem) ?_ ?_ ?_
    · refine' ⟨((0 : Int), ?tk04), ?c1, ?c2⟩
      case c1 =>
        intro z hz
        by_cases h1 : z = PySem.Str.ofString "startpos"
        · subst h1; exact rfl
        · exact (if_neg h1).symm
      case c2 => exact ⟨fun q hq => .tail _ (.tail _ hq), rfl⟩
    · rintro i v ⟨pa, ta⟩ news₁ h1 tk1 own I hv ⟨hn1, hr1⟩ hI ho F1 N1
      obtain ⟨q, tq, rfl, hq⟩ := strs_at hv
      have hq1 := hlq q (List.mem_of_getElem? hq)
      have hdr := drop_at hq
      dsimp only at F1 hr1
      k_steps
      · dsimp only [EndM]
        k_steps
        exact hret _ _ _ _ (by k_asm) (fun p hp => (by k_asm : News _ _ _ _) p (List.mem_append_left _ (hn1 p hp))) ⟨rfl, congrArg Value.bool ((ellLoop_fail hdr hr1 (by assumption)).symm.trans hyes.symm)⟩
      · dsimp only [EndM]
        refine' ⟨_, _, _, news₁, (_, ?tkz4), rfl, ?f1, ?c1, ?n1, hI, hn1, ellLoop_step hdr hr1 ?lt⟩
        case f1 => k_asm
        case n1 => k_asm
        case lt => assumption
        case c1 =>
          intro z hz
          by_cases h1 : z = PySem.Str.ofString "startpos"
          · subst h1; exact rfl
          · simp only [if_neg h1, if_neg hz]
    · rintro ⟨pa, ta⟩ uu news₁ h1 tk1 ⟨hn1, hr1⟩ F1 N1
      dsimp only at F1 hr1
      k_steps
      refine hret _ _ _ _ (by k_asm) (fun p hp => (by k_asm : News _ _ _ _) p (hn1 p hp)) ⟨rfl, congrArg Value.bool ?_⟩
      rw [hyes, ← hr1, List.drop_eq_nil_of_le (by simp [strValues])]
      rfl
end
end Mine
end

theorem Mine.off_C3 : True := by
  w_top off
  first | walk1 | trivial

-- part C3b
section
open PySem PySem.W PyProof.Rows PySem.Calls
set_option maxRecDepth 100000
namespace Mine
set_option maxHeartbeats 4000000 in
theorem ell_plain (w : World) (p : Program) (loose : List PySem.Str) (mean : ExcName → Option Value) (mg mb : PySem.Str → Option Value) (x y : PySem.Str) (t u : Tok) (news : List (Addr × Obj)) (hx : x.length ≤ 1000) (hy : y.length ≤ 1000)
    (hc : (Builtin.Str.occurrences x (PySem.Str.ofString "...") 0 x.length 1).isEmpty = true) :
    Ctr 4 40 w p loose mean mg mb 51 [.str x t, .str y u] news (fun r news' => news' = news ∧ r = .bool (x == y)) := by
  unfold Ctr
  k_fill
  intro dp un gd cn cs a ccd cl outer A₀ base h₀ L m s Q E B F X N T hk hd hu hret
  refine wpAny_call ?_
  k_dflt cell_enter
  refine wpAny_noRaise ?_
  k_steps
  exact hret _ _ _ _ (by k_asm) (by k_asm) ⟨rfl, rfl⟩
end Mine
end

theorem Mine.off_C3b : True := by
  w_top off
  first | walk1 | trivial

-- part G6
section
open PySem PySem.W PyProof.Rows PySem.StrLaws PySem.Builtin PySem.Builtin.Str
set_option maxRecDepth 100000
namespace Mine
theorem join_bounds (sep : PySem.Str) (h : 1 ≤ sep.length) : ∀ (r : List PySem.Str) (p : PySem.Str), r.length ≤ (PySem.Str.join sep (p :: r)).length ∧ ∀ q ∈ p :: r, q.length ≤ (PySem.Str.join sep (p :: r)).length
  | [], p => ⟨Nat.zero_le _, fun q hq => by rw [List.mem_singleton.mp hq]; exact Nat.le_refl _⟩
  | p2 :: r, p => by
    obtain ⟨h1, h2⟩ := join_bounds sep h r p2
    have e : PySem.Str.join sep (p :: p2 :: r) = p ++ sep ++ PySem.Str.join sep (p2 :: r) := rfl
    rw [e]
    simp only [PySem.Str.length_append, List.length_cons]
    refine ⟨by omega, fun q hq => ?_⟩
    rcases List.mem_cons.mp hq with rfl | hq
    · omega
    · have := h2 q hq; omega
theorem ell_ctr (w : World) (p : Program) (loose : List PySem.Str) (mean : ExcName → Option Value) (mg mb : PySem.Str → Option Value) (x y : PySem.Str) (t u : Tok) (W G : List (List Nat)) (news : List (Addr × Obj)) (hx : x = strL (lineL W)) (hy : y = strL (lineL G)) (hxl : x.length ≤ 1000) (hyl : y.length ≤ 1000) (hW : ∀ a ∈ W, GoodWd a) (hG : ∀ g ∈ G, GoodG g) :
    Ctr 4 40 w p loose mean mg mb 51 [.str x t, .str y u] news (fun r news' => news' = news ∧ ∃ b, r = .bool b ∧ (b = true ↔ Mt W G ∨ W = [dotsL])) := by
  have hX : x.cps.toList = lineL W := by rw [hx, strL_cps]
  have hY : y.cps.toList = lineL G := by rw [hy, strL_cps]
  have key := ell_lines hW hG
  rw [← hX, ← hY] at key
  have weak : ∀ {post post' : Value → List (Addr × Obj) → Prop}, (∀ r n, post r n → post' r n) → Ctr 4 40 w p loose mean mg mb 51 [.str x t, .str y u] news post → Ctr 4 40 w p loose mean mg mb 51 [.str x t, .str y u] news post' := by
    intro post post' hp C
    unfold Ctr at C ⊢
    intro dp un gd cn cs a ccd cl outer A₀ base h₀ L m s Q E B F X N T hk hd hu hret
    exact C dp un gd cn cs a ccd cl outer A₀ base h₀ L m s Q E B F X N T hk hd hu fun r h' tk' news' F' N' q => hret r h' tk' news' F' N' (hp r news' q)
  cases hc : (occurrences x dots 0 x.length 1).isEmpty with
  | true =>
    refine weak ?_ (ell_plain w p loose mean mg mb x y t u news hxl hyl hc)
    rintro r n ⟨rfl, rfl⟩
    refine ⟨rfl, _, rfl, ?_⟩
    rw [none_pat hc, glob_lit] at key
    rw [← key, beq_iff_eq]
    constructor
    · rintro rfl; rfl
    · intro e; rw [← strL_of x, ← strL_of y, e]
  | false =>
    obtain ⟨p0, mid, pn, hsp⟩ := some_split hc
    have hj := join_split x dots
    rw [hsp] at hj
    obtain ⟨b1, b2⟩ := join_bounds dots (by rw [dots_len]; decide) (mid ++ [pn]) p0
    rw [hj] at b1 b2
    have hm : mid.length ≤ 1000 := by rw [List.length_append] at b1; omega
    refine weak ?_ (ell_dots w p loose mean mg mb x y p0 pn mid t u news hxl hyl hc hsp (Nat.le_trans (b2 _ (.head _)) hxl) (Nat.le_trans (b2 _ (by simp)) hxl) hm (fun q hq => Nat.le_trans (b2 _ (by simp [hq])) hxl))
    rintro r n ⟨rfl, rfl⟩
    refine ⟨rfl, _, rfl, ?_⟩
    have hp := split_pat hc
    rw [hsp, List.map_cons, List.map_append, List.map_singleton] at hp
    rw [← key, ← hp, glob_pieces, ellRest_iff]
end Mine
end

-- part G7
section
open PySem PySem.W PyProof.Rows
set_option maxRecDepth 100000
namespace Mine
/-- the lexer reads a joined line as its words -/
theorem toks_line : ∀ (W : List (List Nat)), W ≠ [] → Toks .blank (lineL W) W
  | [], h => absurd rfl h
  | [w], _ => .more (lex_end w) (.done (by rfl))
  | w :: v :: r, _ => .more (lex_next w _) (toks_line (v :: r) (by simp))
/-- join gives the joined line -/
theorem join_line : ∀ (W : List (List Nat)), (PySem.Str.join (PySem.Str.ofString " ") (W.map fun w => strL (quoteL w))) = strL (lineL W)
  | [] => by decide +kernel
  | [w] => rfl
  | w :: v :: r => by
    have ih := join_line (v :: r)
    show strL (quoteL w) ++ PySem.Str.ofString " " ++ PySem.Str.join (PySem.Str.ofString " ") ((v :: r).map fun w => strL (quoteL w)) = _
    rw [ih, show PySem.Str.ofString " " = strL [32] by decide +kernel, strL_append, strL_append]
    show strL (quoteL w ++ [32] ++ lineL (v :: r)) = strL (quoteL w ++ 32 :: lineL (v :: r))
    rw [List.append_assoc]
    rfl
theorem txt_join (W : List (List Nat)) : Txt.join (PySem.Str.ofString " ") (W.map fun w => strL (quoteL w)) = strL (lineL W) := by
  show Builtin.Str.glued _ _ = _
  rw [StrLaws.glued_eq_join, join_line]
theorem join_fits {W : List (List Nat)} (h : ∀ w ∈ W, w.length ≤ 4) (hl : W.length ≤ 100) : JoinOk (PySem.Str.ofString " ") (W.map fun w => strL (quoteL w)) = true := by
  have h1 : (PySem.Str.ofString " ").length = 1 := by decide +kernel
  have := StrLaws.joinFits (sep := PySem.Str.ofString " ") (texts := W.map fun w => strL (quoteL w)) (B := 22) (fun y hy => by
    obtain ⟨w, hw, rfl⟩ := List.mem_map.mp hy
    rw [strL_len]
    have := quote_len w
    have := h w hw
    omega) (by rw [List.length_map, h1]; omega)
  unfold JoinOk
  rw [Bool.not_eq_true']
  exact this
end Mine
end

-- part X2
section
open PySem PySem.W PyProof.Rows PySem.Calls PySem.Spec
set_option maxRecDepth 100000
namespace Mine
/-- the list of joined beginnings -/
noncomputable def LinesOf (W : List (List Nat)) (n : Nat) (ql : List (PySem.Str × Tok)) : Prop := ql.map (·.1) = (List.range n).map fun k => strL (lineL (W.take k))
section
variable {prog : Program} {w : World} {A : Around} {E : Value → Shared → Prop} {s : Shared} {h₀ : Heap} {L : Addr} {m : PySem.Str → Option Value} {env : Env}
theorem comp_joins {elt iter : Expr} {x y : PySem.Str} {px py : Pos} {scope : Scope} {cl : List (PySem.Str × Addr)} {pos spos : Pos} {Q : Flow → Shared → Prop} {ps₀ : Array Value} {news : List (Addr × Obj)} {s₀ : Shared} (W : List (List Nat)) (hW : W.length ≤ 100)
    (_F : Fr h₀ L s.heap m) (_N : News h₀ L s.heap (tabE ps₀ :: news)) (ht : TriplesOk ps₀.toList) (hg : AllBare s.gens) (hos : s.os = s₀.os) (hLe : env.locals = L) (hh : A.handled = none)
    (hsw : swapsWith (.ListComp elt [⟨.Name x px, iter, [], 0⟩] scope pos) (some (.Name y py)) spos.line env = pure true)
    (hclos : closureFor scope env = pure cl) (hcell : ∀ z ∈ scope.names, z.2 ≠ .cell) (hkind : scope.kind = .function)
    (hnames : ∀ z ∈ scope.names, z.2 = .local → scope.names.lookup z.1 = some .local) (hx : scope.names.lookup x = some .local)
    (hy : env.kindOf y = some .local) (hp : (env.scope.kind == .class || (env.scope.kind == .module && env.locals != env.globals)) = false)
    (h : wpAny (model prog w) A (eval iter env) (fun xv s₁ => ∃ r t u v h tk, xv = .ref r ∧ s₁ = { s with heap := h, toks := tk } ∧ Fr h₀ L h m ∧ News h₀ L h (tabE ps₀ :: news) ∧ IsRange h r 0 ((W.length : Int) + 1) 1 t u v) (fun _ _ => False) s)
    (step : ∀ i t' I oI C oC D m₂ s₁ ql ps, i ≤ W.length → TriplesOk ps.toList → AllBare s₁.gens → LCg.NsObj oC m₂ → m₂ x = some (.int (i : Int) t') → Fr h₀ L s₁.heap m → News h₀ L s₁.heap ((I, oI) :: (C, oC) :: (D, LCg.lst (strValues ql)) :: tabE ps :: news) → (∀ p ∈ (tabE ps :: news : List (Addr × Obj)), @LT.lt Nat _ p.1 I) → (@LT.lt Nat _ I C ∧ @LT.lt Nat _ I D ∧ @Ne Nat C D) →
      wpAny (model prog w) A (eval elt (compEnvC scope cl C env)) (fun yv s₂ => ∃ ps' t, TriplesOk ps'.toList ∧ AllBare s₂.gens ∧ s₂.os = s₁.os ∧ Fr h₀ L s₂.heap m ∧ News h₀ L s₂.heap ((I, oI) :: (C, oC) :: (D, LCg.lst (strValues ql)) :: tabE ps' :: news) ∧ yv = .str (strL (lineL (W.take i))) t) (fun _ _ => False) s₁)
    (done : ∀ D ql ps s', LinesOf W (W.length + 1) ql → TriplesOk ps.toList → AllBare s'.gens → s'.os = s₀.os → Fr h₀ L s'.heap (fun z => if z = y then some (.ref D) else m z) → News h₀ L s'.heap ((D, LCg.lst (strValues ql)) :: tabE ps :: news) → (∀ p ∈ (tabE ps :: news : List (Addr × Obj)), @LT.lt Nat _ p.1 D) → Q .next s')
    (hs : ∀ x, foldedSetIterable iter env x = pure x := by intro _; rfl) :
    wpAny (model prog w) A (exec (.Assign [.Name y py] (.ListComp elt [⟨.Name x px, iter, [], 0⟩] scope pos) spos) env) Q E s := by
  refine comp_gens (n := W.length + 1) (L := L) (m := m) (h₀ := h₀) (fun z => AllBare z.gens ∧ z.os = s₀.os) (fun lg => ∃ ps, lg = tabE ps :: news ∧ TriplesOk ps.toList) (fun i ys => ∃ ql, ys = strValues ql ∧ LinesOf W i ql) hLe hh (fun _ _ _ h => h) hsw hclos hcell hkind hnames hx hy hp (by rw [sizeLine_eq]; omega) (wpAny_mono h (fun xv s₁ h₁ => ?_) fun _ _ e => e) ⟨[], rfl, rfl⟩ ?_ ?_ hs
  · obtain ⟨r, t, u, v, h', tk, rfl, rfl, F', N', R⟩ := h₁
    exact ⟨r, 0, _, t, u, v, _, rfl, rfl, F', N', ⟨ps₀, rfl, ht⟩, ⟨hg, hos⟩, R, small_one (by decide) (by decide) (by omega) (by omega), by rw [rangeSize_nat]; omega⟩
  · rintro i t' I oI C oC D m₂ s₁ ys lg hi ⟨ql, rfl, hql⟩ ⟨ps, rfl, htp⟩ ⟨hg1, hos1⟩ hC hm F1 N1 off hne hlt hlt2
    refine wpAny_mono (step i t' I oI C oC D m₂ s₁ ql ps (by omega) htp hg1 hC hm F1 N1 hlt ⟨hlt2.1, hlt2.2, hne.2.2⟩) (fun yv s₂ h₂ => ?_) fun _ _ e => e
    obtain ⟨ps', t, htp', hg2, hos2, F2, N2, rfl⟩ := h₂
    refine ⟨tabE ps' :: news, ⟨ps', rfl, htp'⟩, ⟨hg2, hos2.trans hos1⟩, F2, N2, ⟨off.1, off.2⟩, fun p hp => ?_, ql ++ [(strL (lineL (W.take i)), t)], by simp [strValues], ?_⟩
    · rcases List.mem_cons.mp hp with rfl | hp
      · exact hlt (tabE ps) (.head _)
      · exact hlt p (.tail _ hp)
    · unfold LinesOf at hql ⊢
      rw [List.map_append, hql, List.range_succ, List.map_append]
      rfl
  · rintro D ys lg s' ⟨ql, rfl, hql⟩ ⟨ps, rfl, htp⟩ ⟨hg1, hos1⟩ F1 N1 off hlt
    exact done D ql ps s' hql htp hg1 hos1 F1 N1 hlt
/-- the ledger of the law, set in order -/
theorem ledger_pick {h : Heap} {T cG cW : Addr} {oT oG oW oP : Obj} {tA g v : Addr × Obj} {rl : List (Addr × Obj)} (N : News h₀ L h ((T, oT) :: (rl ++ [tA, g, v, (cG, oG), (cW, oW), (753, oP)]))) : News h₀ L h ((753, oP) :: (cW, oW) :: (cG, oG) :: v :: g :: (T, oT) :: rl) := by
  intro p hp
  refine N p ?_
  simp only [List.mem_cons, List.mem_append, List.not_mem_nil, or_false] at hp ⊢
  rcases hp with h | h | h | h | h | h | h
  · exact .inr (.inr (.inr (.inr (.inr (.inr (.inr h))))))
  · exact .inr (.inr (.inr (.inr (.inr (.inr (.inl h))))))
  · exact .inr (.inr (.inr (.inr (.inr (.inl h)))))
  · exact .inr (.inr (.inr (.inr (.inl h))))
  · exact .inr (.inr (.inr (.inl h)))
  · exact .inl h
  · exact .inr (.inl h)
theorem no753 {h : Heap} {ps : Array Value} {T cG cW wL gL : Addr} {oG oW : Obj} {vG vW : Option Value} {a b c : Array Value} {ca cb cc : Nat} {rl : List (Addr × Obj)} (N : News h₀ L h (tabE ps :: (cW, oW) :: (cG, oG) :: (wL, listOf a ca) :: (gL, listOf b cb) :: (T, listOf c cc) :: rl)) (dW : oW.data = Data.cell vW) (dG : oG.data = Data.cell vG) (hrl : ∀ q ∈ rl, q.2.cls = .type "list") :
    ∀ q ∈ (cW, oW) :: (cG, oG) :: (wL, listOf a ca) :: (gL, listOf b cb) :: (T, listOf c cc) :: rl, q.1 ≠ 753 := by
  intro q hq e
  have h1 := (N q (.tail _ hq)).1
  have h2 := (N _ (.head _)).1
  rw [e] at h1
  have e2 : tabObj ps = q.2 := Option.some.inj (h2.symm.trans h1)
  rcases List.mem_cons.mp hq with rfl | hq
  · have : (tabObj ps).data = Data.cell vW := by rw [e2]; exact dW
    cases this
  rcases List.mem_cons.mp hq with rfl | hq
  · have : (tabObj ps).data = Data.cell vG := by rw [e2]; exact dG
    cases this
  rcases List.mem_cons.mp hq with rfl | hq
  · cases congrArg Obj.cls e2
  rcases List.mem_cons.mp hq with rfl | hq
  · cases congrArg Obj.cls e2
  rcases List.mem_cons.mp hq with rfl | hq
  · cases congrArg Obj.cls e2
  · have := hrl q hq
    rw [← e2] at this
    cases this
theorem joins_in {h : Heap} {a b c d t : Addr × Obj} {news : List (Addr × Obj)} (N : News h₀ L h (a :: b :: c :: d :: t :: news)) : News h₀ L h (t :: a :: b :: c :: d :: news) := by
  intro p hp
  refine N p ?_
  simp only [List.mem_cons] at hp ⊢
  rcases hp with h | h | h | h | h | h
  · exact .inr (.inr (.inr (.inr (.inl h))))
  · exact .inl h
  · exact .inr (.inl h)
  · exact .inr (.inr (.inl h))
  · exact .inr (.inr (.inr (.inl h)))
  · exact .inr (.inr (.inr (.inr (.inr h))))
theorem joins_out {h : Heap} {a b c d t : Addr × Obj} {news : List (Addr × Obj)} (N : News h₀ L h (t :: a :: b :: c :: d :: news)) : News h₀ L h (b :: c :: d :: t :: news) := by
  intro p hp
  refine N p ?_
  simp only [List.mem_cons] at hp ⊢
  rcases hp with h | h | h | h | h
  · exact .inr (.inr (.inl h))
  · exact .inr (.inr (.inr (.inl h)))
  · exact .inr (.inr (.inr (.inr (.inl h))))
  · exact .inl h
  · exact .inr (.inr (.inr (.inr (.inr h))))
theorem words_short {ql : List (PySem.Str × Tok)} {W : List (List Nat)} (h : ql.map (·.1) = W.map strL) (hW : ∀ w ∈ W, w.length ≤ 4) : ∀ q ∈ ql, q.1.length ≤ 1000 := by
  intro q hq
  have := List.mem_map_of_mem (f := fun x : PySem.Str × Tok => x.1) hq
  rw [h] at this
  obtain ⟨w, hw, e⟩ := List.mem_map.mp this
  have h4 := hW w hw
  show q.1.length ≤ 1000
  rw [← e, strL_len]
  omega
theorem news_swap2 {h : Heap} {a b : Addr × Obj} {news : List (Addr × Obj)} (N : News h₀ L h (a :: b :: news)) : News h₀ L h (b :: a :: news) := fun p hp => N p (by
  rcases List.mem_cons.mp hp with rfl | hp
  · exact .tail _ (.head _)
  rcases List.mem_cons.mp hp with rfl | hp
  · exact .head _
  · exact .tail _ (.tail _ hp))
theorem take_strs {wq : List (PySem.Str × Tok)} (j : Nat) : (strValues wq).take j = strValues (wq.take j) := by simp [strValues, List.map_take]
theorem quote_map {ql : List (PySem.Str × Tok)} {W : List (List Nat)} (h : ql.map (·.1) = W.map strL) : (ql.map fun q => strL (quoteL q.1.cps.toList)) = W.map fun w => strL (quoteL w) := by
  have := congrArg (List.map fun x : PySem.Str => strL (quoteL x.cps.toList)) h
  rw [List.map_map, List.map_map] at this
  have e : ((fun x : PySem.Str => strL (quoteL x.cps.toList)) ∘ fun q : PySem.Str × Tok => q.1) = fun q => strL (quoteL q.1.cps.toList) := rfl
  have e2 : ((fun x : PySem.Str => strL (quoteL x.cps.toList)) ∘ strL) = fun w => strL (quoteL w) := by funext w; simp [strL_cps]
  rw [e, e2] at this
  exact this
theorem take_words {ql : List (PySem.Str × Tok)} {W : List (List Nat)} (h : ql.map (·.1) = W.map strL) (j : Nat) : (ql.take j).map (·.1) = (W.take j).map strL := by rw [List.map_take, h, List.map_take]
end
end Mine
end

-- part L7
section
open PySem PySem.W PyProof.Rows PySem.Calls PySem.Spec
set_option maxRecDepth 100000
namespace Mine
section
variable {prog : Program} {w : World} {A : Around} {E : Value → Shared → Prop} {s : Shared} {env : Env} {h₀ : Heap} {x : PySem.Str} {body : List Stmt} {Q : Flow → Shared → Prop}
theorem for_rangeM {σ : Type} {r : Addr} {b : Int} {t u v : Tok} {n : Nat} {m₀ : PySem.Str → Option Value} {news : List (Addr × Obj)} (up : σ → (PySem.Str → Option Value) → PySem.Str → Option Value)
    (hh : A.handled = none) (F : Fr h₀ env.locals s.heap m₀) (N : News h₀ env.locals s.heap news) (hr : IsRange s.heap r 0 b 1 t u v) (hb : b = (n : Int)) (hn : n ≤ 1000) (h0 : ∃ a₀, ∀ z, z ≠ x → m₀ z = up a₀ m₀ z)
    (turn : ∀ i t' a h tk own I, i < n → (∀ p ∈ news, p.1 ≠ I) → (∀ p ∈ own, p.1 = I) → Fr h₀ env.locals h (fun y => if y = x then some (.int (i : Int) t') else up a m₀ y) → News h₀ env.locals h (news ++ own) →
      wpAny (model prog w) A (execs body env) (EndM h₀ env.locals I x own (fun a => up a m₀) (fun _ n' => n' = news) { s with heap := h, toks := tk } Q) E { s with heap := h, toks := tk })
    (done : ∀ a u h tk, Fr h₀ env.locals h (fun y => if y = x then u else up a m₀ y) → News h₀ env.locals h news → Q .next { s with heap := h, toks := tk }) :
    wpAny (model prog w) A (pyIter (.ref r)) (fun it s₂ => LoopAtV prog w A h₀ env x body Q E it s₂) E s := by
  subst hb
  obtain ⟨a₀, hu⟩ := h0
  refine for_range (n := n) (fun _ m n' => n' = news ∧ ∃ a, ∀ z, z ≠ x → m z = up a m₀ z) hh F N hr (small_one (by decide) (by decide) (by omega) (by omega)) (by rw [rangeSize_nat]; omega) ⟨rfl, a₀, hu⟩ ?_ ?_
  · rintro i t' m₁ news₁ h tk own I hi ⟨rfl, a, hm⟩ hI ho F₁ N₁
    have e : (fun y => if y = x then some (Value.int (0 + (i : Int)) t') else m₁ y) = fun y => if y = x then some (.int (i : Int) t') else up a m₀ y := by
      funext y
      by_cases hy : y = x
      · rw [if_pos hy, if_pos hy, Int.zero_add]
      · rw [if_neg hy, if_neg hy, hm y hy]
    rw [e] at F₁
    refine wpAny_mono (turn i t' a h tk own I hi hI ho F₁ N₁) (fun f s₂ p => ?_) fun _ _ e => e
    cases f with
    | ret v => exact p
    | brk => exact p
    | next => obtain ⟨h', tk', m', news', a', e1, e2, e3, e4, e5, e6⟩ := p; exact ⟨h', tk', m', news', e1, e2, e4, e5, e6, a', e3⟩
    | cont => obtain ⟨h', tk', m', news', a', e1, e2, e3, e4, e5, e6⟩ := p; exact ⟨h', tk', m', news', e1, e2, e4, e5, e6, a', e3⟩
  · rintro m₁ news₁ h tk ⟨rfl, a, hm⟩ F₁ N₁
    have e : m₁ = fun y => if y = x then m₁ x else up a m₀ y := by
      funext y
      by_cases hy : y = x
      · rw [if_pos hy, hy]
      · rw [if_neg hy, hm y hy]
    rw [e] at F₁
    exact done a _ h tk F₁ N₁
end
end Mine
end

-- part X1
section
open PySem PySem.W PyProof.Rows PySem.Calls
set_option maxRecDepth 100000
namespace Mine
theorem slice_takeN (ys : List Value) (j : Nat) : (slicePick ys.toArray none (some (j : Int)) none).toList = ys.take j := by
  have := slice_take ys j
  rw [Int.zero_add] at this
  exact this
/-- the names that the law's loops turn -/
noncomputable def up2 (a : Option Value × Option Value) (m : PySem.Str → Option Value) (z : PySem.Str) : Option Value := if z = PySem.Str.ofString "j" then a.1 else if z = PySem.Str.ofString "due" then a.2 else m z
noncomputable def up1 (a : Option Value) (m : PySem.Str → Option Value) (z : PySem.Str) : Option Value := if z = PySem.Str.ofString "due" then a else m z
theorem up2_self (m : PySem.Str → Option Value) : ∃ a, ∀ z, m z = up2 a m z := ⟨(m (PySem.Str.ofString "j"), m (PySem.Str.ofString "due")), fun z => by
  unfold up2
  by_cases h1 : z = PySem.Str.ofString "j"
  · rw [if_pos h1, h1]
  · rw [if_neg h1]
    by_cases h2 : z = PySem.Str.ofString "due"
    · rw [if_pos h2, h2]
    · rw [if_neg h2]⟩
theorem up1_self (m : PySem.Str → Option Value) : ∃ a, ∀ z, m z = up1 a m z := ⟨m (PySem.Str.ofString "due"), fun z => by
  unfold up1
  by_cases h2 : z = PySem.Str.ofString "due"
  · rw [if_pos h2, h2]
  · rw [if_neg h2]⟩
theorem strs_item {ql : List (PySem.Str × Tok)} {W : List (List Nat)} {n j : Nat} (h : LinesOf W n ql) (hj : j < n) : ∃ t, (strValues ql).toArray[((j : Nat) : Int).toNat]? = some (.str (strL (lineL (W.take j))) t) := by
  have h1 : (ql.map (·.1))[j]? = some (strL (lineL (W.take j))) := by rw [h]; simp [hj]
  rw [List.getElem?_map] at h1
  obtain ⟨q, hq, e1⟩ := Option.map_eq_some_iff.mp h1
  refine ⟨q.2, ?_⟩
  rw [← e1]
  simp [strValues, hq]
theorem up1_end {v : Value} {vd vj : Option Value} {m : PySem.Str → Option Value} : ∀ z, z ≠ PySem.Str.ofString "j" → (fun y => if y = PySem.Str.ofString "due" then some v else if y = PySem.Str.ofString "j" then vj else up1 vd m y) z = up1 (some v) m z := by
  intro z hz
  unfold up1
  by_cases h : z = PySem.Str.ofString "due"
  · simp [h]
  · simp [h, hz]
theorem only_dots {W : List (List Nat)} {ql : List (PySem.Str × Tok)} {t : Tok} (h : ql.map (·.1) = W.map strL) : ((ql.map (·.1) == [(PySem.Str.ofString "...", t)].map (·.1)) = true) ↔ W = [dotsL] := by
  rw [h, beq_iff_eq]
  have e : PySem.Str.ofString "..." = strL dotsL := by decide +kernel
  constructor
  · intro h
    match W, h with
    | [a], h =>
      simp only [List.map_cons, List.map_nil, List.cons.injEq, and_true] at h
      rw [strL_inj (h.trans e)]
    | [], h => cases h
    | a :: b :: r, h => simp at h
  · rintro rfl
    show [strL dotsL] = [PySem.Str.ofString "..."]
    rw [e]
theorem eq_dots {prog : Program} {w : World} {A : Around} {E : Value → Shared → Prop} {s : Shared} {a b : Addr} {xs : List (PySem.Str × Tok)} {t : Tok} {W : List (List Nat)} {Q : Value → Shared → Prop} (hx : xs.map (·.1) = W.map strL) (ha : s.heap.IsList a (strValues xs).toArray) (hb : s.heap.IsList b (strValues [(PySem.Str.ofString "...", t)]).toArray) (hu : A.units < cLine) (h : ∀ e : Bool, (e = true ↔ W = [dotsL]) → Q (.bool e) s) :
    wpAny (model prog w) A (compareOp .Eq (.ref a) (.ref b)) Q E s := eq_strs ha hb hu (h _ (only_dots hx))
theorem up2_end {vi u a : Option Value} {v : Option Value × Option Value} {m : PySem.Str → Option Value} : ∀ z, z ≠ PySem.Str.ofString "i" → (fun y => if y = PySem.Str.ofString "j" then u else up1 a (fun y => if y = PySem.Str.ofString "i" then vi else up2 v m y) y) z = up2 (u, a) m z := by
  intro z hz
  unfold up1 up2
  by_cases h : z = PySem.Str.ofString "j"
  · simp [h]
  · by_cases h2 : z = PySem.Str.ofString "due"
    · simp [h2]
    · simp [h, h2, hz]
theorem lines_last {ql : List (PySem.Str × Tok)} {W : List (List Nat)} (h : LinesOf W (W.length + 1) ql) : ql.map (·.1) = ((List.range W.length).map fun k => strL (lineL (W.take k))) ++ [strL (lineL W)] := by
  unfold LinesOf at h
  rw [h, List.range_succ, List.map_append]
  simp
theorem rows_good (xs : List (Int × Tok)) : (∀ a ∈ (xs.take 6).flatMap (fun q : Int × Tok => rowW q.1) ++ [[46, 46, 46], [105, 116, 39, 115]], GoodWd a ∧ a.length ≤ 4) ∧ (∀ a ∈ (xs.take 6).flatMap (fun q : Int × Tok => rowG q.1) ++ [[], [105, 116, 39, 115]], GoodWd a ∧ a.length ≤ 4) ∧
    ((xs.take 6).flatMap (fun q : Int × Tok => rowW q.1) ++ [[46, 46, 46], [105, 116, 39, 115]]).length ≤ 14 ∧ ((xs.take 6).flatMap (fun q : Int × Tok => rowG q.1) ++ [[], [105, 116, 39, 115]]).length ≤ 14 := by
  have hw : ∀ n, GoodWd (wordL n) ∧ (wordL n).length ≤ 4 := fun n => ⟨good_word n, word_short n⟩
  have h3 : GoodWd [105, 116, 39, 115] ∧ [105, 116, 39, 115].length ≤ 4 := ⟨⟨by decide, .inr (lit_of_B (by decide +kernel))⟩, by decide⟩
  have h0 : GoodWd [] ∧ ([] : List Nat).length ≤ 4 := ⟨⟨by decide, .inr (lit_of_B (by decide +kernel))⟩, by decide⟩
  have hd : GoodWd [46, 46, 46] ∧ [46, 46, 46].length ≤ 4 := ⟨good_dots, by decide⟩
  have size : ∀ (f : Int → List (List Nat)), (∀ x, (f x).length ≤ 2) → ∀ ys : List (Int × Tok), (ys.flatMap fun q => f q.1).length ≤ 2 * ys.length := by
    intro f hf ys
    induction ys with
    | nil => simp
    | cons y ys ih => simp only [List.flatMap_cons, List.length_append, List.length_cons]; have := hf y.1; omega
  have h6 : (xs.take 6).length ≤ 6 := List.length_take_le ..
  refine ⟨fun a ha => ?_, fun a ha => ?_, ?_, ?_⟩
  · rcases List.mem_append.mp ha with ha | ha
    · obtain ⟨q, _, hq⟩ := List.mem_flatMap.mp ha
      unfold rowW at hq
      split at hq
      · rw [List.mem_singleton.mp hq]; exact hd
      · split at hq
        · rw [List.mem_singleton.mp hq]; exact hw _
        · cases hq
    · rcases List.mem_cons.mp ha with rfl | ha
      · exact hd
      · rw [List.mem_singleton.mp ha]; exact h3
  · rcases List.mem_append.mp ha with ha | ha
    · obtain ⟨q, _, hq⟩ := List.mem_flatMap.mp ha
      unfold rowG at hq
      split at hq
      · obtain ⟨k, _, rfl⟩ := List.mem_map.mp hq
        exact hw _
      · split at hq
        · cases hq
        · rw [List.mem_singleton.mp hq]; exact hw _
    · rcases List.mem_cons.mp ha with rfl | ha
      · exact h0
      · rw [List.mem_singleton.mp ha]; exact h3
  · have := size rowW rowW_len (xs.take 6)
    simp only [List.length_append, List.length_cons, List.length_nil]
    omega
  · have := size rowG rowG_len (xs.take 6)
    simp only [List.length_append, List.length_cons, List.length_nil]
    omega
section
local macro_rules | `(tactic| walk_at "call builtin:len") => `(tactic| (k_here; (with_reducible show wpAny _ _ (call (Value.builtin "len") [Value.ref _]) _ _ _); k_dflt (refine len_at (by k_asm) (by repeat first | assumption | apply List.Mem.head | apply List.Mem.tail) ‹_› (by omega) ?_; k_whole); intro _ _))
local macro_rules | `(tactic| walk_at "subscriptTail Name Slice ref ref") => `(tactic| (k_here; (with_reducible show wpAny _ _ (subscriptTail _ (PySem.Expr.Slice _ _ none _) (Value.ref _) (Value.ref _)) _ _ _); k_dflt (refine kmk_slice_lit (by k_asm) (by k_asm) (by exact News.isList (by k_asm) (by (repeat first | assumption | apply List.Mem.head | apply List.Mem.tail))) (by kmk_part) (by kmk_part) (by exact slice_takeN _ _) ?_ (by with_unfolding_all rfl) (by kmk_pure) (by (try simp only [List.size_toArray]); rw [sizeLine_eq]; omega)); intro D' h' F' N' l1; (try k_lt l1); (try k_sweep)))
local macro_rules | `(tactic| walk_at "subscriptTail Name Name ref int") => `(tactic| (k_here; refine held ?_))
local macro_rules | `(tactic| walk_at "subscriptTail Subscript Name ref int") => `(tactic| (k_here; refine held ?_))
local macro_rules | `(tactic| walk_at "subscriptTail Name UnaryOp ref int") => `(tactic| (k_here; refine held ?_))
local macro_rules | `(tactic| walk_at "subscriptTail") => `(tactic| (k_here; (with_reducible show wpAny _ _ (subscriptTail _ _ (Value.ref _) (Value.int _ _)) _ _ _); refine held ?_))
local macro_rules | `(tactic| walk_at "pyIter ref") => `(tactic| (k_here; refine held ?_))
local macro_rules | `(tactic| walk_at "compareOp Eq ref ref") => `(tactic| (k_here; refine held ?_))
local macro_rules | `(tactic| walk_at "call ref") => `(tactic| (k_here; refine held ?_))
local macro_rules | `(tactic| walk_at "exec Assign cons ListComp") => `(tactic| (k_here; refine held ?_))
local macro_rules | `(tactic| walk_at "exec For Name Call cons nil") => `(tactic| (k_here; refine held ?_))
local macro_rules | `(tactic| walk_at "exec For") => `(tactic| (k_here; refine held ?_))
set_option maxHeartbeats 4000000 in
theorem law_holds : PySem.Challenge.rw_ij0141_01.Holds := by
  refine Mine.hd ?_
  k_fill
  intro w s₀ s₁ mg mb G Y fa o pm cd doc dV kV ho hd hcd hD hmg hg args vals as hpre hlay hrd hwl hlo
  have KX := km_in_of Y
  have hT8 := km_tabs_of Y
  refine Ground.open G ?_
  intro T B D TE TW
  try (refine guard_noD D (by decide +kernel) ?_; clear D)
  have hT9 : TabsAt [(757, 753)] _ := List.forall_mem_cons.mpr ⟨⟨codeHd_of_K (c := 757) (P := 753) KX (by kernel_rfl), hT8 753 (by k_mem)⟩, fun _ h => nomatch h⟩
  have hfa : fa = 795 := by
    have := mg_of KX T.g (by kernel_rfl : nsIn (Mine.hd.heap_1 w.params) mainGlobals (PySem.Str.ofString "law") = some (some (.ref 795)))
    have e := hmg.symm.trans this
    cases e
    rfl
  subst hfa
  clear hmg
  wrow_args hpre hlay hrd hwl hlo
  all_goals (first | refine callC_kw (enter_call ?_) | refine enter_call ?_)
  rename_i ns hs hlay0 hLy hr hl2 as1 as2 l vs as3 hL ra w1 r0 hI hr2 hcond htrue
  refine post_law hT9 (fun _ => rfl) ?_ ?_
  · exact postW_of (by wrow_shape) (by wtm_val) (by str_meet; first | done | w_fin)
  w_top on
  w_call any ho hd hcd hD T F
  rename News _ _ _ _ => N
  have h753 : 753 < s₁.heap.objs.size := Heap.lt_size (hT9 _ (.head _)).2
  have X' := ghost_K hT9 KX (by kernel_rfl)
  have T' := ghost_top hT9 T
  have F' := ghost_fr hT9 F
  have N' := ghost_news hT9 F N
  have C' := (ghost_code hT9).1
  have hL' := ghost_list hT9 hL
  simp only [tabNews, List.map_cons, List.map_nil, List.nil_append, List.cons_append] at N'
  clear F N hd hD hL ra w1 r0 T hT8 hT9 KX Y G TE TW B
  dsimp only at F' C' ⊢
  rename_i h1 tk1 oG oW dG dW X0
  replace dG : oG.data = Data.cell none := dG
  replace dW : oW.data = Data.cell none := dW
  clear X0
  generalize hgh : ghostOf s₁.heap [(757, 753)] = h₀ at *
  generalize hLL : s₁.heap.objs.size = L at *
  obtain ⟨xs, rfl, hxl⟩ := ints_pairs hI
  have hx63 : xs.length ≤ 63 := by omega
  obtain ⟨good1, good2, len1, len2⟩ := rows_good xs
  try k_fold
  k_steps
  unfold Held
  refine rows_ctr w _ _ _ _ _ l xs _ hx63 _ _ _ _ _ _ _ _ _ _ _ _ _ _ _ _ _ (below_caller h₀) F' X' N' T' hL' rfl (by decide) (by decide) ?_
  rintro _ h2 tk2 _ F2 N2 ⟨tA, gL, wL, cg, cw, wq, gq, rfl, rfl, hwq, hgq, l1, l2, l3⟩
  have ne1 : (xs.take 6).flatMap (fun q : Int × Tok => rowW q.1) ++ [[46, 46, 46], [105, 116, 39, 115]] ≠ [] := by simp
  have ne2 : (xs.take 6).flatMap (fun q : Int × Tok => rowG q.1) ++ [[], [105, 116, 39, 115]] ≠ [] := by simp
  generalize (xs.take 6).flatMap (fun q : Int × Tok => rowW q.1) ++ [[46, 46, 46], [105, 116, 39, 115]] = W at hwq good1 len1 ne1
  generalize (xs.take 6).flatMap (fun q : Int × Tok => rowG q.1) ++ [[], [105, 116, 39, 115]] = G at hgq good2 len2 ne2
  have a1 : L + 1 + 1 < wL := l1 _ (.head _)
  have a2 : L + 1 < wL := l1 _ (.tail _ (.head _))
  clear F' N'
  try k_fold
  k_steps
  unfold Held
  rename Fr _ _ _ _ => F2'
  rename News _ _ _ _ => N2'
  refine table_ctr w _ _ _ _ _ wL cw gL cg wq gq W G hwq hgq (by omega) (by omega) _ (.tail _ (.tail _ (.head _))) (.tail _ (.head _)) _ _ _ _ _ _ _ _ _ _ _ _ _ _ _ _ _ (below_caller h₀) F2' X' N2' T' rfl (by decide) (by decide) ?_
  rintro _ h3 tk3 _ F3 N3 ⟨T, cT, rs, rl, rfl, rfl, hrs, hrows, hrl⟩
  clear F2' N2'
  try k_fold
  k_steps
  unfold Held
  rename Fr _ _ _ _ => F3'
  rename News _ _ _ _ => N3'
  rename Obj.data _ = Data.cell (some (Value.ref gL)) => dG2
  rename Obj.data _ = Data.cell (some (Value.ref wL)) => dW2
  have N4 := ledger_pick N3'
  have hn0 := no753 N4 dW2 dG2 hrl
  have hgw : LenIs (strValues wq).toArray W.length := ⟨by have := congrArg List.length hwq; simpa [strValues] using this⟩
  have hwz : (strValues wq).length = W.length := by have := congrArg List.length hwq; simpa [strValues] using this
  have hgz : (strValues gq).length = G.length := by have := congrArg List.length hgq; simpa [strValues] using this
  have hgg : LenIs (strValues gq).toArray G.length := ⟨by have := congrArg List.length hgq; simpa [strValues] using this⟩
  clear N3'
  refine comp_joins (s₀ := s₁) W (by omega) F3' N4 True.intro (by show AllBare s₁.gens; rw [hg]; exact AllBare.empty) rfl rfl rfl (by exact rfl) (by exact rfl) (by decide) rfl (by decide) (by exact rfl) (by exact rfl) (by exact rfl) ?_ ?_ ?_
  case' refine_1 =>
    try k_fold
    k_steps
    all_goals assumption
  case' refine_2 =>
    rintro i t' I oI C oC D m₂ s2 ql ps hi htp hgb hC hm F5 N5 hlt hlt2
    try k_fold
    k_steps
    unfold Held
    rename Fr _ _ _ _ => F6
    rename News _ _ _ _ => N6
    rw [take_strs] at N6
    have N7 := joins_in N6
    have hIn : 753 < I := hlt (tabE ps) (.head _)
    have hCn : 753 < C := Nat.lt_trans hIn hlt2.1
    have hDn : 753 < D := Nat.lt_trans hIn hlt2.2.1
    have hwi := take_words hwq i
    have hgo : ∀ a ∈ W.take i, a.length ≤ 4 := fun a ha => (good1 a (List.mem_of_mem_take ha)).2
    refine join_ctr w _ _ _ _ _ _ 0 (wq.take i) _ ?_ (.head _) (words_short hwi hgo) (by rw [List.length_take]; have := congrArg List.length hwq; simp at this; omega) (by rw [quote_map hwi]; exact join_fits hgo (by rw [List.length_take]; omega)) _ _ _ _ _ _ _ _ _ _ _ _ _ _ _ _ _ _ (below_caller h₀) F6 X' N7 T' C' htp hgb rfl (by decide) (by decide) ?_
    · intro q hq
      rcases List.mem_cons.mp hq with rfl | hq
      · exact Nat.ne_of_gt (by assumption)
      rcases List.mem_cons.mp hq with rfl | hq
      · exact Nat.ne_of_gt hIn
      rcases List.mem_cons.mp hq with rfl | hq
      · exact Nat.ne_of_gt hCn
      rcases List.mem_cons.mp hq with rfl | hq
      · exact Nat.ne_of_gt hDn
      · exact hn0 q hq
    · rintro _ ps' s3 F7 N8 htp' hgb' hos' ⟨t7, rfl⟩
      refine ⟨ps', t7, htp', hgb', hos', F7, joins_out N8, ?_⟩
      rw [quote_map hwi, txt_join]
  rintro D1 ql1 ps1 ⟨hp3, gn3, dr3, tk3', os3⟩ hql1 htp1 hgb1 hos1 F8 N8 hlt8
  dsimp only at hgb1 hos1 F8 N8
  have N9 := news_swap2 N8
  have hD1 : D1 ≠ 753 := Nat.ne_of_gt (hlt8 _ (.head _))
  have hn1 : ∀ q ∈ (D1, LCg.lst (strValues ql1)) :: _, q.1 ≠ 753 := List.forall_mem_cons.mpr ⟨hD1, hn0⟩
  clear F3' N4 N8
  try k_fold
  k_steps
  unfold Held
  rename Fr _ _ _ _ => F9
  rename News _ _ _ _ => N9'
  refine comp_joins (s₀ := s₁) G (by omega) F9 N9' htp1 hgb1 hos1 rfl rfl (by exact rfl) (by exact rfl) (by decide) rfl (by decide) (by exact rfl) (by exact rfl) (by exact rfl) ?_ ?_ ?_
  case' refine_1 =>
    try k_fold
    k_steps
    all_goals assumption
  case' refine_2 =>
    rintro i t' I oI C oC D m₂ s2 ql ps hi htp hgb hC hm F5 N5 hlt hlt2
    try k_fold
    k_steps
    unfold Held
    rename Fr _ _ _ _ => F6
    rename News _ _ _ _ => N6
    rw [take_strs] at N6
    have N7 := joins_in N6
    have hIn : 753 < I := hlt (tabE ps) (.head _)
    have hCn : 753 < C := Nat.lt_trans hIn hlt2.1
    have hDn : 753 < D := Nat.lt_trans hIn hlt2.2.1
    have hwi := take_words hgq i
    have hgo : ∀ a ∈ G.take i, a.length ≤ 4 := fun a ha => (good2 a (List.mem_of_mem_take ha)).2
    refine join_ctr w _ _ _ _ _ _ 0 (gq.take i) _ ?_ (.head _) (words_short hwi hgo) (by rw [List.length_take]; have := congrArg List.length hgq; simp at this; omega) (by rw [quote_map hwi]; exact join_fits hgo (by rw [List.length_take]; omega)) _ _ _ _ _ _ _ _ _ _ _ _ _ _ _ _ _ _ (below_caller h₀) F6 X' N7 T' C' htp hgb rfl (by decide) (by decide) ?_
    · intro q hq
      rcases List.mem_cons.mp hq with rfl | hq
      · exact Nat.ne_of_gt (by assumption)
      rcases List.mem_cons.mp hq with rfl | hq
      · exact Nat.ne_of_gt hIn
      rcases List.mem_cons.mp hq with rfl | hq
      · exact Nat.ne_of_gt hCn
      rcases List.mem_cons.mp hq with rfl | hq
      · exact Nat.ne_of_gt hDn
      · exact hn1 q hq
    · rintro _ ps' s3 F7 N8 htp' hgb' hos' ⟨t7, rfl⟩
      refine ⟨ps', t7, htp', hgb', hos', F7, joins_out N8, ?_⟩
      rw [quote_map hwi, txt_join]
  rintro D2 ql2 ps2 ⟨hp4, gn4, dr4, tk4, os4⟩ hql2 htp2 hgb2 hos2 F10 N10 hlt10
  dsimp only at hgb2 hos2 F10 N10
  clear F9 N9'
  have hl1 : LenIs (strValues ql1).toArray (W.length + 1) := ⟨by have := congrArg List.length hql1; simpa [strValues] using this⟩
  have hl2 : LenIs (strValues ql2).toArray (G.length + 1) := ⟨by have := congrArg List.length hql2; simpa [strValues] using this⟩
  try k_fold
  k_steps
  unfold Held
  rename Fr _ _ _ _ => F11
  refine for_of F11 (by exact rfl) (by exact rfl) ?_
  try k_fold
  k_steps
  unfold Held
  rename Fr _ _ _ _ => F12
  rename News _ _ _ _ => N12
  rename IsRange _ _ _ _ _ _ _ _ => R12
  refine for_rangeM (σ := Option Value × Option Value) (n := W.length + 1) up2 rfl F12 N12 R12 rfl (by omega) (by obtain ⟨a, ha⟩ := up2_self _; exact ⟨a, fun z _ => ha z⟩) ?_ ?_
  · rintro i ti ⟨vj, vd⟩ hI tkI own I hi hIn hown FI NI
    (try clear F12); (try clear N12); (try clear R12); (try clear N10); (try clear F10)
    simp only [List.cons_append] at NI
    replace NI : News h₀ L _ _ := NI
    replace FI : Fr h₀ L _ _ := FI
    try k_fold
    k_steps
    unfold Held
    rename Fr _ _ _ _ => F13
    refine for_of F13 (by exact rfl) (by exact rfl) ?_
    try k_fold
    k_steps
    unfold Held
    rename Fr _ _ _ _ => F14
    rename News _ _ _ _ => N14
    rename IsRange _ _ _ _ _ _ _ _ => R14
    refine for_rangeM (σ := Option Value) (n := G.length + 1) up1 rfl F14 N14 R14 rfl (by omega) (by obtain ⟨a, ha⟩ := up1_self _; exact ⟨a, fun z _ => ha z⟩) ?_ ?_
    · rintro j tj vd2 hJ tkJ own2 I2 hj hJn hown2 FJ NJ
      (try clear F14); (try clear N14); (try clear R14); (try clear F13); (try clear FI); (try clear NI)
      simp only [List.cons_append] at NJ
      replace NJ : News h₀ L _ _ := NJ
      replace FJ : Fr h₀ L _ _ := FJ
      obtain ⟨ai, hai⟩ : ∃ a, rs[i]? = some a := ⟨_, List.getElem?_eq_getElem (by omega)⟩
      obtain ⟨ci, hci⟩ := hrows i ai hai
      obtain ⟨tw, htw⟩ := strs_item hql1 hi
      obtain ⟨tg, htg⟩ := strs_item hql2 hj
      have htab := tabRow_iff G W i (by omega) j (by omega)
      have hbit : ((tabRow G W i).map Value.bool).toArray[((j : Nat) : Int).toNat]? = some (.bool ((tabRow G W i).getD j false)) := by
        have hjr : j < (tabRow G W i).length := by rw [tabRow_len]; exact hj
        simp [List.getD_eq_getElem?_getD, hjr]
      have hrsi : (rs.map Value.ref).toArray[((i : Nat) : Int).toNat]? = some (.ref ai) := by simp [hai]
      have hlw : (strL (lineL (W.take i))).length ≤ 1000 := by
        rw [strL_len]
        have := line_len (W := W.take i) fun a ha => (good1 a (List.mem_of_mem_take ha)).2
        rw [List.length_take] at this
        omega
      have hlg : (strL (lineL (G.take j))).length ≤ 1000 := by
        rw [strL_len]
        have := line_len (W := G.take j) fun a ha => (good2 a (List.mem_of_mem_take ha)).2
        rw [List.length_take] at this
        omega
      have hgW : ∀ a ∈ W.take i, GoodWd a := fun a ha => (good1 a (List.mem_of_mem_take ha)).1
      have hgG : ∀ a ∈ G.take j, GoodG a := fun a ha => (good2 a (List.mem_of_mem_take ha)).1.1
      try k_fold
      k_steps
      unfold Held
      refine item_at NJ (.tail _ (.tail _ (.tail _ (.tail _ (.tail _ (.tail _ (.tail _ (.head _)))))))) (by omega) (by omega) hrsi ?_
      try k_fold
      k_steps
      unfold Held
      refine item_at NJ (.tail _ (.tail _ (.tail _ (.tail _ (.tail _ (.tail _ (.tail _ (.tail _ (List.mem_append_left _ (List.mem_append_left _ hci)))))))))) (by omega) (by omega) hbit ?_
      generalize (tabRow G W i).getD j false = tij at htab hbit ⊢
      cases tij with
      | true =>
        try k_fold
        k_steps
        unfold Held
        rename Fr _ _ _ _ => F15
        rename News _ _ _ _ => N15
        refine item_at N15 (.tail _ (.tail _ (.head _))) (by omega) (by omega) htw ?_
        try k_fold
        k_steps
        unfold Held
        refine item_at N15 (.head _) (by omega) (by omega) htg ?_
        try k_fold
        k_steps
        unfold Held
        refine ell_ctr w _ _ _ _ _ _ _ tw tg (W.take i) (G.take j) _ rfl rfl hlw hlg hgW hgG _ _ _ _ _ _ _ _ _ _ _ _ _ _ _ _ _ (below_caller h₀) F15 X' N15 T' rfl (by decide) (by decide) ?_
        rintro _ h7 tk7 _ F16 N16 ⟨rfl, b, rfl, hb⟩
        have hbt : b = true := hb.mpr (.inl (htab.mp rfl))
        subst hbt
        try k_fold
        k_steps
        dsimp only [EndM]
        refine ⟨_, _, _, _, some (.bool true), rfl, F16, up1_end, ?_, hJn, rfl⟩
        exact fun p hp => N16 p (by simpa only [List.append_assoc, List.cons_append] using hp)
      | false =>
        try k_fold
        k_steps
        unfold Held
        rename Fr _ _ _ _ => F15
        rename News _ _ _ _ => N15
        refine eq_dots (xs := wq.take i) (take_words hwq i) (by rw [← take_strs]; exact News.isList N15 (.tail _ (.head _))) (News.isList N15 (.head _)) (Nat.lt_of_le_of_lt (m := 10) (Nat.le_of_ble_eq_true rfl) (by decide)) ?_
        intro e hd
        try k_fold
        k_steps
        unfold Held
        rename News _ _ _ _ => N15
        rename Fr _ _ _ _ => F15
        refine item_at N15 (.tail _ (.tail _ (.tail _ (.tail _ (.head _))))) (by omega) (by omega) htw ?_
        try k_fold
        k_steps
        unfold Held
        refine item_at N15 (.tail _ (.tail _ (.head _))) (by omega) (by omega) htg ?_
        try k_fold
        k_steps
        unfold Held
        refine ell_ctr w _ _ _ _ _ _ _ tw tg (W.take i) (G.take j) _ rfl rfl hlw hlg hgW hgG _ _ _ _ _ _ _ _ _ _ _ _ _ _ _ _ _ (below_caller h₀) F15 X' N15 T' rfl (by decide) (by decide) ?_
        rintro _ h7 tk7 _ F16 N16 ⟨rfl, b, rfl, hb⟩
        have hbt : b = e := by
          rw [Bool.eq_iff_iff, hb, hd]
          constructor
          · rintro (h | h)
            · have := htab.mpr h; cases this
            · exact h
          · exact .inr
        subst hbt
        cases b with
        | true =>
          try k_fold
          k_steps
          dsimp only [EndM]
          refine ⟨_, _, _, _, some (.bool true), rfl, F16, up1_end, ?_, hJn, rfl⟩
          exact fun p hp => N16 p (List.mem_cons_of_mem _ (List.mem_cons_of_mem _ (by simpa only [List.append_assoc, List.cons_append] using hp)))
        | false =>
          try k_fold
          k_steps
          dsimp only [EndM]
          refine ⟨_, _, _, _, some (.bool false), rfl, F16, up1_end, ?_, hJn, rfl⟩
          exact fun p hp => N16 p (List.mem_cons_of_mem _ (List.mem_cons_of_mem _ (by simpa only [List.append_assoc, List.cons_append] using hp)))
    · intro a u hD tkD FD ND
      (try clear F14); (try clear N14); (try clear R14)
      try k_fold
      k_steps
      dsimp only [EndM]
      refine ⟨_, _, _, _, (u, a), rfl, FD, up2_end, ?_, hIn, rfl⟩
      exact fun p hp => ND p (by simpa only [List.append_assoc, List.cons_append] using hp)
  · rintro ⟨vj, vd⟩ u hO tkO FO NO
    (try clear F12); (try clear N12); (try clear R12)
    replace NO : News h₀ L _ _ := NO
    replace FO : Fr h₀ L _ _ := FO
    have hT1 : Toks .blank (strL (lineL W)).cps.toList W := by rw [strL_cps]; exact toks_line W ne1
    have hT2 : Toks .blank (strL (lineL G)).cps.toList G := by rw [strL_cps]; exact toks_line G ne2
    have hs1 : (strL (lineL W)).length ≤ 10000 := by
      rw [strL_len]
      have := line_len (W := W) fun a ha => (good1 a ha).2
      omega
    have hs2 : (strL (lineL G)).length ≤ 10000 := by
      rw [strL_len]
      have := line_len (W := G) fun a ha => (good2 a ha).2
      omega
    try k_fold
    k_steps
    unfold Held
    refine item_last NO (.tail _ (.tail _ (.head _))) (lines_last hql1) (fun t1 => ?_)
    try k_fold
    k_steps
    unfold Held
    rename Fr _ _ _ _ => F20
    refine read_top w _ _ _ _ _ (strL (lineL W)) t1 W _ hs1 hT1 (by omega) _ _ _ _ _ _ _ _ _ _ _ _ _ _ _ _ (below_caller h₀) F20 X' NO T' X' T' rfl (by decide) (by decide) ?_
    rintro _ h21 tk21 _ F21 N21 ⟨S1, c1, q1, rfl, hq1, rfl, hS1⟩
    try k_fold
    k_steps
    unfold Held
    refine item_last N21 (.tail _ (.head _)) (lines_last hql2) (fun t2 => ?_)
    try k_fold
    k_steps
    unfold Held
    rename Fr _ _ _ _ => F22
    refine read_top w _ _ _ _ _ (strL (lineL G)) t2 G _ hs2 hT2 (by omega) _ _ _ _ _ _ _ _ _ _ _ _ _ _ _ _ (below_caller h₀) F22 X' N21 T' X' T' rfl (by decide) (by decide) ?_
    rintro _ h23 tk23 _ F23 N23 ⟨S2, c2, q2, rfl, hq2, rfl, hS2⟩
    try k_fold
    k_steps
    unfold Held
    rename News _ _ _ _ => N24
    rename Fr _ _ _ _ => F24
    have m1 : @LT.lt Nat _ wL S1 := hS1 _ (.tail _ (.tail _ (.tail _ (.tail _ (.tail _ (.head _))))))
    have m2 : @LT.lt Nat _ gL S2 := hS2 _ (.tail _ (.tail _ (.tail _ (.tail _ (.tail _ (.tail _ (.tail _ (.head _))))))))
    refine eq_pairs (x1 := q1) (y1 := q2) (x2 := wq) (y2 := gq) (News.isList N24 (.tail _ (.head _))) (News.isList N24 (.head _)) (News.isList N24 (.tail _ (.tail _ (.tail _ (.head _))))) (News.isList N24 (.tail _ (.tail _ (.head _)))) (News.isList N24 (.tail _ (.tail _ (.tail _ (.tail _ (.tail _ (.tail _ (.tail _ (.tail _ (.tail _ (.head _))))))))))) (News.isList N24 (.tail _ (.tail _ (.tail _ (.tail _ (.tail _ (.tail _ (.tail _ (.tail _ (.tail _ (.tail _ (.head _)))))))))))) (Nat.ne_of_gt m1) (Nat.ne_of_gt m2) (hq1.trans hwq.symm) (hq2.trans hgq.symm) (Nat.lt_of_le_of_lt (m := 10) (Nat.le_of_ble_eq_true rfl) (by decide)) (Nat.lt_of_le_of_lt (m := 10) (Nat.le_of_ble_eq_true rfl) (by decide)) ?_
    try k_fold
    k_steps
    any_goals exact (N24 (753, tabObj ps2) (.tail _ (.tail _ (.tail _ (.tail _ (.tail _ (.head _))))))).1
    any_goals exact hgb2
end
end Mine
end

theorem Mine.off_X1 : True := by
  w_top off
  first | walk1 | trivial

end

theorem PySem.Challenge.cw_ij0141_01_holds : PySem.Challenge.rw_ij0141_01.Holds := by
  exact Mine.law_holds
