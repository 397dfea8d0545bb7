import PyProof.Rows.All
import Wide.All
import OpenK.AllK
import Wide.FinOn
import Lean
import PySem.Challenge.RW_nq0227_01
open PySem PySem.W PyProof.Rows
set_option Elab.async false
set_option compiler.extract_closed false
set_option linter.all false
namespace Mine
/- HdT -/
section
set_option maxRecDepth 1000000
set_option maxHeartbeats 0
section
variable {tb : String → Option Builtin} {p : Program} {w : World}
noncomputable def impT (tb : String → Option Builtin) (p : Program) (w : World) : Nat → SharedT → Thread → Option SharedT
  | 0, _, _ => none
  | n + 1, s, t => match t.atExitBegin with
    | some [] => some s
    | some (_ :: _) => none
    | none => match stepT (denote tb) p w s t with
      | some (s', t') => impT tb p w n s' t'
      | none => none
theorem impT_of : ∀ {n : Nat} {s s' : SharedT} {t : Thread}, impT tb p w n s t = some s' → importEnds tb p w n s.abs t = some s'.abs
  | 0, _, _, _, h => by cases h
  | n + 1, s, s', t, h => by
    unfold impT at h
    unfold importEnds
    cases he : t.atExitBegin with
    | some x =>
      rw [he] at h
      cases x with
      | nil => cases h; rfl
      | cons _ _ => cases h
    | none =>
      rw [he] at h
      cases hs : stepT (denote tb) p w s t with
      | none => rw [hs] at h; cases h
      | some r => obtain ⟨s₂, t₂⟩ := r; rw [hs] at h; dsimp only; rw [stepT_spec hs]; exact impT_of h
noncomputable def topT (tb : String → Option Builtin) (p : Program) (w : World) (n₀ : Nat) (ann : Option Value) : Nat → SharedT → Thread → Option SharedT
  | 0, _, _ => none
  | n + 1, s, t => match through t with
    | true => some s
    | false => match stepOk n₀ ann t with
      | false => none
      | true => match stepT (denote tb) p w s t with
        | some (s', t') => topT tb p w n₀ ann n s' t'
        | none => none
theorem topT_of {n₀ : Nat} {ann : Option Value} : ∀ {n : Nat} {s s' : SharedT} {t : Thread}, topT tb p w n₀ ann n s t = some s' → topRun tb p w n₀ ann n s.abs t = some s'.abs
  | 0, _, _, _, h => by cases h
  | n + 1, s, s', t, h => by
    unfold topT at h
    unfold topRun
    cases he : through t with
    | true => rw [he] at h; cases h; rfl
    | false =>
      rw [he] at h
      cases hk : stepOk n₀ ann t with
      | false => rw [hk] at h; cases h
      | true =>
        rw [hk] at h
        cases hs : stepT (denote tb) p w s t with
        | none => rw [hs] at h; cases h
        | some r => obtain ⟨s₂, t₂⟩ := r; rw [hs] at h; dsimp only; rw [stepT_spec hs]; exact topT_of h
end
noncomputable def insAll : List Obj → BT → Nat → Option (BT × Nat)
  | [], T, n => some (T, n)
  | o :: l, T, n => match ((T.ins n o).get n).isSome with
    | true => insAll l (T.ins n o) (n + 1)
    | false => none
theorem insAll_of {life : Life} : ∀ {l : List Obj} {T : BT} {n : Nat} {T' : BT} {n' : Nat} {pre : List Obj}, absHeap T n life = ⟨pre.toArray, life⟩ → insAll l T n = some (T', n') → absHeap T' n' life = ⟨(pre ++ l).toArray, life⟩
  | [], T, n, T', n', pre, h, e => by cases e; rw [h, List.append_nil]
  | o :: l, T, n, T', n', pre, h, e => by
    unfold insAll at e
    cases hg : ((T.ins n o).get n).isSome with
    | false => rw [hg] at e; cases e
    | true =>
      rw [hg] at e
      have h2 : absHeap (T.ins n o) (n + 1) life = ⟨(pre ++ [o]).toArray, life⟩ := by
        rw [absHeap_ins hg, h]
        show Heap.push ⟨pre.toArray, life⟩ o = _
        unfold Heap.push
        simp
      have := insAll_of h2 e
      rw [this]; simp
noncomputable def toT (s : Shared) : Option SharedT := match insAll s.heap.objs.toList .nil 0 with
  | some (T, n) => some ⟨T, n, s.heap.life, s.gens, s.drawn, s.toks, s.os⟩
  | none => none
theorem toT_of {s : Shared} {z : SharedT} (h : toT s = some z) : z.abs = s := by
  unfold toT at h
  cases hq : insAll s.heap.objs.toList .nil 0 with
  | none => rw [hq] at h; cases h
  | some r =>
    obtain ⟨T, n⟩ := r
    rw [hq] at h
    cases h
    have := insAll_of (life := s.heap.life) (pre := []) (by rfl) hq
    show (⟨absHeap T n s.heap.life, s.gens, s.drawn, s.toks, s.os⟩ : Shared) = s
    rw [this]
    obtain ⟨⟨objs, life⟩, g, d, k, os⟩ := s
    simp
noncomputable def hdT (p : Program) (w : World) (N : Nat) (m₀ : Nat) (ann : Option Value) : Option Shared :=
  match impT treeTable (opening p) w N ⟨.nil, 0, {}, #[], {}, 1, (start (opening p)).1.os⟩ (start (opening p)).2 with
  | none => none
  | some e => match fenceModules? p e.abs with
    | none => none
    | some s₀ => match toT s₀ with
      | none => none
      | some z => match s₀.heap.isNs mainGlobals && s₀.gens.size == 0, Nat.beq s₀.heap.objs.size m₀, decide (s₀.heap.nsMap mainGlobals "__annotations__" = ann) with
        | true, true, true => match topT treeTable p w m₀ ann N z (topStub p) with
          | none => none
          | some y => match staticsOk (importedModules p.main.body) s₀.heap y.abs.heap && namesBound p y.abs.heap && gensDone y.abs && laidKept s₀.heap y.abs.heap with
            | true => some y.abs
            | false => none
        | _, _, _ => none
theorem hdT_of {p : Program} {w : World} {N m₀ : Nat} {ann : Option Value} {s : Shared} (h : hdT p w N m₀ ann = some s) : openEnds treeTable p w N = some s := by
  unfold hdT at h
  cases h1 : impT treeTable (opening p) w N ⟨.nil, 0, {}, #[], {}, 1, (start (opening p)).1.os⟩ (start (opening p)).2 with
  | none => rw [h1] at h; cases h
  | some e =>
    rw [h1] at h
    dsimp only at h
    have i1 := impT_of h1
    cases h2 : fenceModules? p e.abs with
    | none => rw [h2] at h; cases h
    | some s₀ =>
      rw [h2] at h
      dsimp only at h
      cases h3 : toT s₀ with
      | none => rw [h3] at h; cases h
      | some z =>
        rw [h3] at h
        dsimp only at h
        have hz := toT_of h3
        split at h
        · rename_i a1 a2 a3
          cases h4 : topT treeTable p w m₀ ann N z (topStub p) with
          | none => rw [h4] at h; cases h
          | some y =>
            rw [h4] at h
            dsimp only at h
            have i4 := topT_of h4
            rw [hz] at i4
            unfold openEnds fencedOpening
            have i1' : importEnds treeTable (opening p) w N (start (opening p)).1 (start (opening p)).2 = some e.abs := i1
            rw [i1']
            show ((fenceModules? p e.abs)).bind (topFrom treeTable p w N) = _
            rw [h2]
            show topFrom treeTable p w N s₀ = some s
            unfold topFrom
            rw [a1]
            dsimp only
            rw [Nat.eq_of_beq_eq_true a2, of_decide_eq_true a3, i4]
            exact h
        · cases h
end
/- H7 -/
section
set_option maxRecDepth 1000000
set_option maxHeartbeats 0
noncomputable def topG (st : SharedT → Thread → Option (SharedT × Thread)) (ok : Thread → Bool) : Nat → SharedT → Thread → Option SharedT
  | 0, _, _ => none
  | n + 1, s, t => match through t with
    | true => some s
    | false => match ok t with
      | false => none
      | true => match st s t with
        | some (s', t') => topG st ok n s' t'
        | none => none
noncomputable def impG (st : SharedT → Thread → Option (SharedT × Thread)) (ex : Thread → Option (List Value)) : Nat → SharedT → Thread → Option SharedT
  | 0, _, _ => none
  | n + 1, s, t => match ex t with
    | some [] => some s
    | some (_ :: _) => none
    | none => match st s t with
      | some (s', t') => impG st ex n s' t'
      | none => none
theorem topG_is {tb : String → Option Builtin} {p : Program} {w : World} {n₀ : Nat} {ann : Option Value} : ∀ {n : Nat} {s : SharedT} {t : Thread}, topT tb p w n₀ ann n s t = topG (stepT (denote tb) p w) (stepOk n₀ ann) n s t
  | 0, _, _ => rfl
  | n + 1, s, t => by
    unfold topT topG
    simp only [topG_is]
    all_goals rfl
theorem impG_is {tb : String → Option Builtin} {p : Program} {w : World} : ∀ {n : Nat} {s : SharedT} {t : Thread}, impT tb p w n s t = impG (stepT (denote tb) p w) Thread.atExitBegin n s t
  | 0, _, _ => rfl
  | n + 1, s, t => by
    unfold impT impG
    simp only [impG_is]
    all_goals rfl
theorem topQ {p : Program} {w : World} {n₀ : Nat} {ann : Option Value} {n : Nat} {s : SharedT} {t : Thread} : topT treeTable p w n₀ ann n s t = topG (PySem.W.Fast.tw10156331382660048174 (PySem.W.Fast.tw11892475500146522536 PySem.W.Fast.tw14364793385576792824) p w) (PySem.W.Fast.tw6613529449190102663 n₀ ann) n s t := by
  rw [topG_is, PySem.W.Fast.te10156331382660048174, PySem.W.Fast.te11892475500146522536, PySem.W.Fast.te14364793385576792824, PySem.W.Fast.te6613529449190102663]
theorem impQ {p : Program} {w : World} {n : Nat} {s : SharedT} {t : Thread} : impT treeTable p w n s t = impG (PySem.W.Fast.tw10156331382660048174 (PySem.W.Fast.tw11892475500146522536 PySem.W.Fast.tw14364793385576792824) p w) (PySem.W.Fast.tw3805553451399329143) n s t := by
  rw [impG_is, PySem.W.Fast.te10156331382660048174, PySem.W.Fast.te11892475500146522536, PySem.W.Fast.te14364793385576792824, PySem.W.Fast.te3805553451399329143]
noncomputable def hdY (p : Program) (w : World) (N : Nat) (m₀ : Nat) (ann : Option Value) : Option SharedT :=
  match impG (PySem.W.Fast.tw10156331382660048174 (PySem.W.Fast.tw11892475500146522536 PySem.W.Fast.tw14364793385576792824) (opening p) w) (PySem.W.Fast.tw3805553451399329143) N ⟨.nil, 0, {}, #[], {}, 1, (start (opening p)).1.os⟩ (PySem.W.Fast.tw1435165496053646825 (opening p)).2 with
  | none => none
  | some e => match PySem.W.Fast.tw14289696077712309145 p e.abs with
    | none => none
    | some s₀ => match toT s₀ with
      | none => none
      | some z => match s₀.heap.isNs mainGlobals && s₀.gens.size == 0, Nat.beq s₀.heap.objs.size m₀, decide (s₀.heap.nsMap mainGlobals "__annotations__" = ann) with
        | true, true, true => match topG (PySem.W.Fast.tw10156331382660048174 (PySem.W.Fast.tw11892475500146522536 PySem.W.Fast.tw14364793385576792824) p w) (PySem.W.Fast.tw6613529449190102663 m₀ ann) N z (topStub p) with
          | none => none
          | some y => match staticsOk (importedModules p.main.body) s₀.heap y.abs.heap && namesBound p y.abs.heap && gensDone y.abs && laidKept s₀.heap y.abs.heap with
            | true => some y
            | false => none
        | _, _, _ => none
theorem hdY_of {p : Program} {w : World} {N m₀ : Nat} {ann : Option Value} {y : SharedT} (h : hdY p w N m₀ ann = some y) : openEnds treeTable p w N = some y.abs := by
  unfold hdY at h
  simp only [← topQ, ← impQ, ← PySem.W.Fast.te14289696077712309145, ← PySem.W.Fast.te1435165496053646825] at h
  cases h1 : impT treeTable (opening p) w N ⟨.nil, 0, {}, #[], {}, 1, (start (opening p)).1.os⟩ (start (opening p)).2 with
  | none => rw [h1] at h; cases h
  | some e =>
    rw [h1] at h
    dsimp only at h
    have i1 := impT_of h1
    cases h2 : fenceModules? p e.abs with
    | none => rw [h2] at h; cases h
    | some s₀ =>
      rw [h2] at h
      dsimp only at h
      cases h3 : toT s₀ with
      | none => rw [h3] at h; cases h
      | some z =>
        rw [h3] at h
        dsimp only at h
        have hz := toT_of h3
        split at h
        · rename_i a1 a2 a3
          cases h4 : topT treeTable p w m₀ ann N z (topStub p) with
          | none => rw [h4] at h; cases h
          | some y =>
            rw [h4] at h
            dsimp only at h
            have i4 := topT_of h4
            rw [hz] at i4
            unfold openEnds fencedOpening
            have i1' : importEnds treeTable (opening p) w N (start (opening p)).1 (start (opening p)).2 = some e.abs := i1
            rw [i1']
            show ((fenceModules? p e.abs)).bind (topFrom treeTable p w N) = _
            rw [h2]
            show topFrom treeTable p w N s₀ = some _
            unfold topFrom
            rw [a1]
            dsimp only
            rw [Nat.eq_of_beq_eq_true a2, of_decide_eq_true a3, i4]
            revert h
            show (match staticsOk (importedModules p.main.body) s₀.heap y.abs.heap && namesBound p y.abs.heap && gensDone y.abs && laidKept s₀.heap y.abs.heap with | true => some y | false => none) = _ → (match staticsOk (importedModules p.main.body) s₀.heap y.abs.heap && namesBound p y.abs.heap && gensDone y.abs && laidKept s₀.heap y.abs.heap with | true => some y.abs | false => none) = _
            cases staticsOk (importedModules p.main.body) s₀.heap y.abs.heap && namesBound p y.abs.heap && gensDone y.abs && laidKept s₀.heap y.abs.heap with
            | true => intro h; cases h; rfl
            | false => intro h; cases h
        · cases h
noncomputable def lookT (y : SharedT) (a : Nat) : Option Obj := match Nat.blt a y.n with
  | true => match y.tree.get a with
    | some o => alive o
    | none => none
  | false => none
theorem lookT_of {y : SharedT} {a : Nat} {o : Obj} (h : lookT y a = some o) : y.abs.heap.get? a = some o := by
  unfold lookT at h
  cases hb : Nat.blt a y.n with
  | false => rw [hb] at h; cases h
  | true =>
    rw [hb] at h
    dsimp only at h
    cases hg : y.tree.get a with
    | none => rw [hg] at h; cases h
    | some o' =>
      rw [hg] at h
      show (absHeap y.tree y.n y.life).get? a = some o
      rw [abs_get (Nat.le_of_ble_eq_true hb) hg]
      exact h
theorem lookT_all {y : SharedT} : ∀ {as : List Nat} {L : List (Nat × Obj)}, as.map (lookT y) = L.map (fun p => some p.2) → as.map y.abs.heap.get? = L.map fun p => some p.2
  | [], [], _ => rfl
  | [], _ :: _, h => by cases h
  | _ :: _, [], h => by cases h
  | a :: as, p :: L, h => by
    rw [List.map_cons, List.map_cons] at h ⊢
    obtain ⟨h1, h2⟩ := List.cons.inj h
    rw [lookT_of h1, lookT_all h2]
theorem left_of {p : Program} {w : World} {N m₀ : Nat} {ann : Option Value} {β : Type} {f : Shared → β} {v : β} {as : List Nat} {L : List (Nat × Obj)} (e : (hdY p w N m₀ ann).map (fun y => (f y.abs, as.map (lookT y))) = some (v, L.map fun p => some p.2)) :
    (openEnds treeTable p w N).map (fun s => (f s, as.map s.heap.get?)) = some (v, L.map fun p => some p.2) := by
  obtain ⟨s, hs, hv⟩ := Option.map_eq_some_iff.mp e
  rw [hdY_of hs]
  obtain ⟨h1, h2⟩ := Prod.mk.inj hv
  show some (f s.abs, as.map s.abs.heap.get?) = _
  rw [h1, lookT_all h2]
end
/- Ws -/
section
set_option maxRecDepth 1000000
set_option maxHeartbeats 0
theorem wl1 : PySem.W.Fast.tw11788848310118352699 (PySem.W.Fast.tw2368527892694137696 PySem.Challenge.rw_nq0227_01).prog.main = true := by kernel_rfl
theorem wl2 : PySem.W.Fast.tw8377067652309620493 (PySem.W.Fast.tw2368527892694137696 PySem.Challenge.rw_nq0227_01).prog = true := by kernel_rfl
theorem wl : PySem.W.Fast.tw12908688711261696721 (PySem.W.Fast.tw2368527892694137696 PySem.Challenge.rw_nq0227_01).prog = true := by
  delta PySem.W.Fast.tw12908688711261696721
  (try dsimp only)
  repeat' with_reducible refine look_both ?_ ?_
  all_goals (with_reducible first | exact wl1 | exact wl2 | kernel_rfl)
theorem wr : PySem.W.Fast.tw17960256430627541270 (PySem.W.Fast.tw2368527892694137696 PySem.Challenge.rw_nq0227_01) = true := by
  delta PySem.W.Fast.tw17960256430627541270
  (try dsimp only)
  repeat' with_reducible refine look_both ?_ ?_
  all_goals (try (delta PySem.W.Fast.tw2436336058641802641; (try dsimp only); repeat' with_reducible refine look_both ?_ ?_))
  all_goals (with_reducible first | exact wl | kernel_rfl)
theorem ws : PySem.Challenge.rw_nq0227_01.wellSaid = true := by
  rw [PySem.W.Fast.te9446332074065402090]
  delta PySem.W.Fast.tw9446332074065402090
  repeat' with_reducible refine look_both ?_ ?_
  all_goals (with_reducible first | exact wr | kernel_rfl)
end
/- Hd9 -/
section
set_option maxRecDepth 1000000
set_option maxHeartbeats 0
noncomputable abbrev vq : Program := view PySem.Challenge.pw_nq0227_01 [0, 30]
noncomputable abbrev vl : List Str := ["_wall", "_whence", "_index", "UnsupportedOperation", "IOBase", "BufferedIOBase", "TextIOBase", "BytesIO", "StringIO", "_kind", "_fspath", "_check_arg_types", "isabs", "join", "dirname", "shlex", "split", "_netrclex", "_law_six", "_law_to_shell", "_law_to_netrc", "_law_split", "_law_read", "_law_due"].map Str.ofString
local macro_rules | `(tactic| o_law) => `(tactic| refine holds_law ws fun said => ?_)
local macro_rules | `(tactic| o_head $H) => `(tactic| (
  refine holds_open (q := vq) (loose := vl) (Xt := fun s => xlAt vq [] s && recOk (RowW.records PySem.Challenge.rw_nq0227_01.row.toRowW) s) (XP := XL vq []) (Yf := Hook.obs $H) (Ya := Hook.val $H) (YP := Hook.says $H) (N := 10670) ?hl (Hook.of $H) (Hook.keeps $H) (fun s e => xl_of s (Bool.and_eq_true_iff.mp e).1) XL.keeps (by rfl) (by rfl) (by rfl) (fun s e => recFacts_of (Bool.and_eq_true_iff.mp e).2) (by rfl) (by assumption) (by decide +kernel) ⟨rfl, rfl, rfl, rfl, rfl, by decide +kernel⟩ ?hw ?hc
  (case hl => exact fun w => left_of (m₀ := 29) (ann := some (.ref 6)) (by kernel_rfl))))
open_top hd for PySem.Challenge.rw_nq0227_01
end
open PySem.Spec PySem.Calls
/- Pure -/
section
/-- what one reading of a word gives -/
inductive RT where
  | word (wd : List Nat) (rest : List Nat) (eof : Bool)
  | eof
  | err (msg : String)
noncomputable def wsp (c : Nat) : Bool := c == 32 || c == 10
/-- split's lexer (posix, split at blanks alone): st the state's sign, es where an escape goes back to, q quoted, tok the word so far -/
noncomputable def rd (st es : Nat) (q : Bool) (tok : List Nat) : List Nat → RT
  | [] => if st = 32 then .eof else if st = 97 then (if tok = [] ∧ q = false then .eof else .word tok [] true) else if st = 92 then .err "No escaped character" else .err "No closing quotation"
  | c :: r =>
    if st = 32 then
      if wsp c = true then rd 32 es q tok r
      else if c = 92 then rd 92 97 q tok r
      else if c = 39 ∨ c = 34 then rd c es q tok r
      else rd 97 es q [c] r
    else if st = 39 ∨ st = 34 then
      if c = st then rd 97 es true tok r
      else if c = 92 ∧ st = 34 then rd 92 34 true tok r
      else rd st es true (tok ++ [c]) r
    else if st = 92 then
      if es = 34 ∧ c ≠ 92 ∧ c ≠ 34 then rd es es q (tok ++ [92, c]) r else rd es es q (tok ++ [c]) r
    else
      if wsp c = true then (if tok = [] ∧ q = false then rd 32 es q tok r else .word tok r false)
      else if c = 39 ∨ c = 34 then rd c es q tok r
      else if c = 92 then rd 92 97 q tok r
      else rd 97 es q (tok ++ [c]) r
end
/- Pure2 -/
section
/-- netrc's lexer, within quotation marks -/
noncomputable def nq : Bool → List Nat → List Nat → List Nat × List Nat
  | _, tok, [] => (tok, [])
  | true, tok, c :: r => nq false (tok ++ [c]) r
  | false, tok, c :: r => if c = 34 then (tok, r) else if c = 92 then nq true tok r else nq false (tok ++ [c]) r
/-- netrc's lexer, in a bare word -/
noncomputable def nb : Bool → List Nat → List Nat → List Nat × List Nat
  | _, tok, [] => (tok, [])
  | true, tok, c :: r => nb false (tok ++ [c]) r
  | false, tok, c :: r => if wsp c = true then (tok, r) else if c = 92 then nb true tok r else nb false (tok ++ [c]) r
/-- netrc's lexer: one word -/
noncomputable def nt : List Nat → List Nat × List Nat
  | [] => ([], [])
  | c :: r => if wsp c = true then nt r else if c = 34 then nq false [] r else if c = 92 then nb true [] r else nb false [c] r
/-- the law's writing for a shell -/
noncomputable def sh : Int → Bool → List Nat → List Nat
  | kind, _, [] => if kind = 2 then [34] else []
  | kind, held, c :: r =>
    if c = 92 ∧ held = false then sh kind true r
    else if kind = 2 ∧ c = 34 ∧ held = false then 34 :: 32 :: sh 0 held r
    else if kind = 2 then (if c = 34 ∨ c = 92 then [92, c] else [c]) ++ sh kind false r
    else if wsp c = true ∧ held = false then 32 :: sh 0 held r
    else if kind = 0 ∧ c = 34 ∧ held = false then 34 :: sh 2 held r
    else 92 :: c :: sh 1 false r
end
/- Pure3 -/
section
/-- the sign as netrc has it within quotation marks -/
noncomputable def esc1 (c : Nat) : List Nat := if c = 34 ∨ c = 92 then [92, c] else [c]
noncomputable def esc (l : List Nat) : List Nat := l.flatMap esc1
noncomputable def pre (a : List Nat) (b : List Nat × String) : List Nat × String := (a ++ b.1, b.2)
/-- the law's writing for netrc -/
noncomputable def tn : Int → Bool → List Nat → List Nat × String
  | kind, held, [] => if held = true then ([], "No escaped character") else if kind = 2 ∨ kind = 3 then ([], "No closing quotation") else (if kind = 1 then [34] else [], "")
  | kind, held, c :: r =>
    if held = true then pre ((if kind = 0 then [34] else []) ++ esc (if kind = 3 ∧ c ≠ 34 ∧ c ≠ 92 then [92, c] else [c])) (tn (if kind = 0 then 1 else kind) false r)
    else if c = 92 ∧ kind ≠ 2 then tn kind true r
    else if kind = 2 ∧ c = 39 ∨ kind = 3 ∧ c = 34 then tn 1 false r
    else if kind = 2 ∨ kind = 3 then pre (esc [c]) (tn kind false r)
    else if wsp c = true then pre (if kind = 1 then [34, 32] else []) (tn 0 false r)
    else if c = 39 ∨ c = 34 then pre (if kind = 0 then [34] else []) (tn (if c = 39 then 2 else 3) false r)
    else pre ((if kind = 0 then [34] else []) ++ esc [c]) (tn (if kind = 0 then 1 else kind) false r)
end
/- R1 -/
section
set_option maxRecDepth 100000
set_option maxHeartbeats 4000000
open Builtin Builtin.ObjectAttr Builtin.Getset_descriptor
section
variable {prog : Program} {w : World} {A : Around} {K : Frag} {C : Addr} {R : Result → Shared → Prop}
theorem new_own {h : Heap} {g : Array GenState} {d : Drawn} {t : Nat} {os : OsState} {oc : Value} {od : Option Addr} {cd : ClassData} {sl : Array (Option Value)}
    (hC : h.get? C = some ⟨oc, od, .cls cd, sl⟩) (e1 : cd.abstract = false) (e2 : cd.hasDel = false)
    (base : Looks (model prog w) h (Bind.staticBase (.ref C)) (.type "object")) (made : Looks (model prog w) h (Bind.madeBy (.type "object")) (some "object.__new__"))
    (top : Looks (model prog w) h (isSubtype (.ref C) (.type "object")) true) (typ : Looks (model prog w) h (isInstance (.ref C) (.type "type")) true)
    (hq : R (.ok (.ret (.ref (h.objs.size + 1)))) ⟨(h.push emptyDict).push (instObj C h.objs.size), g, d, t, os⟩) :
    codeAny (model prog w) A (.call (.builtin "object.__new__") ⟨[.ref C], []⟩) R ⟨h, g, d, t, os⟩ := by
  have F := PySem.F.objNew
  refine codeAny_call_builtin_code (Code.quiet_builtin _ F.quiet) ?_
  simp only [checkBuiltinCall, F.kind, F.split, F.row]
  have here : Looks (model prog w) h (Bind.madeHere "object.__new__" (.ref C)) () := base.andThen (made.andThen (Looks.of_pure (by simp only [Option.map_some, bne_self_eq_false, Bool.false_eq_true, if_false])))
  have args : Bind.checkArgs "object.__new__" ⟨.hand, "object.__new__", "__new__", .cls, []⟩ ⟨.ref C :: [], []⟩ = pure () := by kernel_rfl
  rw [args]
  repeat (first | simp only [bne_self_eq_false, Bool.false_eq_true, if_false] | lk)
  refine codeAny_builtin F.entry ?_
  unfold Builtin.«object.__new__»
  have fin : ∀ A', wpAny (model prog w) A' (do
      let d ← if typeHasDict (.ref C) then some <$> alloc { cls := .type "dict", data := .dict #[] } else pure none
      ret (← newObj (.ref C) .plain d)) (fun fin s' => match fin with | .done f => R (.ok f) s' | .again c' => c'.quiet = true ∧ codeAny (model prog w) A c' R s') (fun e s' => R (.error e) s') ⟨h, g, d, t, os⟩ := by
    intro A'
    show wpAny _ _ ((alloc emptyDict >>= fun x => pure (some x)) >>= _) _ _ _
    refine wpAny_bind (wpAny_bind (wpAny_alloc (wpAny_pure (wpAny_bind ?_))))
    show wpAny _ _ (newObjAsIs _ _ _) _ _ _
    unfold newObjAsIs classHasDel
    refine wpAny_bind (wpAny_alloc (wpAny_bind (wpAny_bind (wpAny_load (Heap.get?_push_of_some _ (Heap.get?_push_of_some _ hC)) (wpAny_pure ?_)))))
    rw [e2]
    refine wpAny_pure (wpAny_pure ?_)
    show R _ _
    rw [Heap.size_push]
    exact hq
  repeat (first | simp only [e1, Bool.false_eq_true, if_false] | exact fin _ | lk)
noncomputable def NewBack (K : Frag) (C : Addr) (P : Addr → Shared → Prop) (R : Result → Shared → Prop) (r : Result) (s' : Shared) : Prop := match r with
  | .ok (.ret v) => ∃ x dx, v = .ref x ∧ s'.heap.get? x = some (instObj C dx) ∧ K.In s'.heap ∧ P x s'
  | .ok _ => False
  | .error e => R (.error e) s'
theorem make_own {pos : List Value} {kw : List (Str × Value)} {fN fI : Addr} {h : Heap} {g : Array GenState} {d : Drawn} {t : Nat} {os : OsState} {oc : Value} {od : Option Addr} {cd : ClassData} {sl : Array (Option Value)}
    (X : K.In h) (hC : K.lookup C = some ⟨oc, od, .cls cd, sl⟩) (e4 : cd.mro.isEmpty = false) (hself : mroIn K C (.ref C) = some true)
    (hcall : specialIn K (.ref C) "__call__" = some (some (.builtin "type.__call__"))) (htyp : instIn K (.ref C) (.type "type") = some true)
    (made : Looks (model prog w) h (Bind.madeBy (.ref C)) none)
    (new : ∀ (A' : Around) (Q' : Value → Shared → Prop) (E' : Value → Shared → Prop), Q' (.ref fN) ⟨h, g, d, t + 1, os⟩ → wpAny (model prog w) A' (getAttr (.ref C) "__new__") Q' E' ⟨h, g, d, t, os⟩)
    (hi : findIn K (.ref C) "__init__" = some (some (.ref fI))) (hf : isFn K (.ref fI) = true)
    (hq : codeAny (model prog w) (A.under (.builtin "type.__call__" ⟨.ref C :: pos, kw⟩)) (.call (.ref fN) ⟨.ref C :: pos, kw⟩) (NewBack K C (fun x s' => codeAny (model prog w) (A.under (.builtin "type.__call__" ⟨.ref C :: pos, kw⟩)) (.call (.ref fI) ⟨.ref x :: pos, kw⟩) (InitBack x R) s') R) ⟨h, g, d, t + 1, os⟩) :
    codeAny (model prog w) A (.call (.ref C) ⟨pos, kw⟩) R ⟨h, g, d, t, os⟩ := by
  have hC' := X _ _ hC
  have call := looks_specialIn (M := model prog w) X hcall
  have typ := looks_instIn (M := model prog w) X htyp
  refine codeAny_of_tree ?_
  show wpAny _ _ (callAny (.ref C) _) _ _ _
  refine nd_load hC' ?_
  show wpAny _ _ (callAny.viaDunder (.ref C) _) _ _ _
  unfold callAny.viaDunder
  refine wpAny_bind (call.at ?_)
  dsimp only
  rw [tc_bind]
  refine wpAny_bind (wpAny_pure (wpAny_bind (wpAny_pure ?_)))
  refine wpAny_pure (a := Fin.again (.call (.builtin "type.__call__") ⟨.ref C :: pos, kw⟩)) (And.intro rfl ?_)
  refine codeAny_call_builtin_at (Code.quiet_builtin _ (by decide +kernel)) entry_typeCall (check_slot tc_kind tc_split typ (tc_args _ _ _) ?_)
  unfold Builtin.«type.__call__»
  have hm : Looks (model prog w) h (mroOf (.ref C)) cd.mro := ((Looks.ld (part := none) hC').andThen .now).andThen .now
  repeat (first | refine new _ _ _ ?_ | simp only [e4, Bool.false_eq_true, if_false] | with_reducible refine wpAny_call ?_ | lk)
  refine codeAny_mono hq fun r s' z => ?_
  rcases r with e | (v | _ | _ | _) <;> first | exact z | exact z.elim | skip
  obtain ⟨x, dx, rfl, hx, X', z⟩ := z
  obtain ⟨h', g', d', t', os'⟩ := s'
  have t1 : Looks (model prog w) h' (typeOf (.ref x)) (.ref C) := (Looks.ld hx).andThen .now
  have s1 := looks_mroIn (M := model prog w) X' hself
  have i1 := looks_findIn (M := model prog w) X' hi
  have b1 := bind_fn (M := model prog w) X' (.ref x) (beq_iff_eq.mp hf)
  dsimp only
  unfold isInstance callSpecial? specialOf
  repeat (first | with_reducible refine wpAny_call ?_ | lk)
  refine codeAny_mono z fun r s' z => ?_
  rcases r with e | (v | _ | _ | _) <;> first | exact z | exact z.elim | skip
  obtain ⟨rfl, z⟩ := z
  exact wpAny_pure (wpAny_pure z)
end
end
/- S1 -/
section
open PySem.Builtin PySem.Builtin.Str
theorem idx_one {k n : Nat} (h : k < n) : strSliceIndices (some (k : Int)) (some ((k : Int) + 1)) 1 n = [k] := by
  unfold strSliceIndices sliceRange
  have h1 : ¬ ((k : Int) < 0) := by omega
  have h2 : ¬ ((k : Int) + 1 < 0) := by omega
  have h3 : min (k : Int) (n : Int) = k := by omega
  have h4 : min ((k : Int) + 1) (n : Int) = k + 1 := by omega
  have h5 : max 0 (k : Int) = k := by omega
  have h6 : max 0 ((k : Int) + 1) = k + 1 := by omega
  simp only [h1, h2, h3, h4, h5, h6, show (1 : Int) > 0 from by decide, if_true, if_false]
  have h7 : (if (k : Int) < (k : Int) + 1 then ((k : Int) + 1 - k + 1 - 1) / 1 else 0).toNat = 1 := by
    rw [if_pos (by omega)]; omega
  rw [h7]
  show [((k : Int) + 1 * ((0 : Nat) : Int)).toNat] = [k]
  have : ((k : Int) + 1 * ((0 : Nat) : Int)).toNat = k := by omega
  rw [this]
theorem slice_one {l : List Nat} {k : Nat} {c : Nat} (h : l[k]? = some c) : Txt.slice ⟨l.toArray⟩ (some (k : Int)) (some ((k : Int) + 1)) = ⟨#[c]⟩ := by
  have hk : k < l.length := by
    rcases Nat.lt_or_ge k l.length with q | q
    · exact q
    · rw [List.getElem?_eq_none_iff.mpr q] at h; cases h
  have hl : (⟨l.toArray⟩ : Str).length = l.length := by show l.toArray.size = _; simp
  unfold Txt.slice
  rw [hl, idx_one hk]
  split
  · rename_i q
    simp at q
    obtain ⟨y, rfl⟩ := List.length_eq_one_iff.mp q.symm
    have : k = 0 := by simp at hk; exact hk
    subst this
    simp at h
    subst h
    rfl
  · simp [h]
end
/- B0 -/
section
set_option maxRecDepth 100000
noncomputable abbrev pr : Program := PySem.Challenge.rw_nq0227_01.row.prog
noncomputable abbrev KK (w : World) : Frag := Mine.hd.heap_1 w.params
noncomputable abbrev ioD (w : World) (t1 u1 t2 u2 t3 u3 : Tok) (x : Str) (p : Int) : Obj := dictOf [⟨PyData.keyHash w.params "_StringIO__newline", .str "_StringIO__newline" t1, .str "\n" u1⟩, ⟨PyData.keyHash w.params "_StringIO__buf", .str "_StringIO__buf" t2, .str x u2⟩, ⟨PyData.keyHash w.params "_StringIO__pos", .str "_StringIO__pos" t3, .int p u3⟩] 3
theorem wpAny_le {α : Type} {M : Model} {A A' : Around} {t : Sem α} {Q : α → Shared → Prop} {E : Value → Shared → Prop} {s : Shared} (h : wpAny M A t Q E s) (h1 : A'.handled = A.handled) (h2 : A'.depth ≤ A.depth) (h3 : A'.frames = A.frames) (h4 : A'.guards = A.guards) (h5 : A'.units ≤ A.units) : wpAny M A' t Q E s :=
  fun Γ p hΓ => h Γ p ⟨hΓ.1.trans h1, Nat.le_trans hΓ.2.1 h2, fun l hl => hΓ.2.2.1 l (h3.trans hl), fun g hg => hΓ.2.2.2.1 g (h4.trans hg), Nat.le_trans hΓ.2.2.2.2 h5⟩
theorem allLt_mem {d : Nat} {l : List (Addr × Obj)} (h : AllLt d l) : ∀ p ∈ l, p.1 < d := by
  induction l with
  | nil => intro p hp; cases hp
  | cons a l ih =>
    intro p hp
    rcases List.mem_cons.mp hp with rfl | hp
    · exact h.1
    · exact ih h.2 p hp
end
/- C1 -/
local macro_rules | `(tactic| k_all) => `(tactic| assumption)
local macro_rules | `(tactic| k_ne) => `(tactic| with_reducible first | assumption | (refine Ne.symm ?_; assumption) | (refine Nat.ne_of_lt ?_; assumption) | (refine Nat.ne_of_gt ?_; assumption))
section
set_option maxRecDepth 100000
set_option maxHeartbeats 0
theorem read_c {w : World} {mean : ExcName → Option Value} {mg mb : Str → Option Value} {gd : Option (List Code)} {cn : Str} {nm : List (Str × NameKind)} {gn co : Bool} {mo : List (Str × Const)} {a : Addr} {ccd : Value} {cl : List (Str × Addr)} {outer : List Env} {A₀ : Around} {base h₀ : Heap} {L : Addr} {m : Str → Option Value} {s : Shared} {Q E : Value → Shared → Prop}
   {l : List Nat} {k : Nat} {io d : Addr} {t t1 u1 t2 u2 t3 u3 : Tok} {rest : List (Addr × Obj)}
   (B : Below A₀ base outer h₀) (F : Fr h₀ L s.heap m) (X : (Mine.hd.heap_1 w.params).In h₀) (N : News h₀ L s.heap ((io, instObj 587 d) :: (d, ioD w t1 u1 t2 u2 t3 u3 ⟨l.toArray⟩ k) :: rest)) (T : Top vq (looseW vq vl) mean mg mb h₀)
   (hx : l.length ≤ 1000) (hp2 : k ≤ l.length) (hne : io ≠ d) (hr : ∀ q ∈ rest, q.1 ≠ d)
   (r0 : l[k]? = none → ∀ h' tk t', Fr h₀ L h' m → News h₀ L h' ((io, instObj 587 d) :: (d, ioD w t1 u1 t2 u2 t3 u3 ⟨l.toArray⟩ k) :: rest) → Q (.str (Str.ofString "") t') { s with heap := h', toks := tk })
   (r1 : ∀ c, l[k]? = some c → ∀ h' tk t' u', Fr h₀ L h' m → News h₀ L h' ((io, instObj 587 d) :: (d, ioD w t1 u1 t2 u2 t3 u' ⟨l.toArray⟩ (k + 1 : Nat)) :: rest) → Q (.str ⟨#[c]⟩ t') { s with heap := h', toks := tk }) :
   wpAny (model pr w) (ktrTop 700 5000 gd cn ⟨.function, nm, gn, co, mo⟩ L a ccd cl outer) (call (.ref 533) [.ref io, .int 1 t]) Q E s := by
  w_on
  have hfill : PySem.Challenge.rw_nq0227_01 = PySem.Challenge.rw_nq0227_01 ∧ Mine.hd.heap_1 = Mine.hd.heap_1 := by
    k_fill
    exact ⟨rfl, rfl⟩
  clear hfill
  refine wpAny_call ?_
  k_dflt k_enter
  have hxl : (⟨l.toArray⟩ : Str).length = l.length := by show l.toArray.size = _; simp
  k_steps
  · refine r0 ?_ _ _ _ (by k_asm) (by k_asm)
    rw [List.getElem?_eq_none_iff]
    omega
  · obtain ⟨c, hc⟩ : ∃ c, l[k]? = some c := by
      refine ⟨l[k]'(by omega), ?_⟩
      exact List.getElem?_eq_getElem _
    rw [slice_one hc]
    exact r1 c hc _ _ _ _ (by k_asm) (by k_asm)
  · obtain ⟨c, hc⟩ : ∃ c, l[k]? = some c := by
      refine ⟨l[k]'(by omega), ?_⟩
      exact List.getElem?_eq_getElem _
    have e : (((⟨l.toArray⟩ : Str).length : Nat) : Int) = ((k + 1 : Nat) : Int) := by omega
    have e2 : (((⟨l.toArray⟩ : Str).length : Nat) : Int) = (k : Int) + 1 := by omega
    rename News h₀ _ _ _ => nn
    rw [e] at nn
    rw [e2, slice_one hc]
    exact r1 c hc _ _ _ _ (by k_asm) nn
end
/- R2 -/
section
set_option maxRecDepth 100000
set_option maxHeartbeats 4000000
noncomputable abbrev dqObj : Obj := { cls := .type "collections.deque", data := .fields #[.none, .int 0 0] }
theorem mro_dq : mroOf (.type "collections.deque") = pure [.type "collections.deque", .type "object"] := by rw [mroOf_type]; kernel_rfl
theorem lookup_dq_new : typeLookup (.type "collections.deque") "__new__" = pure (some (.builtin "collections.deque.__new__")) := by rw [typeLookup_type, builtinLookup_eq_fast]; kernel_rfl
theorem slot_dq_init : Slot "collections.deque" "__init__" "collections.deque.__init__" :=
  .of (owner := "collections.deque") (n := "__init__") (by rw [typeLookup_type, builtinLookup_eq_fast]; kernel_rfl) (by decide +kernel) (by decide +kernel) (by decide +kernel)
    (by first | exact .inl (by decide +kernel) | exact .inr (by decide +kernel)) (by rw [isSubtype_type]; kernel_rfl)
theorem entry_dq_init : entryFor table "collections.deque.__init__" = some Builtin.«collections.deque.__init__» := entryFor_of_tree (by kernel_rfl)
theorem entry_dq_new : entryFor table "collections.deque.__new__" = some Builtin.«collections.deque.__new__» := entryFor_of_tree (by kernel_rfl)
theorem plain_dq_new : plainId "collections.deque.__new__" = true := by decide +kernel
theorem called_dq : TypeCalled "collections.deque" "collections.deque.__new__" "collections.deque.__init__" :=
  ⟨by decide +kernel, by decide +kernel, ⟨_, _, mro_dq⟩, madeBy_type mro_dq lookup_dq_new (by decide +kernel), by decide +kernel, by rw [isSubtype_type]; kernel_rfl, slot_dq_init⟩
theorem typeCall_dq_0 : checkTypeCall "collections.deque" ⟨[], []⟩ = pure () := by kernel_rfl
theorem newCall_dq_0 : checkBuiltinCall "collections.deque.__new__" ⟨[.type "collections.deque"], []⟩ = pure () := by kernel_rfl
theorem sub_dq_self : isSubtype (.type "collections.deque") (.type "collections.deque") = pure true := by rw [isSubtype_type]; kernel_rfl
theorem args_dq_init (a : Value) : argsOk "collections.deque.__init__" ⟨[a], []⟩ := by unfold argsOk; kernel_rfl
section
variable {prog : Program} {w : World} {A : Around} {E : Value → Shared → Prop} {s : Shared}
theorem code_dq_new {Q₁ : Value → Shared → Prop} (h : Q₁ (.ref s.heap.objs.size) { s with heap := s.heap.push dqObj }) :
    codeAny (model prog w) A (.call (.builtin "collections.deque.__new__") ⟨[.type "collections.deque"], []⟩) (wants Q₁ E) s := by
  refine codeAny_of_tree ?_
  show wpAny _ A.in1 (do checkBuiltinCall "collections.deque.__new__" ⟨[.type "collections.deque"], []⟩; again (.builtin "collections.deque.__new__" ⟨[.type "collections.deque"], []⟩)) _ _ s
  refine wpAny_bind (wpAny_of_eq newCall_dq_0 (wpAny_pure ⟨plainId_quiet plain_dq_new _, codeAny_builtin entry_dq_new ?_⟩))
  rw [Around.under_plainId plain_dq_new _]
  unfold Builtin.«collections.deque.__new__» Builtin.Deque.newArgs Builtin.Deque.new
  have hsub := sub_dq_self
  have ht : isType (.type "collections.deque") = pure true := rfl
  have hh : typeHasDict (.type "collections.deque") = false := by decide +kernel
  obtain ⟨hp, g, d, tk, os⟩ := s
  dsimp only [Builtin.Deque.ty]
  repeat (first | simp only [hh, Bool.false_eq_true, if_false, Bool.not_true] | wp_step)
  exact h
theorem call_dq {Q : Value → Shared → Prop} (h : Q (.ref s.heap.objs.size) { s with heap := s.heap.push dqObj }) : wpAny (model prog w) A (call (.type "collections.deque") []) Q E s := by
  refine callType_codes (Q₁ := fun v s₁ => v = .ref s.heap.objs.size ∧ s₁ = { s with heap := s.heap.push dqObj }) called_dq typeCall_dq_0 entry_dq_init (code_dq_new ⟨rfl, rfl⟩) ?_
  rintro obj s₁ ⟨rfl, rfl⟩
  have ho : (s.heap.push dqObj).get? s.heap.objs.size = some dqObj := Heap.get?_push_size _ rfl
  have hu : (s.heap.push dqObj).update s.heap.objs.size (Obj.mapFields (·.setIfInBounds 0 .none)) = s.heap.push dqObj := by
    obtain ⟨⟨objs, life⟩, g, d, t, os⟩ := s
    show Heap.mk _ _ = Heap.mk _ _
    congr 1
    apply Array.ext
    · simp
    · intro i h1 h2
      simp only [Array.getElem_modify]
      split
      · rename_i e
        subst e
        simp
        rfl
      · rfl
  refine ⟨⟨dqObj, ho, rfl⟩, args_dq_init _, ?_⟩
  show wpAny _ _ (do setField (.ref s.heap.objs.size) 0 .none; Builtin.Deque.clear (.ref s.heap.objs.size); ret .none) _ _ _
  unfold setField updateField
  refine wpAny_bind (wpAny_bind (wpAny_load ho ?_))
  show wpAny _ _ (update s.heap.objs.size (Obj.mapFields (·.setIfInBounds 0 .none))) _ _ _
  refine wpAny_update ho ?_
  rw [hu]
  unfold Builtin.Deque.clear Builtin.Deque.items fieldsOf
  refine wpAny_bind (wpAny_bind (wpAny_bind (wpAny_bind (wpAny_load ho ?_))))
  refine wpAny_pure (wpAny_pure ?_)
  rw [if_neg (by decide)]
  exact wpAny_pure (wpAny_pure ⟨rfl, h⟩)
end
end
/- R3 -/
section
set_option maxRecDepth 100000
set_option maxHeartbeats 4000000
theorem noBool_dq : typeLookup (.type "collections.deque") "__bool__" = pure none := by rw [typeLookup_type, builtinLookup_eq_fast]; kernel_rfl
theorem slot_dq_len : Slot "collections.deque" "__len__" "collections.deque.__len__" :=
  .of (owner := "collections.deque") (n := "__len__") (by rw [typeLookup_type, builtinLookup_eq_fast]; kernel_rfl) (by decide +kernel) (by decide +kernel) (by decide +kernel)
    (by first | exact .inl (by decide +kernel) | exact .inr (by decide +kernel)) (by rw [isSubtype_type]; kernel_rfl)
theorem entry_dq_len : entryFor table "collections.deque.__len__" = some Builtin.«collections.deque.__len__» := entryFor_of_tree (by kernel_rfl)
theorem args_dq_len (a : Value) : argsOk "collections.deque.__len__" ⟨[a], []⟩ := by unfold argsOk; kernel_rfl
section
variable {prog : Program} {w : World} {A : Around} {E : Value → Shared → Prop} {s : Shared}
theorem len_body_dq {l : Addr} {Q : Value → Shared → Prop} (ho : s.heap.get? l = some dqObj)
    (h : Q (.int 0 (s.toks + 1)) { s with toks := s.toks + 1 + 1 }) : wpAny (model prog w) A (Builtin.«len» ⟨[.ref l], []⟩) (fun fin s' => ∃ r, fin = .done (.ret r) ∧ Q r s') E s := by
  have hT : s.TypeIs (.ref l) "collections.deque" := ⟨dqObj, ho, rfl⟩
  unfold Builtin.«len»
  refine wpAny_bind (m := oneArg "len" _) (wpAny_pure ?_)
  refine wpAny_bind (m := callSpecial? (.ref l) (Str.ofString "__len__")) (wpAny_callSpecial?_slot (name := Str.ofString "__len__") hT slot_dq_len
    (wpAny_call_entry slot_dq_len hT entry_dq_len ?_ (args_dq_len _)))
  · show wpAny _ _ (do retInt (← Builtin.Deque.size (.ref l))) _ _ s
    unfold Builtin.Deque.size fieldsOf
    refine wpAny_bind (wpAny_bind (wpAny_bind (wpAny_load ho ?_)))
    refine wpAny_pure (wpAny_pure (wpAny_bind (wpAny_mkInt (wpAny_pure ⟨_, rfl, ?_⟩))))
    refine wpAny_bind (wpAny_holding (wpAny_pure ?_))
    refine wpAny_bind (wpAny_letGo ?_)
    show wpAny _ _ (if ((0 : Nat) : Int) < 0 then _ else _) _ _ _
    rw [if_neg (by omega)]
    show wpAny _ _ (if ((0 : Nat) : Int) ≥ 2 ^ 63 then _ else _) _ _ _
    rw [if_neg (by omega)]
    exact wpAny_bind (wpAny_mkInt (wpAny_pure ⟨_, rfl, h⟩))
theorem truthy_dq {l : Addr} {Q : Bool → Shared → Prop} (ho : s.heap.get? l = some dqObj) (h : Q false { s with toks := s.toks + 1 + 1 }) : wpAny (model prog w) A (truthy (.ref l)) Q E s := by
  have hT : s.TypeIs (.ref l) "collections.deque" := ⟨dqObj, ho, rfl⟩
  have key : wpAny (model prog w) A (runValue (.builtin "len" ⟨[.ref l], []⟩)) (fun r s' => r = .int 0 (s.toks + 1) ∧ Q false s') E s := by
    refine wpAny_runValue (codeAny_builtin entry_len ?_)
    rw [Around.under_plainId plain_len _]
    exact wpAny_mono (len_body_dq (Q := fun r s' => r = .int 0 (s.toks + 1) ∧ Q false s') ho ⟨rfl, h⟩)
      (fun fin s' h' => by obtain ⟨r, rfl, hq⟩ := h'; exact hq) fun _ _ e => e
  unfold truthy
  first
    | refine wpAny_bind (wpAny_callSpecial?_none (name := Str.ofString "__bool__") hT noBool_dq ?_)
    | refine wpAny_bind (wpAny_pure (wpAny_bind (wpAny_callSpecial?_none (name := Str.ofString "__bool__") hT noBool_dq ?_)))
  first
    | refine wpAny_bind (wpAny_specialOf (name := Str.ofString "__len__") hT slot_dq_len.lookup ?_)
    | refine wpAny_bind (wpAny_pure (wpAny_bind (wpAny_specialOf (name := Str.ofString "__len__") hT slot_dq_len.lookup ?_)))
  first
    | exact wpAny_bind (wpAny_mono key (fun r s' h' => by obtain ⟨rfl, hq⟩ := h'; exact wpAny_pure hq) fun _ _ e => e)
    | exact wpAny_bind (wpAny_pure (wpAny_bind (wpAny_mono key (fun r s' h' => by obtain ⟨rfl, hq⟩ := h'; exact wpAny_pure hq) fun _ _ e => e)))
/-- deque() onto the ledger -/
theorem dq_N {h₀ : Heap} {L : Addr} {m : Str → Option Value} {news : List (Addr × Obj)} {Q : Value → Shared → Prop} (F : Fr h₀ L s.heap m) (N : News h₀ L s.heap news)
    (h : ∀ l h', Fr h₀ L h' m → News h₀ L h' ((l, dqObj) :: news) → (∀ p ∈ news, p.1 < l) → Q (.ref l) { s with heap := h' }) : wpAny (model prog w) A (call (.type "collections.deque") []) Q E s :=
  call_dq (h _ _ (F.push _) (N.push F _) fun p hp => Heap.lt_size (N p hp).1)
theorem truthy_dqN {h₀ : Heap} {L l : Addr} {news : List (Addr × Obj)} {Q : Bool → Shared → Prop} (N : News h₀ L s.heap news) (hm : (l, dqObj) ∈ news) (h : Q false { s with toks := s.toks + 1 + 1 }) : wpAny (model prog w) A (truthy (.ref l)) Q E s :=
  truthy_dq (N.get hm) h
end
end
/- C2 -/
section
set_option maxRecDepth 100000
set_option maxHeartbeats 0
theorem news_drop2 {h₀ h : Heap} {L : Addr} {a b c d : Addr × Obj} {rest : List (Addr × Obj)} (N : News h₀ L h (a :: b :: c :: d :: rest)) : News h₀ L h (a :: b :: rest) := by
  intro p hp
  rcases List.mem_cons.mp hp with rfl | hp
  · exact N _ (.head _)
  · rcases List.mem_cons.mp hp with rfl | hp
    · exact N _ (.tail _ (.head _))
    · exact N _ (.tail _ (.tail _ (.tail _ (.tail _ hp))))
theorem made587 {w : World} {h : Heap} (X : (Mine.hd.heap_1 w.params).In h) : Looks (model pr w) h (Bind.madeBy (.ref 587)) none := Looks.of_peek X (by kernel_rfl)
theorem base587 {w : World} {h : Heap} (X : (Mine.hd.heap_1 w.params).In h) : Looks (model pr w) h (Bind.staticBase (.ref 587)) (.type "object") := Looks.of_peek X (by kernel_rfl)
theorem madeObj {w : World} {h : Heap} (X : (Mine.hd.heap_1 w.params).In h) : Looks (model pr w) h (Bind.madeBy (.type "object")) (some "object.__new__") := Looks.of_peek X (by kernel_rfl)
theorem new_walk {w : World} {A : Around} {Q E : Value → Shared → Prop} {s : Shared} {h₀ : Heap} {L : Addr} {m : Str → Option Value} {news : List (Addr × Obj)} {oc : Value} {od : Option Addr} {cd : ClassData} {sl : Array (Option Value)}
    (F : Fr h₀ L s.heap m) (X : (Mine.hd.heap_1 w.params).In h₀) (N : News h₀ L s.heap news) (hC : (Mine.hd.heap_1 w.params).lookup 587 = some ⟨oc, od, .cls cd, sl⟩) (e1 : cd.abstract = false) (e2 : cd.hasDel = false)
    (ht : subIn (Mine.hd.heap_1 w.params) (.ref 587) (.type "object") = some true) (htyp : instIn (Mine.hd.heap_1 w.params) (.ref 587) (.type "type") = some true)
    (h : ∀ x dx h', Fr h₀ L h' m → News h₀ L h' ((x, instObj 587 dx) :: (dx, dictOf [] 0) :: news) → (∀ p ∈ news, p.1 < dx) → dx < x → Q (.ref x) { s with heap := h' }) :
    wpAny (model pr w) A (call (.builtin "object.__new__") [.ref 587]) Q E s := by
  obtain ⟨hh, g, d, t, os⟩ := s
  have XX := X.keeps F.keep
  refine wpAny_call (new_own (XX _ _ hC) e1 e2 (base587 XX) (madeObj XX) (looks_subIn XX ht) (looks_instIn XX htyp) ?_)
  refine h _ hh.objs.size _ ((F.push _).push _) ?_ (fun p hp => Heap.lt_size (N p hp).1) (Nat.lt_succ_self _)
  have := (N.push F emptyDict).push (F.push _) (instObj 587 hh.objs.size)
  rwa [Heap.size_push] at this
local macro_rules | `(tactic| walk_at "call builtin:object.__new__") => `(tactic| (k_here; k_dflt (refine' new_walk ?k1 ?k2 ?k3 ?k4 ?k5 ?k6 ?k7 ?k8 ?_; (case k1 => k_asm); (case k2 => k_asm); (case k3 => k_asm); (case k4 => k_is); (case k5 => exact rfl); (case k6 => exact rfl); (case k7 => k_is); (case k8 => k_is); k_whole; intro x' d' h' F' N' l1 l2; (try k_lt l1); (try k_lt2 l2); (try k_sweep))))
theorem io_make {w : World} {mean : ExcName → Option Value} {mg mb : Str → Option Value} {gd : Option (List Code)} {cn : Str} {nm : List (Str × NameKind)} {gn co : Bool} {mo : List (Str × Const)} {a : Addr} {ccd : Value} {cl : List (Str × Addr)} {outer : List Env} {A₀ : Around} {base h₀ : Heap} {L : Addr} {m : Str → Option Value} {s : Shared} {Q E : Value → Shared → Prop}
   {x : Str} {t : Tok} {rest : List (Addr × Obj)}
   (B : Below A₀ base outer h₀) (F : Fr h₀ L s.heap m) (X : (Mine.hd.heap_1 w.params).In h₀) (N : News h₀ L s.heap (rest)) (T : Top vq (looseW vq vl) mean mg mb h₀)
   (hx : x.length ≤ 1000)
   (r : ∀ y d h' tk t1 t2 t3 u3, Fr h₀ L h' m → News h₀ L h' ((y, instObj 587 d) :: (d, ioD w t1 671 t2 t t3 u3 x 0) :: rest) → (∀ p ∈ rest, p.1 < d) → d < y → Q (.ref y) { s with heap := h', toks := tk }) :
   wpAny (model pr w) (ktrTop 700 5000 gd cn ⟨.function, nm, gn, co, mo⟩ L a ccd cl outer) (call (.ref 587) [.str x t]) Q E s := by
  w_on
  have hfill : PySem.Challenge.rw_nq0227_01 = PySem.Challenge.rw_nq0227_01 ∧ Mine.hd.heap_1 = Mine.hd.heap_1 := by
    k_fill
    exact ⟨rfl, rfl⟩
  clear hfill
  refine wpAny_call ?_
  obtain ⟨hh, g, dd, tt, os⟩ := s
  have XX := X.keeps F.keep
  refine make_own (fN := 80) (fI := 357) (K := Mine.hd.heap_1 w.params) XX (by k_is) (by rfl) (by k_is) (by k_is) (by k_is) (made587 XX) (fun A' Q' E' hQ => ?_) (by k_is) (by k_is) ?_
  · walk1
    exact hQ
  · k_enter
    k_steps
    refine ⟨_, _, rfl, (News.get (by k_asm) (by k_mem)), (by k_in), ?_⟩
    k_enter
    k_steps
    rename News h₀ _ _ _ => nn
    refine r _ _ _ _ _ _ _ _ (by k_asm) (news_drop2 nn) ?_ ?_
    · rename _ ∧ _ ∧ AllLt _ rest => ll
      exact allLt_mem ll.2.2
    · assumption
end
/- B1 -/
section
set_option maxRecDepth 100000
/-- the tokens of a lexer's dict that stay -/
structure LT where
  (a0 a1 a2 a3 a4 a5 a6 a7 a8 a9 a10 a11 a12 a13 a14 a15 a16 a17 a18 vc vw vs vq ve vx vd vp : Tok)
noncomputable abbrev wchars : Str := "abcdfeghijklmnopqrstuvwxyzABCDEFGHIJKLMNOPQRSTUVWXYZ0123456789_ßàáâãäåæçèéêëìíîïðñòóôõöøùúûüýþÿÀÁÂÃÄÅÆÇÈÉÊËÌÍÎÏÐÑÒÓÔÕÖØÙÚÛÜÝÞ"
noncomputable abbrev en (w : World) (n : Str) (t : Tok) (v : Value) : DictEntry := ⟨PyData.keyHash w.params n, .str n t, v⟩
noncomputable abbrev lexD (w : World) (T : LT) (io pb fs : Addr) (cm : Str) (wsp : Bool) (st : Value) (ln : Int) (ul : Tok) (tok : Str) (ut : Tok) : Obj := dictOf
  [⟨PyData.keyHash w.params "instream", .str "instream" T.a0, .ref io⟩, ⟨PyData.keyHash w.params "infile", .str "infile" T.a1, .none⟩, ⟨PyData.keyHash w.params "posix", .str "posix" T.a2, .bool true⟩,
   ⟨PyData.keyHash w.params "eof", .str "eof" T.a3, .none⟩, ⟨PyData.keyHash w.params "commenters", .str "commenters" T.a4, .str cm T.vc⟩, ⟨PyData.keyHash w.params "wordchars", .str "wordchars" T.a5, .str wchars T.vw⟩,
   ⟨PyData.keyHash w.params "whitespace", .str "whitespace" T.a6, .str " \t\r\n" T.vs⟩, ⟨PyData.keyHash w.params "whitespace_split", .str "whitespace_split" T.a7, .bool wsp⟩, ⟨PyData.keyHash w.params "quotes", .str "quotes" T.a8, .str "'\"" T.vq⟩,
   ⟨PyData.keyHash w.params "escape", .str "escape" T.a9, .str "\\" T.ve⟩, ⟨PyData.keyHash w.params "escapedquotes", .str "escapedquotes" T.a10, .str "\"" T.vx⟩, ⟨PyData.keyHash w.params "state", .str "state" T.a11, st⟩,
   ⟨PyData.keyHash w.params "pushback", .str "pushback" T.a12, .ref pb⟩, ⟨PyData.keyHash w.params "lineno", .str "lineno" T.a13, .int ln ul⟩, ⟨PyData.keyHash w.params "debug", .str "debug" T.a14, .int 0 T.vd⟩,
   ⟨PyData.keyHash w.params "token", .str "token" T.a15, .str tok ut⟩, ⟨PyData.keyHash w.params "filestack", .str "filestack" T.a16, .ref fs⟩, ⟨PyData.keyHash w.params "source", .str "source" T.a17, .none⟩,
   ⟨PyData.keyHash w.params "_punctuation_chars", .str "_punctuation_chars" T.a18, .str "" T.vp⟩] 19
end
/- C3 -/
local macro_rules | `(tactic| walk_at "ite") => `(tactic| first | with_reducible refine PyProof.Rows.ite_tt ?_ | with_reducible refine PyProof.Rows.ite_ff ?_)
local macro_rules | `(tactic| walk_at "exec If") => `(tactic| refine wpAny_If ?_)
local macro_rules | `(tactic| walk_at "call ref") => `(tactic| (k_here; (with_reducible show wpAny _ _ (call (Value.ref 587) [Value.str _ _]) _ _ _); k_dflt (refine' wpAny_le (io_make ?B ?F ?X ?N ?T ?hx ?_) ?h1 ?h2 ?h3 ?h4 ?h5; (case B => k_asm); (case F => k_asm); (case X => k_asm); (case N => k_asm); (case T => k_asm); (case h1 => exact rfl); (case h3 => exact rfl); (case h4 => exact rfl); (case h2 => exact Nat.le_of_ble_eq_true rfl); (case h5 => exact Nat.le_of_ble_eq_true rfl); (case hx => assumption); k_whole; intro y' d' h' tk' t1' t2' t3' u3' F' N' l1 l2; (try k_lt l1); (try k_lt2 l2); (try k_sweep))))
local macro_rules | `(tactic| walk_at "call type:collections.deque") => `(tactic| (k_here; k_dflt (refine' dq_N ?F ?N ?_; (case F => k_asm); (case N => k_asm); k_whole; intro l' h' F' N' l1; (try k_lt l1); (try k_sweep))))
local macro_rules | `(tactic| walk_at "truthy ref") => `(tactic| (k_here; k_dflt (refine' truthy_dqN ?N ?q ?_; (case N => k_asm); (case q => k_mem); k_whole)))
section
set_option maxRecDepth 100000
set_option maxHeartbeats 0
theorem lex_make {w : World} {mean : ExcName → Option Value} {mg mb : Str → Option Value} {gd : Option (List Code)} {cn : Str} {nm : List (Str × NameKind)} {gn co : Bool} {mo : List (Str × Const)} {a : Addr} {ccd : Value} {cl : List (Str × Addr)} {outer : List Env} {A₀ : Around} {base h₀ : Heap} {L : Addr} {m : Str → Option Value} {s : Shared} {Q E : Value → Shared → Prop}
   {x : Str} {t : Tok} {rest : List (Addr × Obj)}
   (B : Below A₀ base outer h₀) (F : Fr h₀ L s.heap m) (X : (Mine.hd.heap_1 w.params).In h₀) (N : News h₀ L s.heap (rest)) (T : Top vq (looseW vq vl) mean mg mb h₀)
   (hx : x.length ≤ 1000)
   (r : ∀ lx ld io d pb fs h' tk (T : LT) us ul ut t1 t2 t3 u3, Fr h₀ L h' m → News h₀ L h' ((fs, dqObj) :: (pb, dqObj) :: (io, instObj 587 d) :: (d, ioD w t1 671 t2 t t3 u3 x 0) :: (lx, instObj 722 ld) :: (ld, lexD w T io pb fs "#" false (.str " " us) 1 ul "" ut) :: rest) →
     (∀ p ∈ rest, p.1 < ld) → ld < lx → lx < d → d < io → io < pb → pb < fs → Q (.ref lx) { s with heap := h', toks := tk }) :
   wpAny (model pr w) (ktrTop 600 4000 gd cn ⟨.function, nm, gn, co, mo⟩ L a ccd cl outer) (call (.ref 722) [.str x t] [(Str.ofString "posix", .bool true)]) Q E s := by
  w_on
  have hfill : PySem.Challenge.rw_nq0227_01 = PySem.Challenge.rw_nq0227_01 ∧ Mine.hd.heap_1 = Mine.hd.heap_1 := by
    k_fill
    exact ⟨rfl, rfl⟩
  clear hfill
  k_steps
  rename News h₀ _ _ _ => nn
  refine r _ _ _ _ _ _ _ _ ⟨_, _, _, _, _, _, _, _, _, _, _, _, _, _, _, _, _, _, _, _, _, _, _, _, _, _, _⟩ _ _ _ _ _ _ _ (by k_asm) nn ?_ ?_ ?_ ?_ ?_ ?_
  all_goals first | assumption | (refine ltN ?_; omega)
end
/- C35 -/
section
set_option maxRecDepth 100000
set_option maxHeartbeats 0
noncomputable abbrev wchars0 : Str := "abcdfeghijklmnopqrstuvwxyzABCDEFGHIJKLMNOPQRSTUVWXYZ0123456789_"
noncomputable abbrev lexN (w : World) (T : LT) (io pb fs : Addr) (te us ul ut : Tok) : Obj := dictOf
  [⟨PyData.keyHash w.params "instream", .str "instream" T.a0, .ref io⟩, ⟨PyData.keyHash w.params "infile", .str "infile" T.a1, .none⟩, ⟨PyData.keyHash w.params "posix", .str "posix" T.a2, .bool false⟩,
   ⟨PyData.keyHash w.params "eof", .str "eof" T.a3, .str "" te⟩, ⟨PyData.keyHash w.params "commenters", .str "commenters" T.a4, .str "#" T.vc⟩, ⟨PyData.keyHash w.params "wordchars", .str "wordchars" T.a5, .str wchars0 T.vw⟩,
   ⟨PyData.keyHash w.params "whitespace", .str "whitespace" T.a6, .str " \t\r\n" T.vs⟩, ⟨PyData.keyHash w.params "whitespace_split", .str "whitespace_split" T.a7, .bool false⟩, ⟨PyData.keyHash w.params "quotes", .str "quotes" T.a8, .str "'\"" T.vq⟩,
   ⟨PyData.keyHash w.params "escape", .str "escape" T.a9, .str "\\" T.ve⟩, ⟨PyData.keyHash w.params "escapedquotes", .str "escapedquotes" T.a10, .str "\"" T.vx⟩, ⟨PyData.keyHash w.params "state", .str "state" T.a11, .str " " us⟩,
   ⟨PyData.keyHash w.params "pushback", .str "pushback" T.a12, .ref pb⟩, ⟨PyData.keyHash w.params "lineno", .str "lineno" T.a13, .int 1 ul⟩, ⟨PyData.keyHash w.params "debug", .str "debug" T.a14, .int 0 T.vd⟩,
   ⟨PyData.keyHash w.params "token", .str "token" T.a15, .str "" ut⟩, ⟨PyData.keyHash w.params "filestack", .str "filestack" T.a16, .ref fs⟩, ⟨PyData.keyHash w.params "source", .str "source" T.a17, .none⟩,
   ⟨PyData.keyHash w.params "_punctuation_chars", .str "_punctuation_chars" T.a18, .str "" T.vp⟩] 19
theorem lex_io {w : World} {mean : ExcName → Option Value} {mg mb : Str → Option Value} {gd : Option (List Code)} {cn : Str} {nm : List (Str × NameKind)} {gn co : Bool} {mo : List (Str × Const)} {a : Addr} {ccd : Value} {cl : List (Str × Addr)} {outer : List Env} {A₀ : Around} {base h₀ : Heap} {L : Addr} {m : Str → Option Value} {s : Shared} {Q E : Value → Shared → Prop}
   {x : Str} {t : Tok} {rest : List (Addr × Obj)}
   (B : Below A₀ base outer h₀) (F : Fr h₀ L s.heap m) (X : (Mine.hd.heap_1 w.params).In h₀) (N : News h₀ L s.heap (rest)) (T : Top vq (looseW vq vl) mean mg mb h₀)
   (hx : x.length ≤ 1000)
   (r : ∀ lx ld io d pb fs h' tk (T : LT) te us ul ut t1 t2 t3 u3, Fr h₀ L h' m → News h₀ L h' ((fs, dqObj) :: (pb, dqObj) :: (io, instObj 587 d) :: (d, ioD w t1 671 t2 t t3 u3 x 0) :: (lx, instObj 722 ld) :: (ld, lexN w T io pb fs te us ul ut) :: rest) →
     (∀ p ∈ rest, p.1 < ld) → ld < lx → lx < d → d < io → io < pb → pb < fs → Q (.ref lx) { s with heap := h', toks := tk }) :
   wpAny (model pr w) (ktrTop 600 4000 gd cn ⟨.function, nm, gn, co, mo⟩ L a ccd cl outer) (call (.ref 722) [.str x t]) Q E s := by
  w_on
  have hfill : PySem.Challenge.rw_nq0227_01 = PySem.Challenge.rw_nq0227_01 ∧ Mine.hd.heap_1 = Mine.hd.heap_1 := by
    k_fill
    exact ⟨rfl, rfl⟩
  clear hfill
  k_steps
  rename News h₀ _ _ _ => nn
  refine r _ _ _ _ _ _ _ _ ⟨_, _, _, _, _, _, _, _, _, _, _, _, _, _, _, _, _, _, _, _, _, _, _, _, _, _, _⟩ _ _ _ _ _ _ _ _ (by k_asm) nn ?_ ?_ ?_ ?_ ?_ ?_
  all_goals first | assumption | (refine ltN ?_; omega)
end
/- B2 -/
section
set_option maxRecDepth 100000
set_option maxHeartbeats 0
theorem news_34 {h₀ h : Heap} {L : Addr} {a b c d : Addr × Obj} {rest : List (Addr × Obj)} (N : News h₀ L h (a :: b :: c :: d :: rest)) : News h₀ L h (c :: d :: a :: b :: rest) := by
  intro p hp
  refine N p ?_
  simp only [List.mem_cons] at hp ⊢
  rcases hp with h | h | h | h | h <;> simp [h]
theorem news_43 {h₀ h : Heap} {L : Addr} {a b c d : Addr × Obj} {rest : List (Addr × Obj)} (N : News h₀ L h (c :: d :: a :: b :: rest)) : News h₀ L h (a :: b :: c :: d :: rest) := by
  intro p hp
  refine N p ?_
  simp only [List.mem_cons] at hp ⊢
  rcases hp with h | h | h | h | h <;> simp [h]
theorem read_34 {w : World} {mean : ExcName → Option Value} {mg mb : Str → Option Value} {gd : Option (List Code)} {cn : Str} {nm : List (Str × NameKind)} {gn co : Bool} {mo : List (Str × Const)} {a : Addr} {ccd : Value} {cl : List (Str × Addr)} {outer : List Env} {A₀ : Around} {base h₀ : Heap} {L : Addr} {m : Str → Option Value} {s : Shared} {Q E : Value → Shared → Prop}
   {l : List Nat} {k : Nat} {io d : Addr} {t t1 u1 t2 u2 t3 u3 : Tok} {p1 p2 : Addr × Obj} {rest : List (Addr × Obj)}
   (B : Below A₀ base outer h₀) (F : Fr h₀ L s.heap m) (X : (Mine.hd.heap_1 w.params).In h₀) (N : News h₀ L s.heap (p1 :: p2 :: (io, instObj 587 d) :: (d, ioD w t1 u1 t2 u2 t3 u3 ⟨l.toArray⟩ k) :: rest)) (T : Top vq (looseW vq vl) mean mg mb h₀)
   (hx : l.length ≤ 1000) (hp2 : k ≤ l.length) (hne : io ≠ d) (h1 : p1.1 ≠ d) (h2 : p2.1 ≠ d) (hr : ∀ q ∈ rest, q.1 ≠ d)
   (r0 : l[k]? = none → ∀ h' tk t', Fr h₀ L h' m → News h₀ L h' (p1 :: p2 :: (io, instObj 587 d) :: (d, ioD w t1 u1 t2 u2 t3 u3 ⟨l.toArray⟩ k) :: rest) → Q (.str (Str.ofString "") t') { s with heap := h', toks := tk })
   (r1 : ∀ c, l[k]? = some c → ∀ h' tk t' u', Fr h₀ L h' m → News h₀ L h' (p1 :: p2 :: (io, instObj 587 d) :: (d, ioD w t1 u1 t2 u2 t3 u' ⟨l.toArray⟩ (k + 1 : Nat)) :: rest) → Q (.str ⟨#[c]⟩ t') { s with heap := h', toks := tk }) :
   wpAny (model pr w) (ktrTop 700 5000 gd cn ⟨.function, nm, gn, co, mo⟩ L a ccd cl outer) (call (.ref 533) [.ref io, .int 1 t]) Q E s := by
  w_on
  have hfill : PySem.Challenge.rw_nq0227_01 = PySem.Challenge.rw_nq0227_01 ∧ Mine.hd.heap_1 = Mine.hd.heap_1 := by
    k_fill
    exact ⟨rfl, rfl⟩
  clear hfill
  exact read_c B F X (news_34 N) T hx hp2 hne (fun q hq => by
      rcases List.mem_cons.mp hq with rfl | hq
      · exact h1
      · rcases List.mem_cons.mp hq with rfl | hq
        · exact h2
        · exact hr q hq) (fun hn h' tk t' F' N' => r0 hn h' tk t' F' (news_43 N')) (fun c hc h' tk t' u' F' N' => r1 c hc h' tk t' u' F' (news_43 N'))
end
/- B3 -/
section
set_option maxRecDepth 100000
set_option maxHeartbeats 4000000
structure LS where
  (k : Nat) (st : Option Nat) (us : Tok) (es : Nat) (ue : Tok) (q : Bool) (tok : List Nat) (ut : Tok) (ln : Int) (ul : Tok) (up : Tok)
noncomputable def stS (c : Nat) : Str := if c = 97 then "a" else if c = 32 then " " else if c = 39 then "'" else if c = 34 then "\"" else if c = 92 then "\\" else ⟨#[c]⟩
theorem stS_eq (c : Nat) : stS c = ⟨#[c]⟩ := by
  unfold stS
  split
  · rename_i h; subst h; decide +kernel
  · split
    · rename_i h; subst h; decide +kernel
    · split
      · rename_i h; subst h; decide +kernel
      · split
        · rename_i h; subst h; decide +kernel
        · split
          · rename_i h; subst h; decide +kernel
          · rfl
noncomputable def stV (st : Option Nat) (u : Tok) : Value := match st with
  | none => .none
  | some c => .str (stS c) u
noncomputable def rdS (st : Option Nat) (es : Nat) (q : Bool) (tok : List Nat) (r : List Nat) : RT := match st with
  | none => .eof
  | some c => rd c es q tok r
noncomputable def okSt (c : LS) : Prop := (c.st = none ∧ c.tok = [] ∧ c.q = false) ∨ (c.st = some 32 ∧ c.tok = [] ∧ c.q = false) ∨ c.st = some 97 ∨ c.st = some 39 ∨ c.st = some 34 ∨ (c.st = some 92 ∧ (c.es = 97 ∨ c.es = 34))
noncomputable def alph (c : Nat) : Prop := c = 97 ∨ c = 32 ∨ c = 10 ∨ c = 34 ∨ c = 39 ∨ c = 92 ∨ c = 98 ∨ c = 35
noncomputable def mRT (lx : Addr) (v1 v2 : Value) : Str → Option Value := fun y => if y = Str.ofString "escapedstate" then some v1 else if y = Str.ofString "quoted" then some v2 else if y = Str.ofString "self" then some (.ref lx) else none
theorem fr_rt {g h : Heap} {L lx : Addr} {v1 v2 : Value} (F : Fr g L h (fun y => if y = Str.ofString "escapedstate" then some v1 else if y = Str.ofString "quoted" then some v2 else List.lookup y [(Str.ofString "self", .ref lx)])) : Fr g L h (mRT lx v1 v2) := by
  have e : (fun y => if y = Str.ofString "escapedstate" then some v1 else if y = Str.ofString "quoted" then some v2 else List.lookup y [(Str.ofString "self", .ref lx)]) = mRT lx v1 v2 := by
    funext y
    unfold mRT
    by_cases h : y = Str.ofString "self"
    · subst h; rfl
    · have : (y == Str.ofString "self") = false := beq_eq_false_iff_ne.mpr h
      simp only [List.lookup, this, if_neg h]
  exact e ▸ F
noncomputable def Stop (P : Prop) : Prop := P
theorem stop_of {P : Prop} (h : Stop P) : P := h
noncomputable abbrev ledRT (w : World) (T : LT) (l : List Nat) (lx ld io d pb fs : Addr) (t1 u1 t2 u2 t3 : Tok) (rest : List (Addr × Obj)) (c : LS) : List (Addr × Obj) :=
  (lx, instObj 722 ld) :: (ld, lexD w T io pb fs "" true (stV c.st c.us) c.ln c.ul ⟨c.tok.toArray⟩ c.ut) :: (io, instObj 587 d) :: (d, ioD w t1 u1 t2 u2 t3 c.up ⟨l.toArray⟩ c.k) :: (pb, dqObj) :: (fs, dqObj) :: rest
/-- what holds between the turns -/
noncomputable def InvRT (l : List Nat) (R : RT) (c : LS) : Prop := c.k ≤ l.length ∧ okSt c ∧ c.tok.length ≤ 2 * c.k ∧ rdS c.st c.es c.q c.tok (l.drop c.k) = R ∧ (c.st = none → c.k = l.length)
/-- what holds behind the loop -/
noncomputable def OutRT (l : List Nat) (R : RT) (c : LS) : Prop := c.k ≤ l.length ∧ (c.st = some 32 ∨ c.st = none ∧ c.k = l.length) ∧ c.tok.length ≤ 2 * c.k ∧ ((R = .eof ∧ c.tok = [] ∧ c.q = false ∧ c.st = none) ∨ (R = .word c.tok (l.drop c.k) (c.st == none) ∧ ¬ (c.tok = [] ∧ c.q = false)))
noncomputable abbrev psRT (c : LS) : List (Str × Value) := [(Str.ofString "quoted", Value.bool c.q), (Str.ofString "escapedstate", Value.str (stS c.es) c.ue)]
noncomputable abbrev frRT (m₀ u : Str → Option Value) (c : LS) : Str → Option Value := kstB (fun z => if [Str.ofString "nextchar"].contains z then u z else m₀ z) (psRT c)
noncomputable def ExitRT (g : Heap) (L : Addr) (s : Shared) (Led : LS → List (Addr × Obj)) (m₀ : Str → Option Value) (l : List Nat) (R : RT) (s₂ : Shared) : Prop :=
  ∃ (c : LS) (h' : Heap) (tk : Nat) (u : Str → Option Value), s₂ = { s with heap := h', toks := tk } ∧ Fr g L h' (frRT m₀ u c) ∧ News g L h' (Led c) ∧ OutRT l R c
noncomputable def TurnRT (g : Heap) (L : Addr) (s : Shared) (Led : LS → List (Addr × Obj)) (m₀ : Str → Option Value) (l : List Nat) (R : RT) (c : LS) (f : Flow) (s₂ : Shared) : Prop := match f with
  | .ret _ => False
  | .brk => ExitRT g L s Led m₀ l R s₂
  | _ => ∃ (c' : LS) (h' : Heap) (tk : Nat) (u : Str → Option Value), s₂ = { s with heap := h', toks := tk } ∧ Fr g L h' (frRT m₀ u c') ∧ News g L h' (Led c') ∧ InvRT l R c' ∧ c'.k = c.k + 1
theorem frRT_at {m₀ u : Str → Option Value} {c : LS} : (∀ p ∈ psRT c, frRT m₀ u c p.1 = some p.2) ∧ (∀ z, (∀ p ∈ psRT c, z ≠ p.1) → [Str.ofString "nextchar"].contains z = false → frRT m₀ u c z = m₀ z) := by
  refine ⟨fun p hp => ?_, fun z h1 h2 => ?_⟩
  · rcases List.mem_cons.mp hp with rfl | hp
    · rfl
    · rcases List.mem_cons.mp hp with rfl | hp
      · rfl
      · cases hp
  · show (if z = Str.ofString "quoted" then _ else if z = Str.ofString "escapedstate" then _ else (if [Str.ofString "nextchar"].contains z = true then u z else m₀ z)) = _
    rw [if_neg (h1 _ (.head _)), if_neg (h1 _ (.tail _ (.head _))), h2]
    rfl
theorem while_rt {prog : Program} {w : World} {A : Around} {E : Value → Shared → Prop} {Q : Flow → Shared → Prop} {s : Shared} {env : Env} {g : Heap} {L : Addr} {body : List Stmt} {kk : Nat} {pp pos : Pos} {m₀ : Str → Option Value} {Led : LS → List (Addr × Obj)} {l : List Nat} {R : RT} (c₀ : LS)
    (F : Fr g L s.heap m₀) (N : News g L s.heap (Led c₀)) (hk : ∀ p ∈ psRT c₀, m₀ p.1 = some p.2) (hp : InvRT l R c₀)
    (turn : ∀ (c : LS) (u : Str → Option Value) (h : Heap) (tk : Nat), InvRT l R c → Fr g L h (frRT m₀ u c) → News g L h (Led c) → wpAny (model prog w) A (execs body env) (TurnRT g L s Led m₀ l R c) E { s with heap := h, toks := tk })
    (after : ∀ s₂, ExitRT g L s Led m₀ l R s₂ → Q .next s₂)
    (hE : PassesOwn (model prog w) A env E := by passes_own) :
    wpAny (model prog w) A (exec (.While (.Constant (.bool true) kk pp) body [] pos) env) Q E s := by
  refine ksw_while (σ := LS) Led psRT (fun _ => True) [Str.ofString "nextchar"] (InvRT l R) (fun c => l.length - c.k) c₀ F N trivial hk hp ?_ hE
  intro c u h tk _ hP F3 N3
  have key := turn c u h tk hP F3 N3
  walk1
  walk1
  walk1
  rw [if_pos rfl]
  refine wpAny_mono key (fun f s₂ q => ?_) (fun _ _ x => x)
  cases f with
  | ret v => exact q.elim
  | brk => exact after _ q
  | next =>
    obtain ⟨c', h', tk', u', rfl, F', N', hi, hk'⟩ := q
    exact ksw_end c' F' N' (fun _ x => x) trivial frRT_at.1 frRT_at.2 hi (by have := hi.1; show l.length - c'.k < l.length - c.k; omega)
  | cont =>
    obtain ⟨c', h', tk', u', rfl, F', N', hi, hk'⟩ := q
    exact ksw_end c' F' N' (fun _ x => x) trivial frRT_at.1 frRT_at.2 hi (by have := hi.1; show l.length - c'.k < l.length - c.k; omega)
/-- a sign of a class -/
noncomputable def Cls (ch : Nat) (S : List Nat) : Prop := ch ∈ S
noncomputable def inS (x y : Str) : Bool := !(Builtin.Str.occurrences x y 0 x.length 1).isEmpty
section
variable {prog : Program} {w : World} {A : Around} {E : Value → Shared → Prop} {s : Shared} {Q : Value → Shared → Prop} {ch : Nat} {S : List Nat} {t u : Tok} {y : Str}
theorem in_cls (b : Bool) (hc : Cls ch S) (h : S.all (fun c => y.cps.toList.contains c == b) = true) (q : Q (.bool b) s) : wpAny (model prog w) A (compareOp .In (.str ⟨#[ch]⟩ t) (.str y u)) Q E s := by
  have e1 : y.cps.toList.contains ch = b := beq_iff_eq.mp (List.all_eq_true.mp h ch hc)
  have e : inS y ⟨#[ch]⟩ = b := by
    show (!(Builtin.Str.occurrences y ⟨#[ch]⟩ 0 y.length 1).isEmpty) = b
    rw [StrLaws.found_one, ← e1, List.contains_eq_mem]
  refine PyProof.Rows.in_str ?_
  show Q (.bool (inS y ⟨#[ch]⟩)) s
  rw [e]; exact q
theorem nin_cls (b : Bool) (hc : Cls ch S) (h : S.all (fun c => y.cps.toList.contains c == !b) = true) (q : Q (.bool b) s) : wpAny (model prog w) A (compareOp .NotIn (.str ⟨#[ch]⟩ t) (.str y u)) Q E s := by
  have e1 : y.cps.toList.contains ch = !b := beq_iff_eq.mp (List.all_eq_true.mp h ch hc)
  have e : (Builtin.Str.occurrences y ⟨#[ch]⟩ 0 y.length 1).isEmpty = b := by
    have := StrLaws.found_one y ch
    rw [← List.contains_eq_mem, e1] at this
    cases b <;> simpa using this
  refine PyProof.Rows.notIn_str ?_
  rw [Bool.not_not]
  rw [e]; exact q
theorem in_lit {x : Str} (b : Bool) (h : inS y x = b) (q : Q (.bool b) s) : wpAny (model prog w) A (compareOp .In (.str x t) (.str y u)) Q E s := by
  refine PyProof.Rows.in_str ?_
  show Q (.bool (inS y x)) s
  rw [h]; exact q
theorem eq_cls (b : Bool) (hc : Cls ch S) (h : S.all (fun c => ((⟨#[c]⟩ : Str) == y) == b) = true) (q : Q (.bool b) s) : wpAny (model prog w) A (compareOp .Eq (.str ⟨#[ch]⟩ t) (.str y u)) Q E s := by
  have e : ((⟨#[ch]⟩ : Str) == y) = b := beq_iff_eq.mp (List.all_eq_true.mp h ch hc)
  refine PyProof.Rows.eq_str ?_
  rw [e]; exact q
theorem ne_cls (b : Bool) (hc : Cls ch S) (h : S.all (fun c => ((⟨#[c]⟩ : Str).cps.toList != y.cps.toList) == b) = true) (q : Q (.bool b) s) : wpAny (model prog w) A (compareOp .NotEq (.str ⟨#[ch]⟩ t) (.str y u)) Q E s := by
  have e : ((⟨#[ch]⟩ : Str).cps.toList != y.cps.toList) = b := beq_iff_eq.mp (List.all_eq_true.mp h ch hc)
  refine P.ne_str ?_
  rw [e]; exact q
theorem truthy_ch {Q : Bool → Shared → Prop} (q : Q true { s with toks := s.toks + 1 + 1 }) : wpAny (model prog w) A (truthy (.str ⟨#[ch]⟩ t)) Q E s :=
  P.truthy_str (by show ¬ ((1 : Nat) : Int) ≥ 2 ^ 63; omega) q
end
theorem frTo {g h : Heap} {L : Addr} {m₀ m₁ : Str → Option Value} (c' : LS) (F : Fr g L h m₁) (h1 : m₁ (Str.ofString "quoted") = some (.bool c'.q)) (h2 : m₁ (Str.ofString "escapedstate") = some (.str (stS c'.es) c'.ue))
    (h3 : ∀ z, z ≠ Str.ofString "quoted" → z ≠ Str.ofString "escapedstate" → z ≠ Str.ofString "nextchar" → m₁ z = m₀ z) : Fr g L h (frRT m₀ m₁ c') := by
  refine ksw_fr (fun p hp => ?_) (fun z a b => ?_) F
  · rcases List.mem_cons.mp hp with rfl | hp
    · exact h1
    · rcases List.mem_cons.mp hp with rfl | hp
      · exact h2
      · cases hp
  · refine h3 z (a _ (.head _)) (a _ (.tail _ (.head _))) ?_
    intro e
    subst e
    exact absurd b (by decide)
theorem alph_cls {ch : Nat} (h : alph ch) : Cls ch [32] ∨ Cls ch [10] ∨ Cls ch [39, 34] ∨ Cls ch [92] ∨ Cls ch [97, 98] ∨ Cls ch [35] := by
  unfold alph at h
  unfold Cls
  rcases h with h | h | h | h | h | h | h | h <;> subst h <;> decide
end
/- B4 -/
section
set_option maxRecDepth 100000
theorem drop_at {l : List Nat} {k ch : Nat} (h : l[k]? = some ch) : l.drop k = ch :: l.drop (k + 1) ∧ k + 1 ≤ l.length := by
  rcases Nat.lt_or_ge k l.length with q | q
  · rw [List.getElem?_eq_getElem q] at h
    cases h
    exact ⟨List.drop_eq_getElem_cons q, q⟩
  · rw [List.getElem?_eq_none_iff.mpr q] at h; cases h
theorem drop_end {l : List Nat} {k : Nat} (h : l[k]? = none) (hk : k ≤ l.length) : l.drop k = [] ∧ k = l.length := by
  have : l.length ≤ k := List.getElem?_eq_none_iff.mp h
  exact ⟨List.drop_eq_nil_iff.mpr this, by omega⟩
theorem news_tl {h₀ h : Heap} {L : Addr} {a : Addr × Obj} {l : List (Addr × Obj)} (N : News h₀ L h (a :: l)) : News h₀ L h l := fun p hp => N p (.tail _ hp)
/-- a turn that goes on -/
theorem inv_step {l : List Nat} {R : RT} {kc st es : Nat} {q : Bool} {tok : List Nat} {ch : Nat} (c' : LS) (st' : Nat) (hc : l[kc]? = some ch) (hR : rdS (some st) es q tok (l.drop kc) = R) (h1 : c'.k = kc + 1) (h2 : c'.st = some st')
    (hrd : ∀ r, rd st es q tok (ch :: r) = rd st' c'.es c'.q c'.tok r) (ok : okSt c') (len : c'.tok.length ≤ 2 * (kc + 1)) : InvRT l R c' := by
  obtain ⟨d1, d2⟩ := drop_at hc
  refine ⟨by omega, ok, by omega, ?_, fun h => by rw [h2] at h; cases h⟩
  rw [h1, h2]
  rw [d1] at hR
  show rd st' c'.es c'.q c'.tok (l.drop (kc + 1)) = R
  rw [← hrd]
  exact hR
/-- a word ends at a blank -/
theorem out_ws {l : List Nat} {R : RT} {kc es : Nat} {q : Bool} {tok : List Nat} {ch : Nat} (c' : LS) (hc : l[kc]? = some ch) (hR : rdS (some 97) es q tok (l.drop kc) = R) (hw : wsp ch = true) (h1 : c'.k = kc + 1) (h2 : c'.st = some 32) (h3 : c'.tok = tok) (h4 : c'.q = q)
    (hne : ¬ (tok = [] ∧ q = false)) (len : tok.length ≤ 2 * kc) : OutRT l R c' := by
  obtain ⟨d1, d2⟩ := drop_at hc
  refine ⟨by omega, .inl h2, by rw [h3]; omega, .inr ⟨?_, by rw [h3, h4]; exact hne⟩⟩
  rw [h1, h2, h3, ← hR, d1]
  show rd 97 es q tok (ch :: l.drop (kc + 1)) = _
  have h97 : ¬ ((97 : Nat) = 32) := by decide
  have h98 : ¬ ((97 : Nat) = 39 ∨ (97 : Nat) = 34) := by decide
  have h99 : ¬ ((97 : Nat) = 92) := by decide
  simp only [rd, if_neg h97, if_neg h98, if_neg h99, hw, if_true, if_neg hne]
  rfl
/-- a word ends with the text -/
theorem out_eof {l : List Nat} {R : RT} {kc es : Nat} {q : Bool} {tok : List Nat} (c' : LS) (hn : l[kc]? = none) (hk : kc ≤ l.length) (hR : rdS (some 97) es q tok (l.drop kc) = R) (h1 : c'.k = kc) (h2 : c'.st = none) (h3 : c'.tok = tok) (h4 : c'.q = q)
    (len : tok.length ≤ 2 * kc) : OutRT l R c' := by
  obtain ⟨d1, d2⟩ := drop_end hn hk
  refine ⟨by omega, .inr ⟨h2, by omega⟩, by rw [h3]; omega, ?_⟩
  have e : R = if tok = [] ∧ q = false then .eof else .word tok [] true := by rw [← hR, d1]; rfl
  by_cases h : tok = [] ∧ q = false
  · rw [if_pos h] at e
    exact .inl ⟨e, by rw [h3]; exact h.1, by rw [h4]; exact h.2, h2⟩
  · rw [if_neg h] at e
    refine .inr ⟨?_, by rw [h3, h4]; exact h⟩
    rw [e, h1, h2, h3, d1]
    rfl
/-- nothing but blanks to the end -/
theorem out_sp {l : List Nat} {R : RT} {kc es : Nat} {q : Bool} {tok : List Nat} (c' : LS) (hn : l[kc]? = none) (hk : kc ≤ l.length) (hR : rdS (some 32) es q tok (l.drop kc) = R) (h1 : c'.k = kc) (h2 : c'.st = none) (h3 : c'.tok = []) (h4 : c'.q = false) : OutRT l R c' := by
  obtain ⟨d1, d2⟩ := drop_end hn hk
  refine ⟨by omega, .inr ⟨h2, by omega⟩, by rw [h3]; exact Nat.zero_le _, .inl ⟨?_, h3, h4, h2⟩⟩
  rw [← hR, d1]; rfl
theorem out_none {l : List Nat} {R : RT} {kc es : Nat} {q : Bool} {tok r : List Nat} (c' : LS) (hk : kc = l.length) (hR : rdS none es q tok r = R) (h1 : c'.k = kc) (h2 : c'.st = none) (h3 : c'.tok = []) (h4 : c'.q = false) : OutRT l R c' :=
  ⟨by omega, .inr ⟨h2, by omega⟩, by rw [h3]; exact Nat.zero_le _, .inl ⟨hR.symm, h3, h4, h2⟩⟩
theorem tok_one (tok : List Nat) (ch : Nat) : (⟨tok.toArray⟩ : Str) ++ ⟨#[ch]⟩ = ⟨(tok ++ [ch]).toArray⟩ := by
  show (⟨tok.toArray ++ #[ch]⟩ : Str) = _
  simp
theorem tok_bs (tok : List Nat) : (⟨tok.toArray⟩ : Str) ++ Str.ofString "\\" = ⟨(tok ++ [92]).toArray⟩ := by
  rw [show Str.ofString "\\" = ⟨#[92]⟩ from by decide +kernel]
  exact tok_one tok 92
theorem tok_emp {tok : List Nat} (h : ((⟨tok.toArray⟩ : Str) == Str.ofString "") = true) : tok = [] := by
  have e : (⟨tok.toArray⟩ : Str) = Str.ofString "" := beq_iff_eq.mp h
  have e2 : tok.toArray = #[] := (Str.mk.inj (e.trans (show Str.ofString "" = ⟨#[]⟩ from rfl)))
  simpa using e2
theorem nc_out {m₀ u : Str → Option Value} {z : Str} (d : z ≠ Str.ofString "nextchar") : (if [Str.ofString "nextchar"].contains z = true then u z else m₀ z) = m₀ z := by
  have : [Str.ofString "nextchar"].contains z = false := by
    simp only [List.contains_cons, List.contains_nil, Bool.or_false]
    exact beq_eq_false_iff_ne.mpr d
  rw [this]; rfl
theorem frRT_out {m₀ u : Str → Option Value} {c : LS} {z : Str} (a : z ≠ Str.ofString "quoted") (b : z ≠ Str.ofString "escapedstate") (d : z ≠ Str.ofString "nextchar") : frRT m₀ u c z = m₀ z := by
  refine frRT_at.2 z (fun p hp => ?_) ?_
  · rcases List.mem_cons.mp hp with rfl | hp
    · exact a
    · rcases List.mem_cons.mp hp with rfl | hp
      · exact b
      · cases hp
  · simp only [List.contains_cons, List.contains_nil, Bool.or_false]
    exact beq_eq_false_iff_ne.mpr d
section
variable {g h' : Heap} {L : Addr} {s : Shared} {Led : LS → List (Addr × Obj)} {m₀ u : Str → Option Value} {l : List Nat} {R : RT} {c : LS} {tk : Nat}
theorem turn_next (c' : LS) (F : Fr g L h' (frRT m₀ u c')) (N : News g L h' (Led c')) (hi : InvRT l R c') (hk : c'.k = c.k + 1) : TurnRT g L s Led m₀ l R c .next { s with heap := h', toks := tk } := ⟨c', h', tk, u, rfl, F, N, hi, hk⟩
theorem turn_cont (c' : LS) (F : Fr g L h' (frRT m₀ u c')) (N : News g L h' (Led c')) (hi : InvRT l R c') (hk : c'.k = c.k + 1) : TurnRT g L s Led m₀ l R c .cont { s with heap := h', toks := tk } := ⟨c', h', tk, u, rfl, F, N, hi, hk⟩
theorem turn_brk (c' : LS) (F : Fr g L h' (frRT m₀ u c')) (N : News g L h' (Led c')) (hi : OutRT l R c') : TurnRT g L s Led m₀ l R c .brk { s with heap := h', toks := tk } := ⟨c', h', tk, u, rfl, F, N, hi⟩
end
theorem tok_ne {tok : List Nat} {q : Bool} (h : (((⟨tok.toArray⟩ : Str).length : Nat) : Int) ≠ 0) : ¬ (tok = [] ∧ q = false) := fun e => h (by rw [e.1]; rfl)
theorem tok_nil {tok : List Nat} (h : (((⟨tok.toArray⟩ : Str).length : Nat) : Int) = 0) : tok = [] := by
  have : tok.toArray.size = 0 := by
    have h2 : ((tok.toArray.size : Nat) : Int) = 0 := h
    omega
  simpa using this
theorem alph_q1 {ch : Nat} (h : alph ch) : Cls ch [39] ∨ Cls ch [10] ∨ Cls ch [92] ∨ Cls ch [97, 32, 34, 98, 35] := by
  unfold alph at h
  unfold Cls
  rcases h with h | h | h | h | h | h | h | h <;> subst h <;> decide
theorem alph_q2 {ch : Nat} (h : alph ch) : Cls ch [34] ∨ Cls ch [10] ∨ Cls ch [92] ∨ Cls ch [97, 32, 39, 98, 35] := by
  unfold alph at h
  unfold Cls
  rcases h with h | h | h | h | h | h | h | h <;> subst h <;> decide
theorem alph_bs {ch : Nat} (h : alph ch) : Cls ch [92] ∨ Cls ch [34] ∨ Cls ch [10] ∨ Cls ch [97, 32, 39, 98, 35] := by
  unfold alph at h
  unfold Cls
  rcases h with h | h | h | h | h | h | h | h <;> subst h <;> decide
theorem in_split {prog : Program} {w : World} {A : Around} {E : Value → Shared → Prop} {s : Shared} {Q : Value → Shared → Prop} {ch : Nat} {S : List Nat} {t u : Tok} {y : Str} (hc : Cls ch S) (h1 : Cls ch (S.filter fun c => y.cps.toList.contains c) → Q (.bool true) s) (h2 : Cls ch (S.filter fun c => !y.cps.toList.contains c) → Q (.bool false) s) :
    wpAny (model prog w) A (compareOp .In (.str ⟨#[ch]⟩ t) (.str y u)) Q E s := by
  cases h : y.cps.toList.contains ch with
  | true => exact in_cls (S := [ch]) true (List.mem_singleton.mpr rfl) (by simp only [List.all_cons, List.all_nil, h]; rfl) (h1 (List.mem_filter.mpr ⟨hc, h⟩))
  | false => exact in_cls (S := [ch]) false (List.mem_singleton.mpr rfl) (by simp only [List.all_cons, List.all_nil, h]; rfl) (h2 (List.mem_filter.mpr ⟨hc, by rw [h]; rfl⟩))
theorem nin_split {prog : Program} {w : World} {A : Around} {E : Value → Shared → Prop} {s : Shared} {Q : Value → Shared → Prop} {ch : Nat} {S : List Nat} {t u : Tok} {y : Str} (hc : Cls ch S) (h1 : Cls ch (S.filter fun c => y.cps.toList.contains c) → Q (.bool false) s) (h2 : Cls ch (S.filter fun c => !y.cps.toList.contains c) → Q (.bool true) s) :
    wpAny (model prog w) A (compareOp .NotIn (.str ⟨#[ch]⟩ t) (.str y u)) Q E s := by
  cases h : y.cps.toList.contains ch with
  | true => exact nin_cls (S := [ch]) false (List.mem_singleton.mpr rfl) (by simp only [List.all_cons, List.all_nil, h]; rfl) (h1 (List.mem_filter.mpr ⟨hc, h⟩))
  | false => exact nin_cls (S := [ch]) true (List.mem_singleton.mpr rfl) (by simp only [List.all_cons, List.all_nil, h]; rfl) (h2 (List.mem_filter.mpr ⟨hc, by rw [h]; rfl⟩))
theorem eq_split {prog : Program} {w : World} {A : Around} {E : Value → Shared → Prop} {s : Shared} {Q : Value → Shared → Prop} {ch : Nat} {S : List Nat} {t u : Tok} {y : Str} (hc : Cls ch S) (h1 : Cls ch (S.filter fun c => (⟨#[c]⟩ : Str) == y) → Q (.bool true) s) (h2 : Cls ch (S.filter fun c => !((⟨#[c]⟩ : Str) == y)) → Q (.bool false) s) :
    wpAny (model prog w) A (compareOp .Eq (.str ⟨#[ch]⟩ t) (.str y u)) Q E s := by
  cases h : ((⟨#[ch]⟩ : Str) == y) with
  | true => exact eq_cls (S := [ch]) true (List.mem_singleton.mpr rfl) (by simp only [List.all_cons, List.all_nil, h]; rfl) (h1 (List.mem_filter.mpr ⟨hc, h⟩))
  | false => exact eq_cls (S := [ch]) false (List.mem_singleton.mpr rfl) (by simp only [List.all_cons, List.all_nil, h]; rfl) (h2 (List.mem_filter.mpr ⟨hc, by rw [h]; rfl⟩))
end
/- C4 -/
local macro_rules | `(tactic| walk_at "truthy str") => `(tactic| ((with_reducible show wpAny _ _ (truthy (Value.str (Str.mk #[_]) _)) _ _ _); refine truthy_ch ?_))
section
set_option maxRecDepth 100000
set_option maxHeartbeats 0
set_option rowWalk.seconds 0
local macro_rules | `(tactic| walk_at "call ref") => `(tactic| (k_here; (with_reducible show wpAny _ _ (call (Value.ref 533) [Value.ref _, Value.int 1 _]) _ _ _); k_dflt (refine' wpAny_le (read_34 ?B ?F ?X ?N ?T ?hx ?hp ?hne ?g1 ?g2 ?hr ?_ ?_) ?h1 ?h2 ?h3 ?h4 ?h5; (case h1 => exact rfl); (case h3 => exact rfl); (case h4 => exact rfl); (case h2 => exact Nat.le_of_ble_eq_true rfl); (case h5 => exact Nat.le_of_ble_eq_true rfl); (case B => k_asm); (case F => k_asm); (case X => k_asm); (case N => k_asm); (case T => k_asm); (case hx => assumption); (case hp => assumption); (case hne => assumption); (case g1 => assumption); (case g2 => assumption); (case hr => first | assumption | (refine List.forall_mem_cons.mpr ⟨?_, List.forall_mem_cons.mpr ⟨?_, ?_⟩⟩ <;> assumption)); intro hn h' tk' t' F' N'; (try k_sweep); rotate_left; (refine stop_of ?_))))
local macro_rules | `(tactic| walk_at "compareOp In str str") => `(tactic| ((with_reducible show wpAny _ _ (compareOp CmpOp.In (Value.str (stS _) _) (Value.str (Str.ofString _) _)) _ _ _); first | (refine in_lit false (by decide +kernel) ?_) | (refine in_lit true (by decide +kernel) ?_)))
local macro_rules | `(tactic| walk_at "exec If") => `(tactic| ((with_reducible show wpAny _ _ (exec (Stmt.If (Expr.Compare _ _ _ _) [Stmt.AugAssign _ _ _ _] [] _) _) _ _ _); refine stop_of ?_))
local macro_rules | `(tactic| walk_at "exec While") => `(tactic| refine stop_of ?_)
local macro_rules | `(tactic| walk_at "compareOp In str str") => `(tactic| ((with_reducible show wpAny _ _ (compareOp CmpOp.In (Value.str (Str.mk #[_]) _) (Value.str _ _)) _ _ _); first | (with_reducible refine' in_cls true ?hc ?h ?_; (case hc => with_reducible assumption); (case h => k_dflt decide +kernel)) | (with_reducible refine' in_cls false ?hc ?h ?_; (case hc => with_reducible assumption); (case h => k_dflt decide +kernel)) | (refine stop_of ?_)))
local macro_rules | `(tactic| walk_at "compareOp NotIn str str") => `(tactic| ((with_reducible show wpAny _ _ (compareOp CmpOp.NotIn (Value.str (Str.mk #[_]) _) (Value.str _ _)) _ _ _); first | (with_reducible refine' nin_cls true ?hc ?h ?_; (case hc => with_reducible assumption); (case h => k_dflt decide +kernel)) | (with_reducible refine' nin_cls false ?hc ?h ?_; (case hc => with_reducible assumption); (case h => k_dflt decide +kernel)) | (refine stop_of ?_)))
local macro_rules | `(tactic| walk_at "compareOp Eq str str") => `(tactic| ((with_reducible show wpAny _ _ (compareOp CmpOp.Eq (Value.str (Str.mk #[_]) _) (Value.str _ _)) _ _ _); first | (with_reducible refine' eq_cls true ?hc ?h ?_; (case hc => with_reducible assumption); (case h => k_dflt decide +kernel)) | (with_reducible refine' eq_cls false ?hc ?h ?_; (case hc => with_reducible assumption); (case h => k_dflt decide +kernel)) | (refine stop_of ?_)))
local macro_rules | `(tactic| walk_at "compareOp NotEq str str") => `(tactic| ((with_reducible show wpAny _ _ (compareOp CmpOp.NotEq (Value.str (Str.mk #[_]) _) (Value.str _ _)) _ _ _); first | (with_reducible refine' ne_cls true ?hc ?h ?_; (case hc => with_reducible assumption); (case h => k_dflt decide +kernel)) | (with_reducible refine' ne_cls false ?hc ?h ?_; (case hc => with_reducible assumption); (case h => k_dflt decide +kernel)) | (refine stop_of ?_)))
theorem alph_all4 {ch : Nat} (h : alph ch) : Cls ch [97, 32, 10, 39, 34, 92, 98, 35] := by
  unfold alph at h
  unfold Cls
  rcases h with h | h | h | h | h | h | h | h <;> subst h <;> decide
theorem eq_cc {prog : Program} {w : World} {A : Around} {E : Value → Shared → Prop} {s : Shared} {Q : Value → Shared → Prop} {ch sc : Nat} {S S2 : List Nat} {t u : Tok} (b : Bool) (hc : Cls ch S) (hs : Cls sc S2) (h : S.all (fun c => S2.all fun d => ((⟨#[c]⟩ : Str) == ⟨#[d]⟩) == b) = true) (q : Q (.bool b) s) : wpAny (model prog w) A (compareOp .Eq (.str ⟨#[ch]⟩ t) (.str ⟨#[sc]⟩ u)) Q E s := by
  have e : ((⟨#[ch]⟩ : Str) == ⟨#[sc]⟩) = b := beq_iff_eq.mp (List.all_eq_true.mp (List.all_eq_true.mp h ch hc) sc hs)
  refine PyProof.Rows.eq_str ?_
  rw [e]; exact q
theorem ne_cc {prog : Program} {w : World} {A : Around} {E : Value → Shared → Prop} {s : Shared} {Q : Value → Shared → Prop} {ch sc : Nat} {S S2 : List Nat} {t u : Tok} (b : Bool) (hc : Cls ch S) (hs : Cls sc S2) (h : S.all (fun c => S2.all fun d => ((⟨#[c]⟩ : Str).cps.toList != (⟨#[d]⟩ : Str).cps.toList) == b) = true) (q : Q (.bool b) s) : wpAny (model prog w) A (compareOp .NotEq (.str ⟨#[ch]⟩ t) (.str ⟨#[sc]⟩ u)) Q E s := by
  have e : ((⟨#[ch]⟩ : Str).cps.toList != (⟨#[sc]⟩ : Str).cps.toList) = b := beq_iff_eq.mp (List.all_eq_true.mp (List.all_eq_true.mp h ch hc) sc hs)
  refine P.ne_str ?_
  rw [e]; exact q
theorem alph_nl4 {ch : Nat} (h : alph ch) : Cls ch [10] ∨ Cls ch [97, 32, 39, 34, 92, 98, 35] := by
  unfold alph at h
  unfold Cls
  rcases h with h | h | h | h | h | h | h | h <;> subst h <;> decide
theorem cls_two {ch : Nat} {S : List Nat} (S1 S2 : List Nat) (h : Cls ch S) (e : S.all (fun c => S1.contains c || S2.contains c) = true) : Cls ch S1 ∨ Cls ch S2 := by
  have := List.all_eq_true.mp e ch h
  rcases Bool.or_eq_true_iff.mp this with h1 | h1
  · exact .inl (List.contains_iff_mem.mp h1)
  · exact .inr (List.contains_iff_mem.mp h1)
theorem cls_one {ch c : Nat} (h : Cls ch [c]) : ch = c := List.mem_singleton.mp h
theorem okSt_two {c : LS} (h : okSt c) : (c.st = none ∧ c.tok = [] ∧ c.q = false) ∨ ∃ sc, c.st = some sc ∧ Cls sc [32, 97, 39, 34, 92] ∧ Stop (sc = 32 → c.tok = [] ∧ c.q = false) ∧ Stop (sc = 92 → c.es = 97 ∨ c.es = 34) := by
  rcases h with h | ⟨h, h2⟩ | h | h | h | ⟨h, h2⟩
  · exact .inl h
  · exact .inr ⟨32, h, (by unfold Cls; decide), (fun _ => h2), (fun e => absurd e (by decide))⟩
  · exact .inr ⟨97, h, (by unfold Cls; decide), (fun e => absurd e (by decide)), (fun e => absurd e (by decide))⟩
  · exact .inr ⟨39, h, (by unfold Cls; decide), (fun e => absurd e (by decide)), (fun e => absurd e (by decide))⟩
  · exact .inr ⟨34, h, (by unfold Cls; decide), (fun e => absurd e (by decide)), (fun e => absurd e (by decide))⟩
  · exact .inr ⟨92, h, (by unfold Cls; decide), (fun e => absurd e (by decide)), (fun _ => h2)⟩
theorem r_sp0 {ch es : Nat} {q : Bool} (hcl : Cls ch [32, 10]) : ∀ r, rd 32 es q [] (ch :: r) = rd 32 es q [] r := by
  intro r
  simp only [Cls, List.mem_cons, List.not_mem_nil, or_false] at hcl; rcases hcl with rfl | rfl <;> simp [rd, wsp]
theorem r_sp2 {ch es : Nat} {q : Bool} (hcl : Cls ch [39, 34]) : ∀ r, rd 32 es q [] (ch :: r) = rd ch es q [] r := by
  intro r
  simp only [Cls, List.mem_cons, List.not_mem_nil, or_false] at hcl; rcases hcl with rfl | rfl <;> simp [rd, wsp]
theorem r_sp3 {ch es : Nat} {q : Bool} (hcl : Cls ch [92]) : ∀ r, rd 32 es q [] (ch :: r) = rd ch 97 q [] r := by
  intro r
  simp only [Cls, List.mem_cons, List.not_mem_nil, or_false] at hcl; subst hcl; simp [rd, wsp]
theorem r_sp4 {ch es : Nat} {q : Bool} (hcl : Cls ch [97, 98]) : ∀ r, rd 32 es q [] (ch :: r) = rd 97 es q [ch] r := by
  intro r
  simp only [Cls, List.mem_cons, List.not_mem_nil, or_false] at hcl; rcases hcl with rfl | rfl <;> simp [rd, wsp]
theorem r_sp5 {ch es : Nat} {q : Bool} (hcl : Cls ch [35]) : ∀ r, rd 32 es q [] (ch :: r) = rd 97 es q [ch] r := by
  intro r
  simp only [Cls, List.mem_cons, List.not_mem_nil, or_false] at hcl; subst hcl; simp [rd, wsp]
theorem r_aw0 {ch es : Nat} {q : Bool} {tok : List Nat} (ht : tok = []) (hq : q = false) (hcl : Cls ch [32, 10]) : ∀ r, rd 97 es q tok (ch :: r) = rd 32 es q tok r := by
  intro r
  simp only [Cls, List.mem_cons, List.not_mem_nil, or_false] at hcl; rcases hcl with rfl | rfl <;> simp [rd, wsp, ht, hq]
theorem w_c0 {ch : Nat} (hcl : Cls ch [32, 10]) : wsp ch = true := by
  simp only [Cls, List.mem_cons, List.not_mem_nil, or_false] at hcl; rcases hcl with rfl | rfl <;> rfl
theorem r_a6 {ch es : Nat} {q : Bool} {tok : List Nat} (hcl : Cls ch [39, 34]) : ∀ r, rd 97 es q tok (ch :: r) = rd ch es q tok r := by
  intro r
  simp only [Cls, List.mem_cons, List.not_mem_nil, or_false] at hcl; rcases hcl with rfl | rfl <;> simp [rd, wsp]
theorem r_a7 {ch es : Nat} {q : Bool} {tok : List Nat} (hcl : Cls ch [92]) : ∀ r, rd 97 es q tok (ch :: r) = rd ch 97 q tok r := by
  intro r
  simp only [Cls, List.mem_cons, List.not_mem_nil, or_false] at hcl; subst hcl; simp [rd, wsp]
theorem r_a8 {ch es : Nat} {q : Bool} {tok : List Nat} (hcl : Cls ch [97, 98]) : ∀ r, rd 97 es q tok (ch :: r) = rd 97 es q (tok ++ [ch]) r := by
  intro r
  simp only [Cls, List.mem_cons, List.not_mem_nil, or_false] at hcl; rcases hcl with rfl | rfl <;> simp [rd, wsp]
theorem r_a9 {ch es : Nat} {q : Bool} {tok : List Nat} (hcl : Cls ch [35]) : ∀ r, rd 97 es q tok (ch :: r) = rd 97 es q (tok ++ [ch]) r := by
  intro r
  simp only [Cls, List.mem_cons, List.not_mem_nil, or_false] at hcl; subst hcl; simp [rd, wsp]
theorem r_q390 {ch es : Nat} {q : Bool} {tok : List Nat} (hcl : Cls ch [39]) : ∀ r, rd 39 es q tok (ch :: r) = rd 97 es true tok r := by
  intro r
  simp only [Cls, List.mem_cons, List.not_mem_nil, or_false] at hcl; subst hcl; simp [rd, wsp]
theorem r_q393 {ch es : Nat} {q : Bool} {tok : List Nat} (hcl : Cls ch [97, 32, 10, 34, 98, 35]) : ∀ r, rd 39 es q tok (ch :: r) = rd 39 es true (tok ++ [ch]) r := by
  intro r
  simp only [Cls, List.mem_cons, List.not_mem_nil, or_false] at hcl; rcases hcl with rfl | rfl | rfl | rfl | rfl | rfl <;> simp [rd, wsp]
theorem r_q340 {ch es : Nat} {q : Bool} {tok : List Nat} (hcl : Cls ch [34]) : ∀ r, rd 34 es q tok (ch :: r) = rd 97 es true tok r := by
  intro r
  simp only [Cls, List.mem_cons, List.not_mem_nil, or_false] at hcl; subst hcl; simp [rd, wsp]
theorem r_q343 {ch es : Nat} {q : Bool} {tok : List Nat} (hcl : Cls ch [97, 32, 10, 39, 98, 35]) : ∀ r, rd 34 es q tok (ch :: r) = rd 34 es true (tok ++ [ch]) r := by
  intro r
  simp only [Cls, List.mem_cons, List.not_mem_nil, or_false] at hcl; rcases hcl with rfl | rfl | rfl | rfl | rfl | rfl <;> simp [rd, wsp]
theorem r_q392 {ch es : Nat} {q : Bool} {tok : List Nat} (hcl : Cls ch [92]) : ∀ r, rd 39 es q tok (ch :: r) = rd 39 es true (tok ++ [ch]) r := by
  intro r
  simp only [Cls, List.mem_cons, List.not_mem_nil, or_false] at hcl; subst hcl; simp [rd, wsp]
theorem r_q342 {ch es : Nat} {q : Bool} {tok : List Nat} (hcl : Cls ch [92]) : ∀ r, rd 34 es q tok (ch :: r) = rd ch 34 true tok r := by
  intro r
  simp only [Cls, List.mem_cons, List.not_mem_nil, or_false] at hcl; subst hcl; simp [rd, wsp]
theorem r_b0 {ch : Nat} {q : Bool} {tok : List Nat} (hcl : Cls ch [97, 32, 10, 39, 34, 92, 98, 35]) : ∀ r, rd 92 97 q tok (ch :: r) = rd 97 97 q (tok ++ [ch]) r := by
  intro r
  simp only [Cls, List.mem_cons, List.not_mem_nil, or_false] at hcl; rcases hcl with rfl | rfl | rfl | rfl | rfl | rfl | rfl | rfl <;> simp [rd, wsp]
theorem r_b2 {ch : Nat} {q : Bool} {tok : List Nat} (hcl : Cls ch [92]) : ∀ r, rd 92 34 q tok (ch :: r) = rd 34 34 q (tok ++ [ch]) r := by
  intro r
  simp only [Cls, List.mem_cons, List.not_mem_nil, or_false] at hcl; subst hcl; simp [rd, wsp]
theorem r_b3 {ch : Nat} {q : Bool} {tok : List Nat} (hcl : Cls ch [34]) : ∀ r, rd 92 34 q tok (ch :: r) = rd 34 34 q (tok ++ [ch]) r := by
  intro r
  simp only [Cls, List.mem_cons, List.not_mem_nil, or_false] at hcl; subst hcl; simp [rd, wsp]
theorem r_b5 {sc ch : Nat} {q : Bool} {tok : List Nat} (hs : Cls sc [92]) (hcl : Cls ch [97, 32, 10, 39, 98, 35]) : ∀ r, rd 92 34 q tok (ch :: r) = rd 34 34 q (tok ++ [sc] ++ [ch]) r := by
  intro r
  have e := cls_one hs
  subst e
  simp only [Cls, List.mem_cons, List.not_mem_nil, or_false] at hcl; rcases hcl with rfl | rfl | rfl | rfl | rfl | rfl <;> simp [rd, wsp]
theorem ok_q {ch k : Nat} {us ue ut ul up : Tok} {es : Nat} {q : Bool} {tok : List Nat} {ln : Int} (h : Cls ch [39, 34]) : okSt ⟨k, some ch, us, es, ue, q, tok, ut, ln, ul, up⟩ := by
  rcases List.mem_cons.mp h with rfl | h
  · exact .inr (.inr (.inr (.inl rfl)))
  · rcases List.mem_cons.mp h with rfl | h
    · exact .inr (.inr (.inr (.inr (.inl rfl))))
    · cases h
theorem ok_b {ch k : Nat} {us ue ut ul up : Tok} {es : Nat} {q : Bool} {tok : List Nat} {ln : Int} (h : Cls ch [92]) (e : es = 97 ∨ es = 34) : okSt ⟨k, some ch, us, es, ue, q, tok, ut, ln, ul, up⟩ :=
  .inr (.inr (.inr (.inr (.inr ⟨congrArg some (cls_one h), e⟩))))
theorem cl_R {sc n es : Nat} {q : Bool} {tok r : List Nat} {R : RT} (hs : Cls sc [n]) (h : rdS (some sc) es q tok r = R) : rdS (some n) es q tok r = R := by
  rw [← cls_one hs]; exact h
theorem cl_RT {st : Option Nat} {es : Nat} {q : Bool} {tok r : List Nat} {R : RT} (e : tok = []) (h : rdS st es q tok r = R) : rdS st es q [] r = R := e ▸ h
theorem cl_RE {st : Option Nat} {es n : Nat} {q : Bool} {tok r : List Nat} {R : RT} (e : es = n) (h : rdS st es q tok r = R) : rdS st n q tok r = R := e ▸ h
theorem st_lit {sc n : Nat} (hs : Cls sc [n]) : (⟨#[sc]⟩ : Str) = stS n := by
  rw [← cls_one hs, stS_eq]
theorem e_q {es k : Nat} {q : Bool} {tok : List Nat} {l : List Nat} {R : RT} {n : Nat} (hn : l[k]? = none) (hk : k ≤ l.length) (h : Cls n [39, 34]) (hR : rdS (some n) es q tok (l.drop k) = R) : R = .err "No closing quotation" := by
  rw [← hR, (drop_end hn hk).1]
  rcases List.mem_cons.mp h with rfl | h
  · rfl
  · rcases List.mem_cons.mp h with rfl | h
    · rfl
    · cases h
theorem e_b {es k : Nat} {q : Bool} {tok : List Nat} {l : List Nat} {R : RT} (hn : l[k]? = none) (hk : k ≤ l.length) (hR : rdS (some 92) es q tok (l.drop k) = R) : R = .err "No escaped character" := by
  rw [← hR, (drop_end hn hk).1]
  rfl
theorem cl_RQ {st : Option Nat} {es : Nat} {q : Bool} {tok r : List Nat} {R : RT} (e : q = false) (h : rdS st es q tok r = R) : rdS st es false tok r = R := e ▸ h
theorem len_0 {tok : List Nat} {k : Nat} (h : tok.length ≤ 2 * k) : tok.length ≤ 2 * (k + 1) := by omega
theorem len_1 {tok : List Nat} {k ch : Nat} (h : tok.length ≤ 2 * k) : (tok ++ [ch]).length ≤ 2 * (k + 1) := by
  rw [List.length_append]; simp only [List.length_cons, List.length_nil]; omega
theorem len_2 {tok : List Nat} {k ch c : Nat} (h : tok.length ≤ 2 * k) : (tok ++ [c] ++ [ch]).length ≤ 2 * (k + 1) := by
  simp only [List.length_append, List.length_cons, List.length_nil]; omega
theorem len_s {k ch : Nat} : [ch].length ≤ 2 * (k + 1) := by
  show 1 ≤ _; omega
theorem fr_out {g h : Heap} {L : Addr} {m₀ u m₁ : Str → Option Value} {c : LS} (c' : LS) (F : Fr g L h m₁) (h1 : m₁ (Str.ofString "quoted") = some (.bool c'.q)) (h2 : m₁ (Str.ofString "escapedstate") = some (.str (stS c'.es) c'.ue))
    (h3 : ∀ z, z ≠ Str.ofString "quoted" → z ≠ Str.ofString "escapedstate" → z ≠ Str.ofString "nextchar" → m₁ z = frRT m₀ u c z) : Fr g L h (frRT m₀ m₁ c') :=
  frTo c' F h1 h2 fun z a b d => (h3 z a b d).trans (frRT_out a b d)
local macro_rules | `(tactic| walk_at "compareOp Eq str str") => `(tactic| ((with_reducible show wpAny _ _ (compareOp CmpOp.Eq (Value.str (Str.mk #[_]) _) (Value.str (Str.mk #[_]) _)) _ _ _); first | (with_reducible refine' eq_cc true ?hc ?hs ?h ?_; (case hc => with_reducible assumption); (case hs => with_reducible assumption); (case h => k_dflt decide +kernel)) | (with_reducible refine' eq_cc false ?hc ?hs ?h ?_; (case hc => with_reducible assumption); (case hs => with_reducible assumption); (case h => k_dflt decide +kernel)) | (refine stop_of ?_)))
local macro_rules | `(tactic| walk_at "compareOp NotEq str str") => `(tactic| ((with_reducible show wpAny _ _ (compareOp CmpOp.NotEq (Value.str (Str.mk #[_]) _) (Value.str (Str.mk #[_]) _)) _ _ _); first | (with_reducible refine' ne_cc true ?hc ?hs ?h ?_; (case hc => with_reducible assumption); (case hs => with_reducible assumption); (case h => k_dflt decide +kernel)) | (with_reducible refine' ne_cc false ?hc ?hs ?h ?_; (case hc => with_reducible assumption); (case hs => with_reducible assumption); (case h => k_dflt decide +kernel)) | (refine stop_of ?_)))
noncomputable def JoinP (g : Heap) (L : Addr) (s : Shared) (m : Str → Option Value) (Led : Int → Tok → List (Addr × Obj)) (f : Flow) (s₂ : Shared) : Prop :=
  f = .next ∧ ∃ ln ul h tk, s₂ = { s with heap := h, toks := tk } ∧ Fr g L h m ∧ News g L h (Led ln ul)
theorem if_join {M : Model} {A : Around} {E : Value → Shared → Prop} {Q : Flow → Shared → Prop} {s : Shared} {t : Sem Flow} {g : Heap} {L : Addr} {m : Str → Option Value} (Led : Int → Tok → List (Addr × Obj)) (F : Fr g L s.heap m) (h1 : wpAny M A t (JoinP g L s m Led) E s)
    (h2 : ∀ ln ul h tk, Fr g L h m → News g L h (Led ln ul) → Q .next { s with heap := h, toks := tk }) : wpAny M A t Q E s :=
  wpAny_mono h1 (fun f s₂ q => by obtain ⟨rfl, ln, ul, h, tk, rfl, F', N'⟩ := q; exact h2 ln ul h tk F' N') (fun _ _ x => x)
theorem rt_c {w : World} {mean : ExcName → Option Value} {mg mb : Str → Option Value} {gd : Option (List Code)} {cn : Str} {nm : List (Str × NameKind)} {gn co : Bool} {mo : List (Str × Const)} {a : Addr} {ccd : Value} {cl : List (Str × Addr)} {outer : List Env} {A₀ : Around} {base h₀ : Heap} {L : Addr} {m : Str → Option Value} {s : Shared} {Q E : Value → Shared → Prop}
   {l : List Nat} {k : Nat} {lx ld io d pb fs : Addr} {T' : LT} {ul ut us : Tok} {st : Option Nat} {t1 u1 t2 u2 t3 u3 : Tok} {ln : Int} {rest : List (Addr × Obj)}
   (B : Below A₀ base outer h₀) (F : Fr h₀ L s.heap m) (X : (Mine.hd.heap_1 w.params).In h₀) (N : News h₀ L s.heap ((lx, instObj 722 ld) :: (ld, lexD w T' io pb fs "" true (stV st us) ln ul ⟨#[]⟩ ut) :: (io, instObj 587 d) :: (d, ioD w t1 u1 t2 u2 t3 u3 ⟨l.toArray⟩ k) :: (pb, dqObj) :: (fs, dqObj) :: rest)) (T : Top vq (looseW vq vl) mean mg mb h₀)
   (hx : l.length ≤ 400) (hal : ∀ c ∈ l, alph c) (hp2 : k ≤ l.length) (hst : st = some 32 ∨ st = none ∧ k = l.length) (n1 : @Ne Nat lx ld) (n2 : @Ne Nat lx d) (n3 : @Ne Nat ld d) (n4 : @Ne Nat io d) (n5 : @Ne Nat io ld) (n6 : @Ne Nat pb d) (n7 : @Ne Nat pb ld) (n8 : @Ne Nat fs d) (n9 : @Ne Nat fs ld) (hr : ∀ q ∈ rest, q.1 ≠ d) (hr2 : ∀ q ∈ rest, q.1 ≠ ld)
   (r0 : rdS st 32 false [] (l.drop k) = .eof → ∀ h' tk us ue ut ln ul up, Fr h₀ L h' m → News h₀ L h' (ledRT w T' l lx ld io d pb fs t1 u1 t2 u2 t3 rest ⟨l.length, none, us, 32, ue, false, [], ut, ln, ul, up⟩) → Q .none { s with heap := h', toks := tk })
   (r1 : ∀ wd rs b, rdS st 32 false [] (l.drop k) = .word wd rs b → ∀ h' tk k' st' us ue ut ln ul up t', k' ≤ l.length → rs = l.drop k' → (st' = some 32 ∨ st' = none ∧ k' = l.length) → wd.length ≤ 800 → Fr h₀ L h' m → News h₀ L h' (ledRT w T' l lx ld io d pb fs t1 u1 t2 u2 t3 rest ⟨k', st', us, 32, ue, false, [], ut, ln, ul, up⟩) → Q (.str ⟨wd.toArray⟩ t') { s with heap := h', toks := tk })
   (rE : ∀ msg, rdS st 32 false [] (l.drop k) = .err msg → ∀ e t' h' g' tk u c, Fr h₀ L g' m → g'.UpToSlots h' → RaisedS base g' (envX cn ⟨.function, nm, gn, co, mo⟩ L a ccd cl :: outer) e (.type "ValueError") t' [.str (Str.ofString msg) u] (ledRT w T' l lx ld io d pb fs t1 u1 t2 u2 t3 rest c) h' → E (.ref e) { s with heap := h', toks := tk }) :
   wpAny (model pr w) (ktrTop 560 3600 gd cn ⟨.function, nm, gn, co, mo⟩ L a ccd cl outer) (call (.ref 690) [.ref lx]) Q E s := by
  w_on
  have hfill : PySem.Challenge.rw_nq0227_01 = PySem.Challenge.rw_nq0227_01 ∧ Mine.hd.heap_1 = Mine.hd.heap_1 := by
    k_fill
    exact ⟨rfl, rfl⟩
  clear hfill
  refine wpAny_call ?_
  k_dflt k_enter
  have kdT : KtsDicts [] h₀ := ktsDicts_nil
  k_steps
  rename Fr _ _ _ _ => F1
  have F2 := fr_rt F1
  clear F1
  rename News _ _ _ _ => N1
  refine while_rt (Led := ledRT w T' l lx ld io d pb fs t1 u1 t2 u2 t3 rest) (l := l) (R := rdS st 32 false [] (l.drop k)) ⟨k, st, us, 32, ?ue, false, [], ut, ln, ul, u3⟩ F2 N1 ?hk ?hp ?turn ?after
  case hk =>
    intro p hp
    rcases List.mem_cons.mp hp with rfl | hp
    · rfl
    · rcases List.mem_cons.mp hp with rfl | hp
      · rfl
      · cases hp
  case hp =>
    refine ⟨hp2, ?_, Nat.zero_le _, rfl, ?_⟩
    · rcases hst with rfl | ⟨rfl, _⟩
      · exact .inr (.inl ⟨rfl, rfl, rfl⟩)
      · exact .inl ⟨rfl, rfl, rfl⟩
    · rcases hst with rfl | ⟨rfl, h⟩
      · intro h; cases h
      · intro _; exact h
  case after =>
    intro s₂ hx9
    clear N1 F2 N
    obtain ⟨c, h9, tk9, u9, rfl, F9, N9, hO⟩ := hx9
    obtain ⟨kc, stc, usc, esc, uec, qc, tokc, utc, lnc, ulc, upc⟩ := c
    dsimp only [ledRT] at N9
    dsimp only [OutRT] at hO
    obtain ⟨o1, o2, o3, o4⟩ := hO
    have hx7 : tokc.length ≤ 800 := by omega
    k_steps
    · have hq : qc = true := by assumption
      rename News h₀ _ _ _ => nn
      rcases o4 with ⟨z1, z2, z3, z4⟩ | ⟨z1, z2⟩
      · rw [hq] at z3; cases z3
      · exact r1 _ _ _ z1 _ _ kc stc _ 0 _ _ _ _ _ o1 rfl o2 hx7 (by k_asm) nn
    · have hq : qc = false := by assumption
      rename (_ == Str.ofString "") = true => hz
      have ht : tokc = [] := tok_emp hz
      rename News h₀ _ _ _ => nn
      rcases o4 with ⟨z1, z2, z3, z4⟩ | ⟨z1, z2⟩
      · obtain rfl : kc = l.length := by
          rcases o2 with h | h
          · rw [z4] at h; cases h
          · exact h.2
        rw [z4] at nn
        exact r0 z1 _ _ usc 0 _ _ _ _ (by k_asm) nn
      · exact absurd ⟨ht, hq⟩ z2
    · rename (_ == Str.ofString "") = false => hz
      rename News h₀ _ _ _ => nn
      rcases o4 with ⟨z1, z2, z3, z4⟩ | ⟨z1, z2⟩
      · rw [z2] at hz; exact absurd hz (by decide +kernel)
      · exact r1 _ _ _ z1 _ _ kc stc _ 0 _ _ _ _ _ o1 rfl o2 hx7 (by k_asm) nn
  case turn =>
    intro c u h tk hP F3 N3
    clear N1 F2 N
    obtain ⟨kc, stc, usc, esc, uec, qc, tokc, utc, lnc, ulc, upc⟩ := c
    obtain ⟨hk1, hok, htl, hR, hno⟩ := hP
    dsimp only at hk1 hok htl hR hno
    have hx' : l.length ≤ 1000 := by omega
    rcases okSt_two hok with ⟨q1, q2, q3⟩ | ⟨sc, q1, hs, q2, q3⟩ <;> dsimp only at q1 q2 q3
    · skip
      subst q1
      subst q2 q3
      dsimp only [ledRT, stV] at N3
      k_steps
      all_goals (first | (unfold Stop; intro ch hc h5 tk5 t5 u5 F5 N5; exfalso; have z1 := (drop_at hc).2; have z2 := hno rfl; omega) | (unfold Stop; refine wpAny_If ?_; k_steps))
      show TurnRT _ _ _ _ _ _ _ _ _ _
      rename News _ _ _ _ => nn
      exact turn_brk ⟨kc, none, 0, esc, uec, false, [], _, _, _, _⟩ (frTo _ (by k_asm) rfl rfl (by intro z a b d; simp only [a, b, d, if_false]; first | exact frRT_out a b d | exact nc_out d)) nn (out_none _ (hno rfl) hR rfl rfl rfl rfl)
    · skip
      subst q1
      dsimp only [ledRT, stV] at N3
      rw [stS_eq sc] at N3
      k_steps
      all_goals (first
        | (unfold Stop; intro ch hc h5 tk5 t5 u5 F5 N5; (try k_sweep); have hcl := alph_all4 (hal _ (List.mem_of_getElem? hc)); k_steps)
        | (unfold Stop; refine wpAny_If ?_; k_steps))
      · skip
        unfold Stop
        rename Fr _ _ _ _ => ff
        refine if_join (fun ln ul => (lx, instObj 722 ld) :: (ld, lexD w T' io pb fs "" true (Value.str ⟨#[sc]⟩ usc) ln ul ⟨tokc.toArray⟩ utc) :: (io, instObj 587 d) :: (d, ioD w t1 u1 t2 u2 t3 u5 ⟨l.toArray⟩ ((kc + 1 : Nat) : Int)) :: (pb, dqObj) :: (fs, dqObj) :: rest) ff ?_ ?_
        · skip
          refine wpAny_If ?_
          rcases cls_two [10] [97, 32, 39, 34, 92, 98, 35] hcl rfl with h9 | h9 <;> clear hcl <;> rename Cls ch _ => hcl <;> k_steps
          all_goals (rename News _ _ _ _ => nn; exact ⟨rfl, _, _, _, _, rfl, by k_asm, nn⟩)
        · skip
          intro ln2 ul2 h6 tk6 F6 N6
          clear ff
          (try k_sweep)
          k_steps
          unfold Stop
          rcases cls_two [32] [97, 39, 34, 92] hs rfl with h9 | h9 <;> clear hs <;> rename Cls sc _ => hs
          · skip
            obtain ⟨q21, q22⟩ := q2 (cls_one hs)
            rename News _ _ _ _ => nn
            rw [q21] at nn
            replace hR := cl_RT q21 (cl_R hs hR)
            k_steps
            unfold Stop
            rcases cls_two [32, 10] [97, 39, 34, 92, 98, 35] hcl rfl with h9 | h9 <;> clear hcl <;> rename Cls ch _ => hcl
            · skip
              k_steps
              show TurnRT _ _ _ _ _ _ _ _ _ _
              rename News _ _ _ _ => nn
              rw [st_lit hs] at nn
              exact turn_cont ⟨kc + 1, some 32, _, esc, uec, qc, [], _, _, _, _⟩ (frTo _ (by k_asm) rfl rfl (by intro z a b d; simp only [a, b, d, if_false]; first | exact frRT_out a b d | exact nc_out d)) nn (inv_step _ 32 hc hR rfl rfl (r_sp0 hcl) (.inr (.inl ⟨rfl, rfl, q22⟩)) (Nat.zero_le _)) rfl
            · skip
              k_steps
              unfold Stop
              rcases cls_two [92] [97, 39, 34, 98, 35] hcl rfl with h9 | h9 <;> clear hcl <;> rename Cls ch _ => hcl
              · skip
                k_steps
                show TurnRT _ _ _ _ _ _ _ _ _ _
                rename News _ _ _ _ => nn
                rw [← stS_eq ch] at nn
                exact turn_next ⟨kc + 1, some ch, _, 97, _, qc, [], _, _, _, _⟩ (frTo _ (by k_asm) rfl rfl (by intro z a b d; simp only [a, b, d, if_false]; first | exact frRT_out a b d | exact nc_out d)) nn (inv_step _ ch hc hR rfl rfl (r_sp3 hcl) (ok_b hcl (.inl rfl)) (Nat.zero_le _)) rfl
              · skip
                k_steps
                unfold Stop
                rcases cls_two [97, 98] [39, 34, 35] hcl rfl with h9 | h9 <;> clear hcl <;> rename Cls ch _ => hcl
                · skip
                  k_steps
                  show TurnRT _ _ _ _ _ _ _ _ _ _
                  rename News _ _ _ _ => nn
                  exact turn_next ⟨kc + 1, some 97, _, esc, uec, qc, [ch], _, _, _, _⟩ (frTo _ (by k_asm) rfl rfl (by intro z a b d; simp only [a, b, d, if_false]; first | exact frRT_out a b d | exact nc_out d)) nn (inv_step _ 97 hc hR rfl rfl (r_sp4 hcl) (.inr (.inr (.inl rfl))) len_s) rfl
                · skip
                  k_steps
                  unfold Stop
                  rcases cls_two [39, 34] [35] hcl rfl with h9 | h9 <;> clear hcl <;> rename Cls ch _ => hcl
                  · skip
                    k_steps
                    show TurnRT _ _ _ _ _ _ _ _ _ _
                    rename News _ _ _ _ => nn
                    rw [← stS_eq ch] at nn
                    exact turn_next ⟨kc + 1, some ch, _, esc, uec, qc, [], _, _, _, _⟩ (frTo _ (by k_asm) rfl rfl (by intro z a b d; simp only [a, b, d, if_false]; first | exact frRT_out a b d | exact nc_out d)) nn (inv_step _ ch hc hR rfl rfl (r_sp2 hcl) (ok_q hcl) (Nat.zero_le _)) rfl
                  · skip
                    k_steps
                    show TurnRT _ _ _ _ _ _ _ _ _ _
                    rename News _ _ _ _ => nn
                    exact turn_next ⟨kc + 1, some 97, _, esc, uec, qc, [ch], _, _, _, _⟩ (frTo _ (by k_asm) rfl rfl (by intro z a b d; simp only [a, b, d, if_false]; first | exact frRT_out a b d | exact nc_out d)) nn (inv_step _ 97 hc hR rfl rfl (r_sp5 hcl) (.inr (.inr (.inl rfl))) len_s) rfl
          · skip
            k_steps
            unfold Stop
            rcases cls_two [39, 34] [97, 92] hs rfl with h9 | h9 <;> clear hs <;> rename Cls sc _ => hs
            · skip
              rcases cls_two [39] [34] hs rfl with h9 | h9 <;> clear hs <;> rename Cls sc _ => hs
              · skip
                replace hR := cl_R hs hR
                k_steps
                unfold Stop
                rcases cls_two [39] [97, 32, 10, 34, 92, 98, 35] hcl rfl with h9 | h9 <;> clear hcl <;> rename Cls ch _ => hcl
                · skip
                  k_steps
                  show TurnRT _ _ _ _ _ _ _ _ _ _
                  rename News _ _ _ _ => nn
                  exact turn_next ⟨kc + 1, some 97, _, esc, uec, true, tokc, _, _, _, _⟩ (frTo _ (by k_asm) rfl rfl (by intro z a b d; simp only [a, b, d, if_false]; first | exact frRT_out a b d | exact nc_out d)) nn (inv_step _ 97 hc hR rfl rfl (r_q390 hcl) (.inr (.inr (.inl rfl))) (len_0 htl)) rfl
                · skip
                  k_steps
                  unfold Stop
                  rcases cls_two [92] [97, 32, 10, 34, 98, 35] hcl rfl with h9 | h9 <;> clear hcl <;> rename Cls ch _ => hcl
                  · skip
                    k_steps
                    show TurnRT _ _ _ _ _ _ _ _ _ _
                    rename News _ _ _ _ => nn
                    rw [st_lit hs, tok_one] at nn
                    exact turn_next ⟨kc + 1, some 39, _, esc, uec, true, tokc ++ [ch], _, _, _, _⟩ (frTo _ (by k_asm) rfl rfl (by intro z a b d; simp only [a, b, d, if_false]; first | exact frRT_out a b d | exact nc_out d)) nn (inv_step _ 39 hc hR rfl rfl (r_q392 hcl) (.inr (.inr (.inr (.inl rfl)))) (len_1 htl)) rfl
                  · skip
                    k_steps
                    show TurnRT _ _ _ _ _ _ _ _ _ _
                    rename News _ _ _ _ => nn
                    rw [st_lit hs, tok_one] at nn
                    exact turn_next ⟨kc + 1, some 39, _, esc, uec, true, tokc ++ [ch], _, _, _, _⟩ (frTo _ (by k_asm) rfl rfl (by intro z a b d; simp only [a, b, d, if_false]; first | exact frRT_out a b d | exact nc_out d)) nn (inv_step _ 39 hc hR rfl rfl (r_q393 hcl) (.inr (.inr (.inr (.inl rfl)))) (len_1 htl)) rfl
              · skip
                replace hR := cl_R hs hR
                k_steps
                unfold Stop
                rcases cls_two [34] [97, 32, 10, 39, 92, 98, 35] hcl rfl with h9 | h9 <;> clear hcl <;> rename Cls ch _ => hcl
                · skip
                  k_steps
                  show TurnRT _ _ _ _ _ _ _ _ _ _
                  rename News _ _ _ _ => nn
                  exact turn_next ⟨kc + 1, some 97, _, esc, uec, true, tokc, _, _, _, _⟩ (frTo _ (by k_asm) rfl rfl (by intro z a b d; simp only [a, b, d, if_false]; first | exact frRT_out a b d | exact nc_out d)) nn (inv_step _ 97 hc hR rfl rfl (r_q340 hcl) (.inr (.inr (.inl rfl))) (len_0 htl)) rfl
                · skip
                  k_steps
                  unfold Stop
                  rcases cls_two [92] [97, 32, 10, 39, 98, 35] hcl rfl with h9 | h9 <;> clear hcl <;> rename Cls ch _ => hcl
                  · skip
                    k_steps
                    show TurnRT _ _ _ _ _ _ _ _ _ _
                    rename News _ _ _ _ => nn
                    rw [← stS_eq ch] at nn
                    rename Fr _ _ _ _ => ff
                    rw [st_lit hs] at ff
                    exact turn_next ⟨kc + 1, some ch, _, 34, _, true, tokc, _, _, _, _⟩ (frTo _ (by k_asm) rfl rfl (by intro z a b d; simp only [a, b, d, if_false]; first | exact frRT_out a b d | exact nc_out d)) nn (inv_step _ ch hc hR rfl rfl (r_q342 hcl) (ok_b hcl (.inr rfl)) (len_0 htl)) rfl
                  · skip
                    k_steps
                    show TurnRT _ _ _ _ _ _ _ _ _ _
                    rename News _ _ _ _ => nn
                    rw [st_lit hs, tok_one] at nn
                    exact turn_next ⟨kc + 1, some 34, _, esc, uec, true, tokc ++ [ch], _, _, _, _⟩ (frTo _ (by k_asm) rfl rfl (by intro z a b d; simp only [a, b, d, if_false]; first | exact frRT_out a b d | exact nc_out d)) nn (inv_step _ 34 hc hR rfl rfl (r_q343 hcl) (.inr (.inr (.inr (.inr (.inl rfl))))) (len_1 htl)) rfl
            · skip
              k_steps
              unfold Stop
              rcases cls_two [92] [97] hs rfl with h9 | h9 <;> clear hs <;> rename Cls sc _ => hs
              · skip
                replace hR := cl_R hs hR
                rename Fr _ _ _ _ => ff
                dsimp only [frRT, psRT, kstB] at ff
                rcases q3 (cls_one hs) with q4 | q4 <;> rw [q4] at ff <;> replace hR := cl_RE q4 hR
                · skip
                  k_steps
                  show TurnRT _ _ _ _ _ _ _ _ _ _
                  rename News _ _ _ _ => nn
                  rw [tok_one] at nn
                  exact turn_next ⟨kc + 1, some 97, _, 97, uec, qc, tokc ++ [ch], _, _, _, _⟩ (frTo _ (by k_asm) rfl rfl (by intro z a b d; simp only [a, b, d, if_false]; first | exact frRT_out a b d | exact nc_out d)) nn (inv_step _ 97 hc hR rfl rfl (r_b0 hcl) (.inr (.inr (.inl rfl))) (len_1 htl)) rfl
                · skip
                  k_steps
                  unfold Stop
                  rcases cls_two [92] [97, 32, 10, 39, 34, 98, 35] hcl rfl with h9 | h9 <;> clear hcl <;> rename Cls ch _ => hcl
                  · skip
                    k_steps
                    show TurnRT _ _ _ _ _ _ _ _ _ _
                    rename News _ _ _ _ => nn
                    rw [tok_one] at nn
                    exact turn_next ⟨kc + 1, some 34, _, 34, uec, qc, tokc ++ [ch], _, _, _, _⟩ (frTo _ (by k_asm) rfl rfl (by intro z a b d; simp only [a, b, d, if_false]; first | exact frRT_out a b d | exact nc_out d)) nn (inv_step _ 34 hc hR rfl rfl (r_b2 hcl) (.inr (.inr (.inr (.inr (.inl rfl))))) (len_1 htl)) rfl
                  · skip
                    k_steps
                    unfold Stop
                    rcases cls_two [34] [97, 32, 10, 39, 98, 35] hcl rfl with h9 | h9 <;> clear hcl <;> rename Cls ch _ => hcl
                    · skip
                      k_steps
                      show TurnRT _ _ _ _ _ _ _ _ _ _
                      rename News _ _ _ _ => nn
                      rw [tok_one] at nn
                      exact turn_next ⟨kc + 1, some 34, _, 34, uec, qc, tokc ++ [ch], _, _, _, _⟩ (frTo _ (by k_asm) rfl rfl (by intro z a b d; simp only [a, b, d, if_false]; first | exact frRT_out a b d | exact nc_out d)) nn (inv_step _ 34 hc hR rfl rfl (r_b3 hcl) (.inr (.inr (.inr (.inr (.inl rfl))))) (len_1 htl)) rfl
                    · skip
                      k_steps
                      show TurnRT _ _ _ _ _ _ _ _ _ _
                      rename News _ _ _ _ => nn
                      rw [tok_one, tok_one] at nn
                      exact turn_next ⟨kc + 1, some 34, _, 34, uec, qc, tokc ++ [sc] ++ [ch], _, _, _, _⟩ (frTo _ (by k_asm) rfl rfl (by intro z a b d; simp only [a, b, d, if_false]; first | exact frRT_out a b d | exact nc_out d)) nn (inv_step _ 34 hc hR rfl rfl (r_b5 hs hcl) (.inr (.inr (.inr (.inr (.inl rfl))))) (len_2 htl)) rfl
              · skip
                replace hR := cl_R hs hR
                rename News _ _ _ _ => nn
                rw [st_lit hs] at nn
                rw [show stS 97 = Str.ofString "a" from rfl] at nn
                k_steps
                unfold Stop
                rcases cls_two [32, 10] [97, 39, 34, 92, 98, 35] hcl rfl with h9 | h9 <;> clear hcl <;> rename Cls ch _ => hcl
                · skip
                  k_steps
                  · skip
                    rename (_ : Int) ≠ 0 => hne
                    show TurnRT _ _ _ _ _ _ _ _ _ _
                    rename News _ _ _ _ => nn
                    exact turn_brk ⟨kc + 1, some 32, _, esc, uec, qc, tokc, _, _, _, _⟩ (frTo _ (by k_asm) rfl rfl (by intro z a b d; simp only [a, b, d, if_false]; first | exact frRT_out a b d | exact nc_out d)) (news_tl nn) (out_ws _ hc hR (w_c0 hcl) rfl rfl rfl rfl (tok_ne hne) htl)
                  · skip
                    have hq : qc = true := by assumption
                    show TurnRT _ _ _ _ _ _ _ _ _ _
                    rename News _ _ _ _ => nn
                    exact turn_brk ⟨kc + 1, some 32, _, esc, uec, qc, tokc, _, _, _, _⟩ (frTo _ (by k_asm) rfl rfl (by intro z a b d; simp only [a, b, d, if_false]; first | exact frRT_out a b d | exact nc_out d)) (news_tl nn) (out_ws _ hc hR (w_c0 hcl) rfl rfl rfl rfl (by rw [hq]; intro e; cases e.2) htl)
                  · skip
                    have hq : qc = false := by assumption
                    rename (_ : Int) = 0 => hze
                    have ht := tok_nil hze
                    show TurnRT _ _ _ _ _ _ _ _ _ _
                    rename News _ _ _ _ => nn
                    exact turn_cont ⟨kc + 1, some 32, _, esc, uec, qc, tokc, _, _, _, _⟩ (frTo _ (by k_asm) rfl rfl (by intro z a b d; simp only [a, b, d, if_false]; first | exact frRT_out a b d | exact nc_out d)) (news_tl nn) (inv_step _ 32 hc hR rfl rfl (r_aw0 ht hq hcl) (.inr (.inl ⟨rfl, ht, hq⟩)) (len_0 htl)) rfl
                · skip
                  k_steps
                  unfold Stop
                  rcases cls_two [39, 34] [97, 92, 98, 35] hcl rfl with h9 | h9 <;> clear hcl <;> rename Cls ch _ => hcl
                  · skip
                    k_steps
                    show TurnRT _ _ _ _ _ _ _ _ _ _
                    rename News _ _ _ _ => nn
                    rw [← stS_eq ch] at nn
                    exact turn_next ⟨kc + 1, some ch, _, esc, uec, qc, tokc, _, _, _, _⟩ (frTo _ (by k_asm) rfl rfl (by intro z a b d; simp only [a, b, d, if_false]; first | exact frRT_out a b d | exact nc_out d)) (news_tl nn) (inv_step _ ch hc hR rfl rfl (r_a6 hcl) (ok_q hcl) (len_0 htl)) rfl
                  · skip
                    k_steps
                    unfold Stop
                    rcases cls_two [92] [97, 98, 35] hcl rfl with h9 | h9 <;> clear hcl <;> rename Cls ch _ => hcl
                    · skip
                      k_steps
                      show TurnRT _ _ _ _ _ _ _ _ _ _
                      rename News _ _ _ _ => nn
                      rw [← stS_eq ch] at nn
                      exact turn_next ⟨kc + 1, some ch, _, 97, _, qc, tokc, _, _, _, _⟩ (frTo _ (by k_asm) rfl rfl (by intro z a b d; simp only [a, b, d, if_false]; first | exact frRT_out a b d | exact nc_out d)) (news_tl nn) (inv_step _ ch hc hR rfl rfl (r_a7 hcl) (ok_b hcl (.inl rfl)) (len_0 htl)) rfl
                    · skip
                      k_steps
                      unfold Stop
                      rcases cls_two [97, 98] [35] hcl rfl with h9 | h9 <;> clear hcl <;> rename Cls ch _ => hcl
                      · skip
                        k_steps
                        show TurnRT _ _ _ _ _ _ _ _ _ _
                        rename News _ _ _ _ => nn
                        rw [tok_one] at nn
                        exact turn_next ⟨kc + 1, some 97, _, esc, uec, qc, tokc ++ [ch], _, _, _, _⟩ (frTo _ (by k_asm) rfl rfl (by intro z a b d; simp only [a, b, d, if_false]; first | exact frRT_out a b d | exact nc_out d)) (news_tl nn) (inv_step _ 97 hc hR rfl rfl (r_a8 hcl) (.inr (.inr (.inl rfl))) (len_1 htl)) rfl
                      · skip
                        k_steps
                        show TurnRT _ _ _ _ _ _ _ _ _ _
                        rename News _ _ _ _ => nn
                        rw [tok_one] at nn
                        exact turn_next ⟨kc + 1, some 97, _, esc, uec, qc, tokc ++ [ch], _, _, _, _⟩ (frTo _ (by k_asm) rfl rfl (by intro z a b d; simp only [a, b, d, if_false]; first | exact frRT_out a b d | exact nc_out d)) (news_tl nn) (inv_step _ 97 hc hR rfl rfl (r_a9 hcl) (.inr (.inr (.inl rfl))) (len_1 htl)) rfl
      · skip
        rename _[_]? = none => hn
        unfold Stop
        rcases cls_two [32] [97, 39, 34, 92] hs rfl with h9 | h9 <;> clear hs <;> rename Cls sc _ => hs
        · skip
          obtain ⟨q21, q22⟩ := q2 (cls_one hs)
          rename News _ _ _ _ => nn
          rw [q21] at nn
          replace hR := cl_RT q21 (cl_R hs hR)
          k_steps
          show TurnRT _ _ _ _ _ _ _ _ _ _
          rename News _ _ _ _ => nn
          exact turn_brk ⟨kc, none, 0, esc, uec, qc, [], _, _, _, _⟩ (frTo _ (by k_asm) rfl rfl (by intro z a b d; simp only [a, b, d, if_false]; first | exact frRT_out a b d | exact nc_out d)) nn (out_sp _ hn hk1 (cl_RQ q22 hR) rfl rfl rfl q22)
        · skip
          k_steps
          unfold Stop
          rcases cls_two [39, 34] [97, 92] hs rfl with h9 | h9 <;> clear hs <;> rename Cls sc _ => hs
          · skip
            rcases cls_two [39] [34] hs rfl with h9 | h9 <;> clear hs <;> rename Cls sc _ => hs
            · skip
              replace hR := cl_R hs hR
              k_steps
              rename RaisedS _ _ _ _ _ _ _ _ _ => rk
              rw [st_lit hs] at rk
              rename Heap.UpToSlots _ _ => up
              exact rE "No closing quotation" (e_q hn hk1 (by unfold Cls; decide) hR) _ _ _ _ _ _ ⟨kc, some 39, usc, esc, uec, qc, tokc, utc, lnc, ulc, upc⟩ (by assumption) up rk
            · skip
              replace hR := cl_R hs hR
              k_steps
              rename RaisedS _ _ _ _ _ _ _ _ _ => rk
              rw [st_lit hs] at rk
              rename Heap.UpToSlots _ _ => up
              exact rE "No closing quotation" (e_q hn hk1 (by unfold Cls; decide) hR) _ _ _ _ _ _ ⟨kc, some 34, usc, esc, uec, qc, tokc, utc, lnc, ulc, upc⟩ (by assumption) up rk
          · skip
            k_steps
            unfold Stop
            rcases cls_two [92] [97] hs rfl with h9 | h9 <;> clear hs <;> rename Cls sc _ => hs
            · skip
              replace hR := cl_R hs hR
              rename Fr _ _ _ _ => ff
              dsimp only [frRT, psRT, kstB] at ff
              rcases q3 (cls_one hs) with q4 | q4 <;> rw [q4] at ff <;> replace hR := cl_RE q4 hR
              · skip
                k_steps
                rename RaisedS _ _ _ _ _ _ _ _ _ => rk
                rw [st_lit hs] at rk
                rename Heap.UpToSlots _ _ => up
                exact rE "No escaped character" (e_b hn hk1 hR) _ _ _ _ _ _ ⟨kc, some 92, usc, 97, uec, qc, tokc, utc, lnc, ulc, upc⟩ (by assumption) up rk
              · skip
                k_steps
                rename RaisedS _ _ _ _ _ _ _ _ _ => rk
                rw [st_lit hs] at rk
                rename Heap.UpToSlots _ _ => up
                exact rE "No escaped character" (e_b hn hk1 hR) _ _ _ _ _ _ ⟨kc, some 92, usc, 34, uec, qc, tokc, utc, lnc, ulc, upc⟩ (by assumption) up rk
            · skip
              replace hR := cl_R hs hR
              rename News _ _ _ _ => nn
              rw [st_lit hs] at nn
              rw [show stS 97 = Str.ofString "a" from rfl] at nn
              k_steps
              show TurnRT _ _ _ _ _ _ _ _ _ _
              rename News _ _ _ _ => nn
              exact turn_brk ⟨kc, none, 0, esc, uec, qc, tokc, _, _, _, _⟩ (frTo _ (by k_asm) rfl rfl (by intro z a b d; simp only [a, b, d, if_false]; first | exact frRT_out a b d | exact nc_out d)) (news_tl nn) (out_eof _ hn hk1 hR rfl rfl rfl rfl htl)
end
/- D1 -/
section
set_option maxRecDepth 100000
set_option maxHeartbeats 0
set_option rowWalk.seconds 0
local macro_rules | `(tactic| walk_at "call ref") => `(tactic| (k_here; (with_reducible show wpAny _ _ (call (Value.ref 690) _) _ _ _); k_dflt ((show wpAny _ _ (call (Value.ref 690) [Value.ref _]) _ _ _); refine' wpAny_le (rt_c ?B ?F ?X ?N ?T ?hx ?hal ?hp ?hst ?n1 ?n2 ?n3 ?n4 ?n5 ?n6 ?n7 ?n8 ?n9 ?hr ?hr2 ?_ ?_ ?_) ?h1 ?h2 ?h3 ?h4 ?h5; (case h1 => exact rfl); (case h3 => exact rfl); (case h4 => exact rfl); (case h2 => exact Nat.le_of_ble_eq_true rfl); (case h5 => exact Nat.le_of_ble_eq_true rfl); (case B => k_asm); (case F => k_asm); (case X => k_asm); (case N => k_asm); (case T => k_asm); (case hx => assumption); (case hal => assumption); (case hp => assumption); (case hst => assumption); (case n1 => assumption); (case n2 => assumption); (case n3 => assumption); (case n4 => assumption); (case n5 => assumption); (case n6 => assumption); (case n7 => assumption); (case n8 => assumption); (case n9 => assumption); (case hr => assumption); (case hr2 => assumption); all_goals (refine stop_of ?_))))
theorem gt_c {w : World} {mean : ExcName → Option Value} {mg mb : Str → Option Value} {gd : Option (List Code)} {cn : Str} {nm : List (Str × NameKind)} {gn co : Bool} {mo : List (Str × Const)} {a : Addr} {ccd : Value} {cl : List (Str × Addr)} {outer : List Env} {A₀ : Around} {base h₀ : Heap} {L : Addr} {m : Str → Option Value} {s : Shared} {Q E : Value → Shared → Prop}
   {l : List Nat} {k : Nat} {lx ld io d pb fs : Addr} {T' : LT} {ul ut us : Tok} {st : Option Nat} {t1 u1 t2 u2 t3 u3 : Tok} {ln : Int} {rest : List (Addr × Obj)}
   (B : Below A₀ base outer h₀) (F : Fr h₀ L s.heap m) (X : (Mine.hd.heap_1 w.params).In h₀) (N : News h₀ L s.heap ((lx, instObj 722 ld) :: (ld, lexD w T' io pb fs "" true (stV st us) ln ul ⟨#[]⟩ ut) :: (io, instObj 587 d) :: (d, ioD w t1 u1 t2 u2 t3 u3 ⟨l.toArray⟩ k) :: (pb, dqObj) :: (fs, dqObj) :: rest)) (T : Top vq (looseW vq vl) mean mg mb h₀)
   (hx : l.length ≤ 400) (hal : ∀ c ∈ l, alph c) (hp2 : k ≤ l.length) (hst : st = some 32 ∨ st = none ∧ k = l.length) (n1 : @Ne Nat lx ld) (n2 : @Ne Nat lx d) (n3 : @Ne Nat ld d) (n4 : @Ne Nat io d) (n5 : @Ne Nat io ld) (n6 : @Ne Nat pb d) (n7 : @Ne Nat pb ld) (n8 : @Ne Nat fs d) (n9 : @Ne Nat fs ld) (hr : ∀ q ∈ rest, q.1 ≠ d) (hr2 : ∀ q ∈ rest, q.1 ≠ ld)
   (r0 : rdS st 32 false [] (l.drop k) = .eof → ∀ h' tk us ue ut ln ul up, Fr h₀ L h' m → News h₀ L h' (ledRT w T' l lx ld io d pb fs t1 u1 t2 u2 t3 rest ⟨l.length, none, us, 32, ue, false, [], ut, ln, ul, up⟩) → Q .none { s with heap := h', toks := tk })
   (r1 : ∀ wd rs b, rdS st 32 false [] (l.drop k) = .word wd rs b → ∀ h' tk k' st' us ue ut ln ul up t', k' ≤ l.length → rs = l.drop k' → (st' = some 32 ∨ st' = none ∧ k' = l.length) → wd.length ≤ 800 → Fr h₀ L h' m → News h₀ L h' (ledRT w T' l lx ld io d pb fs t1 u1 t2 u2 t3 rest ⟨k', st', us, 32, ue, false, [], ut, ln, ul, up⟩) → Q (.str ⟨wd.toArray⟩ t') { s with heap := h', toks := tk })
   (rE : ∀ msg, rdS st 32 false [] (l.drop k) = .err msg → ∀ e t' h' g' tk u c, Fr h₀ L g' m → g'.UpToSlots h' → RaisedS base g' (envX cn ⟨.function, nm, gn, co, mo⟩ L a ccd cl :: outer) e (.type "ValueError") t' [.str (Str.ofString msg) u] (ledRT w T' l lx ld io d pb fs t1 u1 t2 u2 t3 rest c) h' → E (.ref e) { s with heap := h', toks := tk }) :
   wpAny (model pr w) (ktrTop 540 3400 gd cn ⟨.function, nm, gn, co, mo⟩ L a ccd cl outer) (call (.ref 683) [.ref lx]) Q E s := by
  w_on
  have hfill : PySem.Challenge.rw_nq0227_01 = PySem.Challenge.rw_nq0227_01 ∧ Mine.hd.heap_1 = Mine.hd.heap_1 := by
    k_fill
    exact ⟨rfl, rfl⟩
  clear hfill
  refine wpAny_call ?_
  k_dflt k_enter
  have kdT : KtsDicts [] h₀ := ktsDicts_nil
  k_steps
  · unfold Stop
    intro hR h5 tk5 us5 ue5 ut5 ln5 ul5 up5 F5 N5
    dsimp only [ledRT, stV] at N5
    (try k_sweep)
    k_steps
    rename News h₀ _ _ _ => nn
    exact r0 hR _ _ us5 ue5 _ _ _ _ (by k_asm) nn
  · unfold Stop
    intro wd rs b hR h5 tk5 k5 st5 us5 ue5 ut5 ln5 ul5 up5 t5 q1 q2 q3 q4 F5 N5
    dsimp only [ledRT] at N5
    (try k_sweep)
    k_steps
    rename News h₀ _ _ _ => nn
    exact r1 wd rs b hR _ _ k5 st5 us5 ue5 _ _ _ _ _ q1 q2 q3 q4 (by k_asm) nn
  · unfold Stop
    intro msg hR e5 t5 h5 g5 tk5 u5 c5 F5 U5 RK5
    (try k_sweep)
    k_steps
    rename RaisedS base _ _ _ _ _ _ _ _ => rk
    rename Heap.UpToSlots _ _ => up
    exact rE msg hR _ _ _ _ _ _ c5 (by assumption) up rk
end
/- D2 -/
section
set_option maxRecDepth 100000
set_option maxHeartbeats 0
set_option rowWalk.seconds 0
local macro_rules | `(tactic| walk_at "call ref") => `(tactic| (k_here; (with_reducible show wpAny _ _ (call (Value.ref 683) _) _ _ _); k_dflt ((show wpAny _ _ (call (Value.ref 683) [Value.ref _]) _ _ _); refine' wpAny_le (gt_c ?B ?F ?X ?N ?T ?hx ?hal ?hp ?hst ?n1 ?n2 ?n3 ?n4 ?n5 ?n6 ?n7 ?n8 ?n9 ?hr ?hr2 ?_ ?_ ?_) ?h1 ?h2 ?h3 ?h4 ?h5; (case h1 => exact rfl); (case h3 => exact rfl); (case h4 => exact rfl); (case h2 => exact Nat.le_of_ble_eq_true rfl); (case h5 => exact Nat.le_of_ble_eq_true rfl); (case B => k_asm); (case F => k_asm); (case X => k_asm); (case N => k_asm); (case T => k_asm); (case hx => assumption); (case hal => assumption); (case hp => assumption); (case hst => assumption); (case n1 => assumption); (case n2 => assumption); (case n3 => assumption); (case n4 => assumption); (case n5 => assumption); (case n6 => assumption); (case n7 => assumption); (case n8 => assumption); (case n9 => assumption); (case hr => assumption); (case hr2 => assumption); all_goals (refine stop_of ?_))))
theorem nx_c {w : World} {mean : ExcName → Option Value} {mg mb : Str → Option Value} {gd : Option (List Code)} {cn : Str} {nm : List (Str × NameKind)} {gn co : Bool} {mo : List (Str × Const)} {a : Addr} {ccd : Value} {cl : List (Str × Addr)} {outer : List Env} {A₀ : Around} {base h₀ : Heap} {L : Addr} {m : Str → Option Value} {s : Shared} {Q E : Value → Shared → Prop}
   {l : List Nat} {k : Nat} {lx ld io d pb fs : Addr} {T' : LT} {ul ut us : Tok} {st : Option Nat} {t1 u1 t2 u2 t3 u3 : Tok} {ln : Int} {rest : List (Addr × Obj)}
   (B : Below A₀ base outer h₀) (F : Fr h₀ L s.heap m) (X : (Mine.hd.heap_1 w.params).In h₀) (N : News h₀ L s.heap ((lx, instObj 722 ld) :: (ld, lexD w T' io pb fs "" true (stV st us) ln ul ⟨#[]⟩ ut) :: (io, instObj 587 d) :: (d, ioD w t1 u1 t2 u2 t3 u3 ⟨l.toArray⟩ k) :: (pb, dqObj) :: (fs, dqObj) :: rest)) (T : Top vq (looseW vq vl) mean mg mb h₀)
   (hx : l.length ≤ 400) (hal : ∀ c ∈ l, alph c) (hp2 : k ≤ l.length) (hst : st = some 32 ∨ st = none ∧ k = l.length) (n1 : @Ne Nat lx ld) (n2 : @Ne Nat lx d) (n3 : @Ne Nat ld d) (n4 : @Ne Nat io d) (n5 : @Ne Nat io ld) (n6 : @Ne Nat pb d) (n7 : @Ne Nat pb ld) (n8 : @Ne Nat fs d) (n9 : @Ne Nat fs ld) (hr : ∀ q ∈ rest, q.1 ≠ d) (hr2 : ∀ q ∈ rest, q.1 ≠ ld)
   (r0 : rdS st 32 false [] (l.drop k) = .eof → ∀ e t' h' g' tk us ue ut ln ul up, Fr h₀ L g' m → g'.UpToSlots h' → RaisedS base g' (envX cn ⟨.function, nm, gn, co, mo⟩ L a ccd cl :: outer) e (.type "StopIteration") t' [] (ledRT w T' l lx ld io d pb fs t1 u1 t2 u2 t3 rest ⟨l.length, none, us, 32, ue, false, [], ut, ln, ul, up⟩) h' → E (.ref e) { s with heap := h', toks := tk })
   (r1 : ∀ wd rs b, rdS st 32 false [] (l.drop k) = .word wd rs b → ∀ h' tk k' st' us ue ut ln ul up t', k' ≤ l.length → rs = l.drop k' → (st' = some 32 ∨ st' = none ∧ k' = l.length) → wd.length ≤ 800 → Fr h₀ L h' m → News h₀ L h' (ledRT w T' l lx ld io d pb fs t1 u1 t2 u2 t3 rest ⟨k', st', us, 32, ue, false, [], ut, ln, ul, up⟩) → Q (.str ⟨wd.toArray⟩ t') { s with heap := h', toks := tk })
   (rE : ∀ msg, rdS st 32 false [] (l.drop k) = .err msg → ∀ e t' h' g' tk u c, Fr h₀ L g' m → g'.UpToSlots h' → RaisedS base g' (envX cn ⟨.function, nm, gn, co, mo⟩ L a ccd cl :: outer) e (.type "ValueError") t' [.str (Str.ofString msg) u] (ledRT w T' l lx ld io d pb fs t1 u1 t2 u2 t3 rest c) h' → E (.ref e) { s with heap := h', toks := tk }) :
   wpAny (model pr w) (ktrTop 520 3200 gd cn ⟨.function, nm, gn, co, mo⟩ L a ccd cl outer) (call (.ref 719) [.ref lx]) Q E s := by
  w_on
  have hfill : PySem.Challenge.rw_nq0227_01 = PySem.Challenge.rw_nq0227_01 ∧ Mine.hd.heap_1 = Mine.hd.heap_1 := by
    k_fill
    exact ⟨rfl, rfl⟩
  clear hfill
  refine wpAny_call ?_
  k_dflt k_enter
  have kdT : KtsDicts [] h₀ := ktsDicts_nil
  k_steps
  · unfold Stop
    intro hR h5 tk5 us5 ue5 ut5 ln5 ul5 up5 F5 N5
    dsimp only [ledRT, stV] at N5
    (try k_sweep)
    k_steps
    rename RaisedS base _ _ _ _ _ _ _ _ => rk
    rename Heap.UpToSlots _ _ => up
    exact r0 hR _ _ _ _ _ us5 ue5 _ _ _ _ (by assumption) up rk
  · unfold Stop
    intro wd rs b hR h5 tk5 k5 st5 us5 ue5 ut5 ln5 ul5 up5 t5 q1 q2 q3 q4 F5 N5
    dsimp only [ledRT] at N5
    (try k_sweep)
    k_steps
    rename News h₀ _ _ _ => nn
    exact r1 wd rs b hR _ _ k5 st5 us5 ue5 _ _ _ _ _ q1 q2 q3 q4 (by k_asm) nn
  · unfold Stop
    intro msg hR e5 t5 h5 g5 tk5 u5 c5 F5 U5 RK5
    (try k_sweep)
    k_steps
    rename RaisedS base _ _ _ _ _ _ _ _ => rk
    rename Heap.UpToSlots _ _ => up
    exact rE msg hR _ _ _ _ _ _ c5 (by assumption) up rk
end
/- E0 -/
section
set_option maxRecDepth 100000
/-- all the words that split reads -/
noncomputable def sp : Nat → List Nat → Except String (List (List Nat))
  | 0, _ => .ok []
  | n + 1, r => match rd 32 32 false [] r with
    | .eof => .ok []
    | .word wd rs _ => match sp n rs with
      | .ok ws => .ok (wd :: ws)
      | .error m => .error m
    | .err m => .error m
theorem rd_len : ∀ (r : List Nat) {st es : Nat} {q : Bool} {tok wd rs : List Nat} {b : Bool}, rd st es q tok r = .word wd rs b → rs.length ≤ r.length - 1
  | [], st, es, q, tok, wd, rs, b, h => by
    simp only [rd] at h
    split at h
    · cases h
    · split at h
      · split at h
        · cases h
        · cases h; exact Nat.le_refl _
      · split at h <;> cases h
  | c :: r, st, es, q, tok, wd, rs, b, h => by
    have ih := @rd_len r
    have le : ∀ {st es : Nat} {q : Bool} {tok : List Nat}, rd st es q tok r = .word wd rs b → rs.length ≤ (c :: r).length - 1 := fun h => Nat.le_trans (ih h) (by simp)
    simp only [rd] at h
    repeat' split at h
    all_goals first | exact le h | (cases h; simp)
theorem rd_lt {r wd rs : List Nat} {b : Bool} (h : rd 32 32 false [] r = .word wd rs b) : rs.length < r.length := by
  cases r with
  | nil => simp [rd] at h
  | cons c r => have := rd_len _ h; simp at this ⊢; omega
theorem rdS_eq {l : List Nat} {k : Nat} {st : Option Nat} (hst : st = some 32 ∨ st = none ∧ k = l.length) : rdS st 32 false [] (l.drop k) = rd 32 32 false [] (l.drop k) := by
  rcases hst with rfl | ⟨rfl, rfl⟩
  · rfl
  · rw [List.drop_length]; rfl
/-- values that are texts -/
noncomputable def SV : List Value → List (List Nat) → Prop
  | [], [] => True
  | v :: vs, w :: ws => (∃ t, v = .str ⟨w.toArray⟩ t) ∧ SV vs ws
  | _, _ => False
theorem SV.snoc : ∀ {vs : List Value} {ws : List (List Nat)} {w : List Nat} {t : Tok}, SV vs ws → SV (vs ++ [.str ⟨w.toArray⟩ t]) (ws ++ [w])
  | [], [], w, t, _ => ⟨⟨t, rfl⟩, trivial⟩
  | _ :: _, _ :: _, w, t, h => ⟨h.1, SV.snoc h.2⟩
theorem SV.len : ∀ {vs : List Value} {ws : List (List Nat)}, SV vs ws → vs.length = ws.length
  | [], [], _ => rfl
  | _ :: _, _ :: _, h => by simp [SV.len h.2]
/-- what list() gives on to: the words from here, ahead of them those read -/
theorem sp_eof {n : Nat} {r : List Nat} (h : rd 32 32 false [] r = .eof) : sp (n + 1) r = .ok [] := by simp only [sp, h]
theorem sp_err {n : Nat} {r : List Nat} {m : String} (h : rd 32 32 false [] r = .err m) : sp (n + 1) r = .error m := by simp only [sp, h]
theorem sp_word {n : Nat} {r wd rs : List Nat} {b : Bool} {ws : List (List Nat)} (h : rd 32 32 false [] r = .word wd rs b) (h2 : sp n rs = .ok ws) : sp (n + 1) r = .ok (wd :: ws) := by simp only [sp, h, h2]
theorem sp_wordE {n : Nat} {r wd rs : List Nat} {b : Bool} {m : String} (h : rd 32 32 false [] r = .word wd rs b) (h2 : sp n rs = .error m) : sp (n + 1) r = .error m := by simp only [sp, h, h2]
theorem sub_value_stop : isSubtype (.type "ValueError") (.type "StopIteration") = pure false := by rw [isSubtype_type]; kernel_rfl
theorem sub_stop_stop : isSubtype (.type "StopIteration") (.type "StopIteration") = pure true := by rw [isSubtype_type]; kernel_rfl
end
/- E1 -/
section
set_option maxRecDepth 100000
set_option maxHeartbeats 0
theorem raisedS_sub {base G h : Heap} {l : List Env} {e t : Addr} {cls : Value} {vs : List Value} {news news' : List (Addr × Obj)} (R : RaisedS base G l e cls t vs news h) (hs : ∀ q ∈ news', q ∈ news) : RaisedS base G l e cls t vs news' h := by
  obtain ⟨⟨B, hB, hBG, hl, hfl, hnew⟩, htup⟩ := R
  exact ⟨⟨B, hB, hBG, fun q hq => hl q (hs q hq), hfl, hnew⟩, htup⟩
theorem raisedS_type {base G : Heap} {s : Shared} {l : List Env} {e t : Addr} {X : String} {vs : List Value} {news : List (Addr × Obj)} (R : RaisedS base G l e (.type X) t vs news s.heap) : s.TypeIs (.ref e) X := by
  obtain ⟨⟨B, hB, hBG, hl, hfl, hnew⟩, htup⟩ := R
  obtain ⟨ob, hob, hobc⟩ := hfl.there
  exact ⟨ob, hob, hobc⟩
theorem stop_ground {A₀ : Around} {base g G h : Heap} {outer : List Env} {L a e t : Addr} {m : Str → Option Value} {name : Str} {scope : Scope} {cd cls : Value} {vs : List Value} {news : List (Addr × Obj)}
    (K : Below A₀ base outer g) (F : Fr g L G m) (R : RaisedS base G (envOf name scope L a cd :: outer) e cls t vs news h) (hsm : G.UpToSlots h) :
    ∃ g', KtsTurn (outer.filterMap (·.frame)) g g' ∧ Fr g' L h m ∧ Below A₀ base outer g' ∧ News g' L h news := by
  obtain ⟨⟨B, hB, hBG, hl, hfl, hnew⟩, htup⟩ := R
  have hL : B.get? L = none := by
    obtain ⟨_, ⟨L', _, hf, hn', _⟩, _⟩ := hfl.2.2.1
    obtain rfl : L = L' := Option.some.inj hf
    exact hn'
  obtain ⟨g', T, F', K'⟩ := kts_ground K F hBG hfl.1 hsm
  exact ⟨g', T, F', K', fun q hq => ⟨hfl.1 _ _ (hl q hq).1, (fun z => by have := (hl q hq).1; rw [z, hL] at this; cases this), T.none_ _ (kts_none F.keep (hl q hq).2.1)⟩⟩
theorem news_sub {h₀ h : Heap} {L : Addr} {news news' : List (Addr × Obj)} (N : News h₀ L h news) (hs : ∀ p ∈ news', p ∈ news) : News h₀ L h news' := fun p hp => N p (hs p hp)
theorem list_loop {w : World} {mean : ExcName → Option Value} {mg mb : Str → Option Value} {gd : Option (List Code)} {cn : Str} {nm : List (Str × NameKind)} {gn co : Bool} {mo : List (Str × Const)} {a : Addr} {ccd : Value} {outer : List Env} {A₀ : Around} {base h₀ : Heap} {L : Addr} {m : Str → Option Value}
   {l : List Nat} {lx ld io d pb fs S : Addr} {T' : LT} {t1 u1 t2 u2 t3 : Tok} {rest : List (Addr × Obj)}
   (B : Below A₀ base outer h₀) (X : (Mine.hd.heap_1 w.params).In h₀) (T : Top vq (looseW vq vl) mean mg mb h₀)
   (hx : l.length ≤ 400) (hal : ∀ c ∈ l, alph c) (n1 : @Ne Nat lx ld) (n2 : @Ne Nat lx d) (n3 : @Ne Nat ld d) (n4 : @Ne Nat io d) (n5 : @Ne Nat io ld) (n6 : @Ne Nat pb d) (n7 : @Ne Nat pb ld) (n8 : @Ne Nat fs d) (n9 : @Ne Nat fs ld) (hr : ∀ q ∈ rest, q.1 ≠ d) (hr2 : ∀ q ∈ rest, q.1 ≠ ld)
   (hS : lx ≠ S ∧ ld ≠ S ∧ io ≠ S ∧ d ≠ S ∧ pb ≠ S ∧ fs ≠ S) (hSr : ∀ q ∈ rest, q.1 ≠ S)
   {A : Around} (a1 : A.handled = none) (a2 : A.depth ≤ 500) (a3 : A.frames = some (envX cn ⟨.function, nm, gn, co, mo⟩ L a ccd [] :: outer)) (a4 : A.guards = gd) (a5 : A.units ≤ 3000) {R : Result → Shared → Prop} :
   ∀ (n k : Nat) (st : Option Nat) (us ul ut u3 : Tok) (ln : Int) (acc : List Value) (accw : List (List Nat)) (c : Nat) (s : Shared),
     l.length - k < n → k ≤ l.length → (st = some 32 ∨ st = none ∧ k = l.length) → acc.length ≤ k → SV acc accw → Fr h₀ L s.heap m →
     News h₀ L s.heap ((lx, instObj 722 ld) :: (ld, lexD w T' io pb fs "" true (stV st us) ln ul ⟨#[]⟩ ut) :: (io, instObj 587 d) :: (d, ioD w t1 u1 t2 u2 t3 u3 ⟨l.toArray⟩ k) :: (pb, dqObj) :: (fs, dqObj) :: (S, listOf acc.toArray c) :: rest) →
     (∀ ws, sp n (l.drop k) = .ok ws → ∀ g' h' tk vs c', KtsTurn (outer.filterMap (·.frame)) h₀ g' → Fr g' L h' m → News g' L h' ((S, listOf vs.toArray c') :: rest) → Below A₀ base outer g' → SV vs (accw ++ ws) → vs.length ≤ 400 → R (.ok (.ret .none)) { s with heap := h', toks := tk }) →
     (∀ msg, sp n (l.drop k) = .error msg → ∀ e t' h' g' tk u, Fr h₀ L g' m → g'.UpToSlots h' → RaisedS base g' (envX cn ⟨.function, nm, gn, co, mo⟩ L a ccd [] :: outer) e (.type "ValueError") t' [.str (Str.ofString msg) u] rest h' → R (.error (.ref e)) { s with heap := h', toks := tk }) →
     codeAny (model pr w) A (.builtin "list.extend.loop" ⟨[.ref S, .ref lx, .none], []⟩) R s := by
  w_on
  have hfill : PySem.Challenge.rw_nq0227_01 = PySem.Challenge.rw_nq0227_01 ∧ Mine.hd.heap_1 = Mine.hd.heap_1 := by
    k_fill
    exact ⟨rfl, rfl⟩
  clear hfill
  intro n
  induction n with
  | zero => intro k st us ul ut u3 ln acc accw c s hn; omega
  | succ n ih =>
    intro k st us ul ut u3 ln acc accw c s hn hk hst hlen hsv F N ok er
    refine codeAny_builtin PySem.F.entry_extend_loop ?_
    rw [Around.under_plainId PySem.F.plain_extend_loop _]
    show wpAny _ A.in1 (pyNext (.ref lx) >>= _) _ _ s
    refine wpAny_bind ?_
    have I := InstAt.of_news N (.head _) (.tail _ (.head _))
    have hR9 := rdS_eq hst
    refine owit_next F X I (by k_is) (by k_is) ?_
    refine wpAny_le (nx_c (cl := []) (a := a) (ccd := ccd) (outer := outer) B F X N T hx hal hk hst n1 n2 n3 n4 n5 n6 n7 n8 n9 (List.forall_mem_cons.mpr ⟨fun e => hS.2.2.2.1 e.symm, hr⟩) (List.forall_mem_cons.mpr ⟨fun e => hS.2.1 e.symm, hr2⟩) ?_ ?_ ?_) a1 (by show A.depth ≤ 520; omega) a3 a4 (by show A.units + 1 ≤ 3200; omega)
    · intro hR e t' h' g' tk us ue ut ln ul up F' U' R'
      obtain ⟨g2, T2, F2, K2, N2⟩ := stop_ground B F' R' U'
      unfold OwitStop
      refine wpAny_isInstance (raisedS_type R') sub_stop_stop ?_
      rw [if_pos rfl]
      refine wpAny_pure ?_
      exact ok [] (sp_eof (hR9 ▸ hR)) g2 h' tk acc c T2 F2 (news_sub N2 fun p hp => .tail _ (.tail _ (.tail _ (.tail _ (.tail _ (.tail _ hp)))))) K2 (by rw [List.append_nil]; exact hsv) (by omega)
    · intro wd rs b hR h' tk k' st' us ue ut ln ul up t' hk' hrs hst' hwl F' N'
      dsimp only [ledRT] at N'
      rw [hR9] at hR
      have hlt := rd_lt hR
      rw [hrs, List.length_drop, List.length_drop] at hlt
      show wpAny _ A.in1 (updateSeq S (·.push _) >>= _) _ _ _
      refine wpAny_bind ?_
      have gS := N' (S, listOf acc.toArray c) (.tail _ (.tail _ (.tail _ (.tail _ (.tail _ (.tail _ (.head _)))))))
      have hS' := gS.1
      have up' := Heap.get?_update_self (Obj.mapSeq (·.push (Value.str ⟨wd.toArray⟩ t'))) hS' rfl
      have sb : Heap.SameBut S h' (h'.update S (Obj.mapSeq (·.push (Value.str ⟨wd.toArray⟩ t')))) := Heap.SameBut.update ..
      have z1 : (500 : Nat) ≤ sizeLine := by decide +kernel
      have z2 : acc.toArray.size ≤ sizeLine := by simp only [List.size_toArray]; omega
      have z3 : (acc.toArray.push (Value.str ⟨wd.toArray⟩ t')).size ≤ sizeLine + 1 := by simp only [Array.size_push, List.size_toArray]; omega
      refine wpAny_updateSeq (f := fun x => x.push (Value.str ⟨wd.toArray⟩ t')) hS' rfl (wpAny_pure ⟨plainId_quiet PySem.F.plain_extend_loop _, ?_⟩) z2 z3
      have N2 : News h₀ L (h'.update S (Obj.mapSeq (·.push (Value.str ⟨wd.toArray⟩ t')))) ([(lx, instObj 722 ld), (ld, lexD w T' io pb fs "" true (stV st' us) ln ul ⟨#[]⟩ ut), (io, instObj 587 d), (d, ioD w t1 u1 t2 u2 t3 up ⟨l.toArray⟩ k'), (pb, dqObj), (fs, dqObj)] ++ (S, listOf (acc ++ [Value.str ⟨wd.toArray⟩ t']).toArray (c + 1)) :: rest) := by
        refine News.setIn (own := [(lx, instObj 722 ld), (ld, lexD w T' io pb fs "" true (stV st' us) ln ul ⟨#[]⟩ ut), (io, instObj 587 d), (d, ioD w t1 u1 t2 u2 t3 up ⟨l.toArray⟩ k'), (pb, dqObj), (fs, dqObj)]) N' ?_ hSr sb ?_
        · intro p hp
          obtain ⟨s1, s2, s3, s4, s5, s6⟩ := hS
          simp only [List.mem_cons, List.not_mem_nil, or_false] at hp
          rcases hp with rfl | rfl | rfl | rfl | rfl | rfl <;> assumption
        · rw [up']
          have e1 : acc.toArray.push (Value.str ⟨wd.toArray⟩ t') = (acc ++ [Value.str ⟨wd.toArray⟩ t']).toArray := by simp
          have e2 : ((acc ++ [Value.str ⟨wd.toArray⟩ t']).toArray.size == acc.toArray.size) = false := by simp
          show some (Obj.mk _ _ (Data.seq (acc.toArray.push (Value.str ⟨wd.toArray⟩ t')) (if ((acc.toArray.push (Value.str ⟨wd.toArray⟩ t')).size == acc.toArray.size) = true then c else c + 1)) _) = _
          rw [e1, e2]
          rfl
      refine ih k' st' us ul ut up ln (acc ++ [Value.str ⟨wd.toArray⟩ t']) (accw ++ [wd]) (c + 1) _ (by omega) hk' hst' (by simp only [List.length_append, List.length_cons, List.length_nil]; omega) hsv.snoc (F'.update N' (.tail _ (.tail _ (.tail _ (.tail _ (.tail _ (.tail _ (.head _))))))) sb) N2 ?_ ?_
      · intro ws hws g' h9 tk9 vs c' T9 F9 N9 K9 sv9 len9
        refine ok (wd :: ws) (sp_word hR (hrs ▸ hws)) g' h9 tk9 vs c' T9 F9 N9 K9 (by simpa using sv9) len9
      · intro msg hm e t9 h9 g9 tk9 u9 F9 U9 R9
        exact er msg (sp_wordE hR (hrs ▸ hm)) e t9 h9 g9 tk9 u9 F9 U9 R9
    · intro msg hR e t' h' g' tk u c' F' U' R'
      unfold OwitStop
      refine wpAny_isInstance (raisedS_type R') sub_value_stop ?_
      rw [if_neg (by decide)]
      exact er msg (sp_err (hR9 ▸ hR)) e t' h' g' tk u F' U' (raisedS_sub R' fun q hq => .tail _ (.tail _ (.tail _ (.tail _ (.tail _ (.tail _ (.tail _ hq)))))))
end
/- E2 -/
section
set_option maxRecDepth 100000
set_option maxHeartbeats 0
set_option rowWalk.seconds 0
theorem it_c {w : World} {mean : ExcName → Option Value} {mg mb : Str → Option Value} {gd : Option (List Code)} {cn : Str} {nm : List (Str × NameKind)} {gn co : Bool} {mo : List (Str × Const)} {a : Addr} {ccd : Value} {cl : List (Str × Addr)} {outer : List Env} {A₀ : Around} {base h₀ : Heap} {L : Addr} {m : Str → Option Value} {s : Shared} {Q E : Value → Shared → Prop}
   {lx ld : Addr} {od : Obj} {rest : List (Addr × Obj)}
   (B : Below A₀ base outer h₀) (F : Fr h₀ L s.heap m) (X : (Mine.hd.heap_1 w.params).In h₀) (N : News h₀ L s.heap ((lx, instObj 722 ld) :: (ld, od) :: rest)) (T : Top vq (looseW vq vl) mean mg mb h₀)
   (r : ∀ h' tk, Fr h₀ L h' m → News h₀ L h' ((lx, instObj 722 ld) :: (ld, od) :: rest) → Q (.ref lx) { s with heap := h', toks := tk }) :
   wpAny (model pr w) (ktrTop 520 3200 gd cn ⟨.function, nm, gn, co, mo⟩ L a ccd cl outer) (call (.ref 712) [.ref lx]) Q E s := by
  w_on
  have hfill : PySem.Challenge.rw_nq0227_01 = PySem.Challenge.rw_nq0227_01 ∧ Mine.hd.heap_1 = Mine.hd.heap_1 := by
    k_fill
    exact ⟨rfl, rfl⟩
  clear hfill
  refine wpAny_call ?_
  k_dflt k_enter
  k_steps
  exact r _ _ (by k_asm) (by k_asm)
end
/- E3 -/
section
set_option maxRecDepth 100000
set_option maxHeartbeats 0
theorem list_lex {w : World} {mean : ExcName → Option Value} {mg mb : Str → Option Value} {gd : Option (List Code)} {cn : Str} {nm : List (Str × NameKind)} {gn co : Bool} {mo : List (Str × Const)} {a : Addr} {ccd : Value} {outer : List Env} {A₀ : Around} {base h₀ : Heap} {L : Addr} {m : Str → Option Value} {s : Shared} {Q E : Value → Shared → Prop}
   {l : List Nat} {lx ld io d pb fs : Addr} {T' : LT} {t1 u1 t2 u2 t3 u3 us ul ut : Tok} {ln : Int} {rest : List (Addr × Obj)}
   (B : Below A₀ base outer h₀) (F : Fr h₀ L s.heap m) (X : (Mine.hd.heap_1 w.params).In h₀) (N : News h₀ L s.heap ((lx, instObj 722 ld) :: (ld, lexD w T' io pb fs "" true (stV (some 32) us) ln ul ⟨#[]⟩ ut) :: (io, instObj 587 d) :: (d, ioD w t1 u1 t2 u2 t3 u3 ⟨l.toArray⟩ ((0 : Nat) : Int)) :: (pb, dqObj) :: (fs, dqObj) :: rest))
   (T : Top vq (looseW vq vl) mean mg mb h₀)
   (hx : l.length ≤ 400) (hal : ∀ c ∈ l, alph c) (n1 : @Ne Nat lx ld) (n2 : @Ne Nat lx d) (n3 : @Ne Nat ld d) (n4 : @Ne Nat io d) (n5 : @Ne Nat io ld) (n6 : @Ne Nat pb d) (n7 : @Ne Nat pb ld) (n8 : @Ne Nat fs d) (n9 : @Ne Nat fs ld) (hr : ∀ q ∈ rest, q.1 ≠ d) (hr2 : ∀ q ∈ rest, q.1 ≠ ld)
   (ok : ∀ ws, sp (l.length + 1) l = .ok ws → ∀ S g' h' tk vs c', KtsTurn (outer.filterMap (·.frame)) h₀ g' → Fr g' L h' m → News g' L h' ((S, listOf vs.toArray c') :: rest) → Below A₀ base outer g' → SV vs ws → vs.length ≤ 400 → (∀ p ∈ rest, p.1 < S) → Q (.ref S) { s with heap := h', toks := tk })
   (er : ∀ msg, sp (l.length + 1) l = .error msg → ∀ e t' h' g' tk u, Fr h₀ L g' m → g'.UpToSlots h' → RaisedS base g' (envX cn ⟨.function, nm, gn, co, mo⟩ L a ccd [] :: outer) e (.type "ValueError") t' [.str (Str.ofString msg) u] rest h' → E (.ref e) { s with heap := h', toks := tk }) :
   wpAny (model pr w) (ktrTop 490 2990 gd cn ⟨.function, nm, gn, co, mo⟩ L a ccd [] outer) (call (.type "list") [.ref lx]) Q E s := by
  w_on
  have hfill : PySem.Challenge.rw_nq0227_01 = PySem.Challenge.rw_nq0227_01 ∧ Mine.hd.heap_1 = Mine.hd.heap_1 := by
    k_fill
    exact ⟨rfl, rfl⟩
  clear hfill
  refine callType_codes (Q₁ := fun obj s₁ => obj = .ref s.heap.objs.size ∧ s₁ = { s with heap := s.heap.push { cls := .type "list", data := .seq #[] } }) PySem.F.called_list (PySem.F.typeCall_list_1 _) PySem.F.entry_list_init
    (code_list_new _ ⟨rfl, rfl⟩) fun obj s₁ h₁ => ?_
  obtain ⟨rfl, rfl⟩ := h₁
  have hS : (s.heap.push { cls := .type "list", data := .seq #[] }).get? s.heap.objs.size = some { cls := .type "list", data := .seq #[] } := Heap.get?_push_size _ rfl
  refine ⟨⟨_, hS, rfl⟩, PySem.F.args_list_init_2 _ _, ?_⟩
  have lt : ∀ p ∈ ((lx, instObj 722 ld) :: (ld, lexD w T' io pb fs "" true (stV (some 32) us) ln ul ⟨#[]⟩ ut) :: (io, instObj 587 d) :: (d, ioD w t1 u1 t2 u2 t3 u3 ⟨l.toArray⟩ ((0 : Nat) : Int)) :: (pb, dqObj) :: (fs, dqObj) :: rest), p.1 < s.heap.objs.size := fun p hp => Heap.lt_size (N p hp).1
  have F1 := F.push ({ cls := .type "list", data := .seq #[] } : Obj)
  have N1 := N.push F ({ cls := .type "list", data := .seq #[] } : Obj)
  generalize hSe : s.heap.objs.size = S at *
  generalize s.heap.push { cls := .type "list", data := .seq #[] } = h1 at *
  show wpAny _ _ (do let old ← Builtin.List.listItems (.ref S); Builtin.List.listUpdate (.ref S) (fun _ => #[]); letGo old.toList.reverse; Builtin.List.listExtendWith (.ref S) (.ref lx) .none) _ _ _
  refine wpAny_bind ?_
  unfold Builtin.List.listItems
  refine wpAny_bind (wpAny_seqItems hS rfl (wpAny_pure ?_))
  show wpAny _ _ (updateSeq S (fun _ => #[]) >>= fun _ => letGo (#[] : Array Value).toList.reverse >>= fun _ => Builtin.List.listExtendWith (.ref S) (.ref lx) .none) _ _ _
  refine wpAny_bind (wpAny_updateSeq hS rfl ?_)
  have hS2 : (h1.update S (Obj.mapSeq (fun _ => (#[] : Array Value)))).get? S = some (listOf #[] 0) := Heap.get?_update_self (Obj.mapSeq (fun _ => (#[] : Array Value))) hS rfl
  have sb : Heap.SameBut S h1 (h1.update S (Obj.mapSeq (fun _ => (#[] : Array Value)))) := Heap.SameBut.update ..
  have F2 := F1.update N1 (.head _) sb
  have N2 := News.setHead N1 (fun p hp => Nat.ne_of_lt (lt p hp)) sb hS2
  generalize h1.update S (Obj.mapSeq (fun _ => (#[] : Array Value))) = h2 at *
  refine wpAny_bind (wpAny_letGo ?_)
  unfold Builtin.List.listExtendWith
  have I := InstAt.of_news N2 (.tail _ (.head _)) (.tail _ (.tail _ (.head _)))
  refine wpAny_bind (I.type.here ?_)
  have hne : (S == lx) = false := beq_eq_false_iff_ne.mpr (fun e => Nat.lt_irrefl _ (e ▸ lt _ (.head _)))
  have q1 : Builtin.List.listSameRef (.ref S) (.ref lx) = false := hne
  have q2 : (Value.ref 722 == Value.type "list") = false := by decide
  have q3 : (Value.ref 722 == Value.type "tuple") = false := by decide
  simp only [q1, q2, q3, Bool.or_false, Bool.false_eq_true, if_false]
  refine wpAny_bind (owit_iter F2 X I (f := 712) (by k_is) (by k_is) ?_)
  have N3 : News h₀ L h2 ((lx, instObj 722 ld) :: (ld, lexD w T' io pb fs "" true (stV (some 32) us) ln ul ⟨#[]⟩ ut) :: (io, instObj 587 d) :: (d, ioD w t1 u1 t2 u2 t3 u3 ⟨l.toArray⟩ ((0 : Nat) : Int)) :: (pb, dqObj) :: (fs, dqObj) :: (S, listOf #[] 0) :: rest) := by
    refine news_sub N2 fun p hp => ?_
    simp only [List.mem_cons] at hp ⊢
    rcases hp with h | h | h | h | h | h | h | h <;> simp [h]
  refine wpAny_le (it_c (cl := []) (a := a) (ccd := ccd) (outer := outer) B F2 X N3 T ?_) rfl (by show (490 : Nat) ≤ 520; decide) rfl rfl (by show (2990 + 1 + 1 : Nat) ≤ 3200; decide)
  intro h3 tk3 F3 N4
  have I3 := InstAt.of_news N4 (.head _) (.tail _ (.head _))
  refine owit_it F3 X I3 (g := .ref 719) (by k_is) ?_
  refine wpAny_bind (wpAny_holding ?_)
  unfold Builtin.List.listLengthHint
  have XX := X.keeps F3.keep
  have fl : findIn (Mine.hd.heap_1 w.params) (.ref 722) "__len__" = some none := by k_is
  have fh : findIn (Mine.hd.heap_1 w.params) (.ref 722) "__length_hint__" = some none := by k_is
  refine wpAny_bind (wpAny_bind (I3.type.here ((looks_findIn XX fl).here ?_)))
  show wpAny _ _ (specialOf (Value.ref lx) (Str.ofString "__length_hint__") >>= _) _ _ _
  refine wpAny_bind (wpAny_bind (I3.type.here ((looks_findIn XX fh).here ?_)))
  refine wpAny_pure ?_
  show wpAny _ _ (rule "list.extend.makes-room" >>= fun _ => Builtin.List.listTouch (.ref S) >>= fun _ =>
    again (.builtin "list.extend.loop" ⟨[.ref S, .ref lx, .none], []⟩)) _ _ _
  refine wpAny_bind (wpAny_rule ?_)
  refine wpAny_bind ?_
  show wpAny _ _ (updateSeq S (·.push .none) >>= fun _ => updateSeq S (·.pop)) _ _ _
  have own : ∀ p ∈ [(lx, instObj 722 ld), (ld, lexD w T' io pb fs "" true (stV (some 32) us) ln ul ⟨#[]⟩ ut), (io, instObj 587 d), (d, ioD w t1 u1 t2 u2 t3 u3 ⟨l.toArray⟩ ((0 : Nat) : Int)), (pb, dqObj), (fs, dqObj)], p.1 ≠ S := by
    intro p hp
    simp only [List.mem_cons, List.not_mem_nil, or_false] at hp
    refine Nat.ne_of_lt (lt p ?_)
    simp only [List.mem_cons]
    rcases hp with h | h | h | h | h | h <;> simp [h]
  have hrS : ∀ q ∈ rest, q.1 ≠ S := fun q hq => Nat.ne_of_lt (lt q (.tail _ (.tail _ (.tail _ (.tail _ (.tail _ (.tail _ hq)))))))
  have memS : ∀ {o : Obj}, (S, o) ∈ ((lx, instObj 722 ld) :: (ld, lexD w T' io pb fs "" true (stV (some 32) us) ln ul ⟨#[]⟩ ut) :: (io, instObj 587 d) :: (d, ioD w t1 u1 t2 u2 t3 u3 ⟨l.toArray⟩ ((0 : Nat) : Int)) :: (pb, dqObj) :: (fs, dqObj) :: (S, o) :: rest) := .tail _ (.tail _ (.tail _ (.tail _ (.tail _ (.tail _ (.head _))))))
  have hS3 := (N4 _ memS).1
  refine wpAny_bind (wpAny_updateSeq hS3 rfl ?_)
  have hS4 : (h3.update S (Obj.mapSeq (·.push Value.none))).get? S = some (listOf #[Value.none] 1) := Heap.get?_update_self (Obj.mapSeq (·.push Value.none)) hS3 rfl
  have sb3 : Heap.SameBut S h3 (h3.update S (Obj.mapSeq (·.push Value.none))) := Heap.SameBut.update ..
  have F5 := F3.update N4 memS sb3
  have N5 := News.setIn (own := [(lx, instObj 722 ld), (ld, lexD w T' io pb fs "" true (stV (some 32) us) ln ul ⟨#[]⟩ ut), (io, instObj 587 d), (d, ioD w t1 u1 t2 u2 t3 u3 ⟨l.toArray⟩ ((0 : Nat) : Int)), (pb, dqObj), (fs, dqObj)]) N4 own hrS sb3 hS4
  generalize h3.update S (Obj.mapSeq (·.push Value.none)) = h5 at *
  refine wpAny_updateSeq hS4 rfl ?_
  have hS6 : (h5.update S (Obj.mapSeq (·.pop))).get? S = some (listOf ([] : List Value).toArray 2) := Heap.get?_update_self (Obj.mapSeq (·.pop)) hS4 rfl
  have sb5 : Heap.SameBut S h5 (h5.update S (Obj.mapSeq (·.pop))) := Heap.SameBut.update ..
  have F6 := F5.update N5 memS sb5
  have N6 := News.setIn (own := [(lx, instObj 722 ld), (ld, lexD w T' io pb fs "" true (stV (some 32) us) ln ul ⟨#[]⟩ ut), (io, instObj 587 d), (d, ioD w t1 u1 t2 u2 t3 u3 ⟨l.toArray⟩ ((0 : Nat) : Int)), (pb, dqObj), (fs, dqObj)]) N5 own hrS sb5 hS6
  generalize h5.update S (Obj.mapSeq (·.pop)) = h6 at *
  refine wpAny_pure ⟨plainId_quiet PySem.F.plain_extend_loop _, ?_⟩
  refine list_loop (a := a) (ccd := ccd) (outer := outer) (gd := gd) B X T hx hal n1 n2 n3 n4 n5 n6 n7 n8 n9 hr hr2 ⟨own _ (.head _), own _ (.tail _ (.head _)), own _ (.tail _ (.tail _ (.head _))), own _ (.tail _ (.tail _ (.tail _ (.head _)))), own _ (.tail _ (.tail _ (.tail _ (.tail _ (.head _))))), own _ (.tail _ (.tail _ (.tail _ (.tail _ (.tail _ (.head _))))))⟩ hrS rfl (by show (490 : Nat) ≤ 500; decide) rfl rfl (by show (2990 + 1 : Nat) ≤ 3000; decide) (l.length + 1) 0 (some 32) us ul ut u3 ln [] [] 2 _ (by omega) (Nat.zero_le _) (.inl rfl) (Nat.le_refl _) trivial F6 N6 ?_ ?_
  · intro ws hws g' h' tk vs c' k1 k2 k3 k4 k5 k6
    refine ⟨rfl, ?_⟩
    rw [List.nil_append] at k5
    exact ok ws hws S g' h' tk vs c' k1 k2 k3 k4 k5 k6 (fun p hp => lt p (.tail _ (.tail _ (.tail _ (.tail _ (.tail _ (.tail _ hp)))))))
  · intro msg hm e t' h' g' tk u k1 k2 k3
    exact er msg hm e t' h' g' tk u k1 k2 k3
end
/- E4 -/
section
set_option maxRecDepth 100000
set_option maxHeartbeats 0
noncomputable abbrev lexDc (w : World) (T : LT) (vc : Tok) (io pb fs : Addr) (cm : Str) (wsp : Bool) (st : Value) (ln : Int) (ul : Tok) (tok : Str) (ut : Tok) : Obj := dictOf
  [⟨PyData.keyHash w.params "instream", .str "instream" T.a0, .ref io⟩, ⟨PyData.keyHash w.params "infile", .str "infile" T.a1, .none⟩, ⟨PyData.keyHash w.params "posix", .str "posix" T.a2, .bool true⟩,
   ⟨PyData.keyHash w.params "eof", .str "eof" T.a3, .none⟩, ⟨PyData.keyHash w.params "commenters", .str "commenters" T.a4, .str cm vc⟩, ⟨PyData.keyHash w.params "wordchars", .str "wordchars" T.a5, .str wchars T.vw⟩,
   ⟨PyData.keyHash w.params "whitespace", .str "whitespace" T.a6, .str " \t\r\n" T.vs⟩, ⟨PyData.keyHash w.params "whitespace_split", .str "whitespace_split" T.a7, .bool wsp⟩, ⟨PyData.keyHash w.params "quotes", .str "quotes" T.a8, .str "'\"" T.vq⟩,
   ⟨PyData.keyHash w.params "escape", .str "escape" T.a9, .str "\\" T.ve⟩, ⟨PyData.keyHash w.params "escapedquotes", .str "escapedquotes" T.a10, .str "\"" T.vx⟩, ⟨PyData.keyHash w.params "state", .str "state" T.a11, st⟩,
   ⟨PyData.keyHash w.params "pushback", .str "pushback" T.a12, .ref pb⟩, ⟨PyData.keyHash w.params "lineno", .str "lineno" T.a13, .int ln ul⟩, ⟨PyData.keyHash w.params "debug", .str "debug" T.a14, .int 0 T.vd⟩,
   ⟨PyData.keyHash w.params "token", .str "token" T.a15, .str tok ut⟩, ⟨PyData.keyHash w.params "filestack", .str "filestack" T.a16, .ref fs⟩, ⟨PyData.keyHash w.params "source", .str "source" T.a17, .none⟩,
   ⟨PyData.keyHash w.params "_punctuation_chars", .str "_punctuation_chars" T.a18, .str "" T.vp⟩] 19
noncomputable def LexLt (rest : List (Addr × Obj)) (ld lx d io pb fs : Addr) : Prop := (∀ p ∈ rest, @LT.lt Nat _ p.1 ld) ∧ @LT.lt Nat _ ld lx ∧ @LT.lt Nat _ lx d ∧ @LT.lt Nat _ d io ∧ @LT.lt Nat _ io pb ∧ @LT.lt Nat _ pb fs
theorem news_lex {w : World} {h₀ h : Heap} {L lx ld io d pb fs : Addr} {T9 : LT} {t1 u1 t2 u2 t3 u3 us ul ut v : Tok} {l : List Nat} {rest : List (Addr × Obj)}
    (N : News h₀ L h ((fs, dqObj) :: (pb, dqObj) :: (io, instObj 587 d) :: (d, ioD w t1 u1 t2 u2 t3 u3 ⟨l.toArray⟩ 0) :: (lx, instObj 722 ld) :: (ld, lexD w { T9 with vc := v } io pb fs "" true (.str " " us) 1 ul "" ut) :: rest)) :
    News h₀ L h ((lx, instObj 722 ld) :: (ld, lexD w { T9 with vc := v } io pb fs "" true (stV (some 32) us) 1 ul ⟨#[]⟩ ut) :: (io, instObj 587 d) :: (d, ioD w t1 u1 t2 u2 t3 u3 ⟨l.toArray⟩ ((0 : Nat) : Int)) :: (pb, dqObj) :: (fs, dqObj) :: rest) := by
  refine news_sub (news := (fs, dqObj) :: (pb, dqObj) :: (io, instObj 587 d) :: (d, ioD w t1 u1 t2 u2 t3 u3 ⟨l.toArray⟩ ((0 : Nat) : Int)) :: (lx, instObj 722 ld) :: (ld, lexD w { T9 with vc := v } io pb fs "" true (stV (some 32) us) 1 ul ⟨#[]⟩ ut) :: rest) N fun p hp => ?_
  simp only [List.mem_cons] at hp ⊢
  rcases hp with h | h | h | h | h | h | h <;> simp [h]
theorem LexLt.rest_ne {rest : List (Addr × Obj)} {ld lx d io pb fs : Addr} (q : LexLt rest ld lx d io pb fs) : (∀ p ∈ rest, p.1 ≠ d) ∧ (∀ p ∈ rest, p.1 ≠ ld) ∧ @Ne Nat lx ld ∧ @Ne Nat lx d ∧ @Ne Nat ld d ∧ @Ne Nat io d ∧ @Ne Nat io ld ∧ @Ne Nat pb d ∧ @Ne Nat pb ld ∧ @Ne Nat fs d ∧ @Ne Nat fs ld := by
  obtain ⟨q1, q2, q3, q4, q5, q6⟩ := q
  refine ⟨fun p hp e => ?_, fun p hp e => ?_, ?_, ?_, ?_, ?_, ?_, ?_, ?_, ?_, ?_⟩
  · have := q1 p hp
    have e' : @Eq Nat p.1 d := e
    omega
  · have := q1 p hp
    have e' : @Eq Nat p.1 ld := e
    omega
  all_goals omega
/-- list(lex) as split has it -/
theorem list_lex2 {w : World} {mean : ExcName → Option Value} {mg mb : Str → Option Value} {gd : Option (List Code)} {cn : Str} {nm : List (Str × NameKind)} {gn co : Bool} {mo : List (Str × Const)} {a : Addr} {ccd : Value} {outer : List Env} {A₀ : Around} {base h₀ : Heap} {L : Addr} {m : Str → Option Value} {s : Shared} {Q E : Value → Shared → Prop}
   {l : List Nat} {lx ld io d pb fs : Addr} {T9 : LT} {t1 u1 t2 u2 t3 u3 us ul ut v : Tok} {rest : List (Addr × Obj)}
   (B : Below A₀ base outer h₀) (F : Fr h₀ L s.heap m) (X : (Mine.hd.heap_1 w.params).In h₀)
   (N : News h₀ L s.heap ((fs, dqObj) :: (pb, dqObj) :: (io, instObj 587 d) :: (d, ioD w t1 u1 t2 u2 t3 u3 ⟨l.toArray⟩ 0) :: (lx, instObj 722 ld) :: (ld, lexDc w T9 v io pb fs "" true (.str " " us) 1 ul "" ut) :: rest))
   (T : Top vq (looseW vq vl) mean mg mb h₀) (XB : (Mine.hd.heap_1 w.params).In base) (TB : Top vq (looseW vq vl) mean mg mb base) (D : KtsDicts (outer.filterMap (·.frame)) h₀)
   (hx : l.length ≤ 400) (hal : ∀ c ∈ l, alph c) (q : LexLt rest ld lx d io pb fs)
   (ok : ∀ ws, sp (l.length + 1) l = .ok ws → ∀ S g' h' tk vs c', KtsTurn (outer.filterMap (·.frame)) h₀ g' → Fr g' L h' m → News g' L h' ((S, listOf vs.toArray c') :: rest) → Below A₀ base outer g' → (Mine.hd.heap_1 w.params).In g' → Top vq (looseW vq vl) mean mg mb g' → KtsDicts (outer.filterMap (·.frame)) g' → SV vs ws → vs.length ≤ 400 → (∀ p ∈ rest, p.1 < S) → Q (.ref S) { s with heap := h', toks := tk })
   (er : ∀ msg, sp (l.length + 1) l = .error msg → ∀ e t' h' g' tk u, Fr h₀ L g' m → g'.UpToSlots h' → RaisedS base g' (envX cn ⟨.function, nm, gn, co, mo⟩ L a ccd [] :: outer) e (.type "ValueError") t' [.str (Str.ofString msg) u] rest h' → E (.ref e) { s with heap := h', toks := tk }) :
   wpAny (model pr w) (ktrTop 490 2990 gd cn ⟨.function, nm, gn, co, mo⟩ L a ccd [] outer) (call (.type "list") [.ref lx]) Q E s := by
  obtain ⟨r1, r2, n1, n2, n3, n4, n5, n6, n7, n8, n9⟩ := q.rest_ne
  refine list_lex B F X (news_lex (T9 := T9) (v := v) N) T hx hal n1 n2 n3 n4 n5 n6 n7 n8 n9 r1 r2 (fun ws hws S g' h' tk vs c' k1 k2 k3 k4 k5 k6 k7 => ?_) er
  exact ok ws hws S g' h' tk vs c' k1 k2 k3 k4 (XB.keeps k4.stays) (TB.keeps k4.stays) (D.turn k1) k5 k6 k7
end
/- F1 -/
section
set_option maxRecDepth 100000
set_option maxHeartbeats 0
set_option rowWalk.seconds 0
local macro_rules | `(tactic| walk_at "call ref") => `(tactic| (k_here; (with_reducible show wpAny _ _ (call (Value.ref 722) _ _) _ _ _); k_dflt ((show wpAny _ _ (call (Value.ref 722) [Value.str _ _] [(Str.ofString "posix", Value.bool true)]) _ _ _); refine' wpAny_le (lex_make ?B ?F ?X ?N ?T ?hx ?_) ?h1 ?h2 ?h3 ?h4 ?h5; (case h1 => exact rfl); (case h3 => exact rfl); (case h4 => exact rfl); (case h2 => exact Nat.le_of_ble_eq_true rfl); (case h5 => exact Nat.le_of_ble_eq_true rfl); (case B => k_asm); (case F => k_asm); (case X => k_asm); (case N => k_asm); (case T => k_asm); (case hx => assumption); k_whole; intro lx' ld' io' d' pb' fs' h' tk' T9' us' ul' ut' t1' t2' t3' u3' F' N' l1 l2 l3 l4 l5 l6; (have lq' : LexLt _ _ _ _ _ _ _ := ⟨l1, l2, l3, l4, l5, l6⟩); (try k_lt l1); (try k_lt2 l2); (try k_lt2 l3); (try k_lt2 l4); (try k_lt2 l5); (try k_lt2 l6); (try k_sweep))))
local macro_rules | `(tactic| walk_at "call ref") => `(tactic| (k_here; (with_reducible show wpAny _ _ (call (Value.ref 734) _) _ _ _); k_dflt (refine wpAny_call ?_; kts_go)))
local macro_rules | `(tactic| walk_at "call type:list") => `(tactic| (k_here; k_dflt ((show wpAny _ _ (call (Value.type "list") [Value.ref _]) _ _ _); refine' wpAny_le (list_lex2 ?B ?F ?X ?N ?T ?XB ?TB ?D ?hx ?hal ?q ?_ ?_) ?h1 ?h2 ?h3 ?h4 ?h5; (case h1 => exact rfl); (case h3 => exact rfl); (case h4 => exact rfl); (case h2 => exact Nat.le_of_ble_eq_true rfl); (case h5 => exact Nat.le_of_ble_eq_true rfl); (case B => k_asm); (case F => k_asm); (case X => k_asm); (case N => k_asm); (case T => k_asm); (case XB => assumption); (case TB => assumption); (case D => assumption); (case hx => assumption); (case hal => assumption); (case q => assumption); all_goals (refine stop_of ?_))))
theorem ls_c {w : World} {mean : ExcName → Option Value} {mg mb : Str → Option Value} {gd : Option (List Code)} {cn : Str} {nm : List (Str × NameKind)} {gn co : Bool} {mo : List (Str × Const)} {a : Addr} {ccd : Value} {A₀ : Around} {base h₀ : Heap} {L : Addr} {m : Str → Option Value} {s : Shared} {Q E : Value → Shared → Prop}
   {l : List Nat} {t : Tok} {rest : List (Addr × Obj)}
   (B : Below A₀ base [] h₀) (F : Fr h₀ L s.heap m) (X : (Mine.hd.heap_1 w.params).In h₀) (N : News h₀ L s.heap (rest)) (T : Top vq (looseW vq vl) mean mg mb h₀)
   (XB : (Mine.hd.heap_1 w.params).In base) (TB : Top vq (looseW vq vl) mean mg mb base) (hx : l.length ≤ 400) (hal : ∀ c ∈ l, alph c)
   (r1 : ∀ ws, sp (l.length + 1) l = .ok ws → ∀ S h' tk vs c', Fr h₀ L h' m → News h₀ L h' ((S, listOf vs.toArray c') :: rest) → SV vs ws → vs.length ≤ 400 → (∀ p ∈ rest, p.1 < S) → Q (.ref S) { s with heap := h', toks := tk })
   (r2 : ∀ msg, sp (l.length + 1) l = .error msg → ∀ h' tk u, Fr h₀ L h' m → News h₀ L h' rest → Q (.str (Str.ofString msg) u) { s with heap := h', toks := tk }) :
   wpAny (model pr w) (ktrTop 480 2900 gd cn ⟨.function, nm, gn, co, mo⟩ L a ccd [] []) (call (.ref 802) [.str ⟨l.toArray⟩ t]) Q E s := by
  w_on
  have hfill : PySem.Challenge.rw_nq0227_01 = PySem.Challenge.rw_nq0227_01 ∧ Mine.hd.heap_1 = Mine.hd.heap_1 := by
    k_fill
    exact ⟨rfl, rfl⟩
  clear hfill
  have hxl : (⟨l.toArray⟩ : Str).length ≤ 1000 := by show l.toArray.size ≤ _; simp; omega
  refine wpAny_call ?_
  k_dflt kts_go
  k_steps
  · unfold Stop
    intro ws hws S5 g5 h5 tk5 vs5 c5 T5 F5 N5 B5 X5 P5 D5 sv5 len5 lt5
    (try k_lift B5)
    k_steps
    rename News h₀ _ _ _ => nn
    exact r1 ws hws S5 _ _ vs5 c5 (by k_asm) nn sv5 len5 lt5
  · unfold Stop
    intro msg hm e5 t5 h5 g5 tk5 u5 F5 U5 RS5
    k_steps
    rename News h₀ _ _ _ => nn
    exact r2 msg hm _ _ u5 (by k_asm) (by first | exact nn | (refine news_sub nn ?_; intro p hp; first | exact hp | exact .tail _ hp | exact .tail _ (.tail _ hp)))
end
/- G0 -/
section
set_option maxRecDepth 100000
/-- the tokens of a _netrclex's dict that stay -/
structure NT where
  (b0 b1 b2 b3 vw : Tok)
noncomputable abbrev nrD (w : World) (T : NT) (io pl : Addr) (ln : Int) (ul : Tok) : Obj := dictOf
  [⟨PyData.keyHash w.params "lineno", .str "lineno" T.b0, .int ln ul⟩, ⟨PyData.keyHash w.params "instream", .str "instream" T.b1, .ref io⟩,
   ⟨PyData.keyHash w.params "whitespace", .str "whitespace" T.b2, .str "\n\t\r " T.vw⟩, ⟨PyData.keyHash w.params "pushback", .str "pushback" T.b3, .ref pl⟩] 4
/-- the row that stands at a place -/
noncomputable def lnAt (l : List Nat) (k : Nat) : Int := 1 + ((l.take k).count 10 : Nat)
theorem lnAt_succ {l : List Nat} {k c : Nat} (h : l[k]? = some c) : lnAt l (k + 1) = lnAt l k + (if c = 10 then 1 else 0) := by
  unfold lnAt
  rw [List.take_add_one, h, List.count_append]
  by_cases e : c = 10
  · subst e
    simp
    omega
  · have : List.count 10 [c] = 0 := by
      rw [List.count_eq_zero]
      simp only [List.mem_singleton]
      exact fun z => e z.symm
    simp [e, this]
theorem lnAt_nl {l : List Nat} {k c : Nat} (h : l[k]? = some c) (hc : Cls c [10]) : lnAt l (k + 1) = lnAt l k + 1 := by
  rw [lnAt_succ h, if_pos (List.mem_singleton.mp hc)]
theorem lnAt_no {l : List Nat} {k c : Nat} (h : l[k]? = some c) (hc : c ≠ 10) : lnAt l (k + 1) = lnAt l k := by
  rw [lnAt_succ h, if_neg hc, Int.add_zero]
theorem lnAt_bd {l : List Nat} {k : Nat} (h : k ≤ 400) : 1 ≤ lnAt l k ∧ lnAt l k ≤ 401 := by
  have h1 : (l.take k).count 10 ≤ (l.take k).length := List.count_le_length
  have h2 : (l.take k).length ≤ k := List.length_take_le _ _
  unfold lnAt
  omega
theorem alph_nl {ch : Nat} (h : alph ch) : Cls ch [10] ∨ (Cls ch [97, 32, 34, 39, 92, 98, 35] ∧ ch ≠ 10) := by
  unfold alph at h
  unfold Cls
  rcases h with h | h | h | h | h | h | h | h <;> subst h <;> decide
noncomputable abbrev ledNR (w : World) (T : NT) (l : List Nat) (nr nd io d pl : Addr) (t1 u1 t2 u2 t3 : Tok) (c : Nat) (rest : List (Addr × Obj)) (k : Nat) (ul up : Tok) : List (Addr × Obj) :=
  (nr, instObj 772 nd) :: (nd, nrD w T io pl (lnAt l k) ul) :: (io, instObj 587 d) :: (d, ioD w t1 u1 t2 u2 t3 up ⟨l.toArray⟩ k) :: (pl, listOf #[] c) :: rest
end
/- G1 -/
local macro_rules | `(tactic| walk_at "compareOp In str str") => `(tactic| ((with_reducible show wpAny _ _ (compareOp CmpOp.In (Value.str (stS _) _) (Value.str (Str.ofString _) _)) _ _ _); first | (refine in_lit false (by decide +kernel) ?_) | (refine in_lit true (by decide +kernel) ?_)))
local macro_rules | `(tactic| walk_at "compareOp NotIn str str") => `(tactic| ((with_reducible show wpAny _ _ (compareOp CmpOp.NotIn (Value.str (Str.mk #[_]) _) (Value.str _ _)) _ _ _); (first | (with_reducible refine' nin_cls true ?hc ?h ?_; (case hc => with_reducible assumption); (case h => k_dflt decide +kernel)) | (with_reducible refine' nin_cls false ?hc ?h ?_; (case hc => with_reducible assumption); (case h => k_dflt decide +kernel)) | (with_reducible refine' nin_split ?hc ?_ ?_; (case hc => with_reducible assumption); all_goals intro hcl))))
local macro_rules | `(tactic| walk_at "compareOp In str str") => `(tactic| ((with_reducible show wpAny _ _ (compareOp CmpOp.In (Value.str (Str.ofString _) _) (Value.str (Str.ofString _) _)) _ _ _); first | (refine in_lit false (by decide +kernel) ?_) | (refine in_lit true (by decide +kernel) ?_)))
local macro_rules | `(tactic| walk_at "compareOp In str str") => `(tactic| ((with_reducible show wpAny _ _ (compareOp CmpOp.In (Value.str (Str.mk #[_]) _) (Value.str _ _)) _ _ _); (first | (with_reducible refine' in_cls true ?hc ?h ?_; (case hc => with_reducible assumption); (case h => k_dflt decide +kernel)) | (with_reducible refine' in_cls false ?hc ?h ?_; (case hc => with_reducible assumption); (case h => k_dflt decide +kernel)) | (with_reducible refine' in_split ?hc ?_ ?_; (case hc => with_reducible assumption); all_goals intro hcl))))
local macro_rules | `(tactic| walk_at "compareOp Eq str str") => `(tactic| ((with_reducible show wpAny _ _ (compareOp CmpOp.Eq (Value.str (Str.mk #[_]) _) (Value.str _ _)) _ _ _); (first | (with_reducible refine' eq_cls false ?hc ?h ?_; (case hc => with_reducible assumption); (case h => k_dflt decide +kernel)) | (with_reducible refine' eq_cls true ?hc ?h ?_; (case hc => with_reducible assumption); (case h => k_dflt decide +kernel)) | (with_reducible refine' eq_split ?hc ?_ ?_; (case hc => with_reducible assumption); all_goals intro hcl))))
local macro_rules | `(tactic| walk_at "compareOp NotEq str str") => `(tactic| ((with_reducible show wpAny _ _ (compareOp CmpOp.NotEq (Value.str (Str.mk #[_]) _) (Value.str _ _)) _ _ _); (first | (with_reducible refine' ne_cls true ?hc ?h ?_; (case hc => with_reducible assumption); (case h => k_dflt decide +kernel)) | (with_reducible refine' ne_cls false ?hc ?h ?_; (case hc => with_reducible assumption); (case h => k_dflt decide +kernel)))))
section
set_option maxRecDepth 100000
set_option maxHeartbeats 0
set_option rowWalk.seconds 0
local macro_rules | `(tactic| walk_at "call ref") => `(tactic| (k_here; (with_reducible show wpAny _ _ (call (Value.ref 533) [Value.ref _, Value.int 1 _]) _ _ _); k_dflt (refine' wpAny_le (read_34 ?B ?F ?X ?N ?T ?hx ?hp ?hne ?g1 ?g2 ?hr ?_ ?_) ?h1 ?h2 ?h3 ?h4 ?h5; (case h1 => exact rfl); (case h3 => exact rfl); (case h4 => exact rfl); (case h2 => exact Nat.le_of_ble_eq_true rfl); (case h5 => exact Nat.le_of_ble_eq_true rfl); (case B => k_asm); (case F => k_asm); (case X => k_asm); (case N => k_asm); (case T => k_asm); (case hx => assumption); (case hp => assumption); (case hne => assumption); (case g1 => assumption); (case g2 => assumption); (case hr => first | assumption | (refine List.forall_mem_cons.mpr ⟨?_, ?_⟩ <;> assumption)); intro hn h' tk' t' F' N'; (try k_sweep); rotate_left; (refine stop_of ?_))))
theorem rc_k {w : World} {mean : ExcName → Option Value} {mg mb : Str → Option Value} {gd : Option (List Code)} {cn : Str} {nm : List (Str × NameKind)} {gn co : Bool} {mo : List (Str × Const)} {a : Addr} {ccd : Value} {cl : List (Str × Addr)} {outer : List Env} {A₀ : Around} {base h₀ : Heap} {L : Addr} {m : Str → Option Value} {s : Shared} {Q E : Value → Shared → Prop}
   {l : List Nat} {k : Nat} {nr nd io d pl : Addr} {T9 : NT} {t1 u1 t2 u2 t3 ul up : Tok} {cc : Nat} {rest : List (Addr × Obj)}
   (B : Below A₀ base outer h₀) (F : Fr h₀ L s.heap m) (X : (Mine.hd.heap_1 w.params).In h₀) (N : News h₀ L s.heap ((nr, instObj 772 nd) :: (nd, nrD w T9 io pl (lnAt l k) ul) :: (io, instObj 587 d) :: (d, ioD w t1 u1 t2 u2 t3 up ⟨l.toArray⟩ k) :: (pl, listOf #[] cc) :: rest)) (T : Top vq (looseW vq vl) mean mg mb h₀)
   (hx : l.length ≤ 400) (hal : ∀ c ∈ l, alph c) (hk : k ≤ l.length) (n1 : @Ne Nat nr nd) (n2 : @Ne Nat nr d) (n3 : @Ne Nat nd d) (n4 : @Ne Nat io d) (n5 : @Ne Nat io nd) (n6 : @Ne Nat pl d) (n7 : @Ne Nat pl nd) (hr : ∀ q ∈ rest, q.1 ≠ d) (hr2 : ∀ q ∈ rest, q.1 ≠ nd)
   (r0 : l[k]? = none → ∀ h' tk t' ul' up', Fr h₀ L h' m → News h₀ L h' (ledNR w T9 l nr nd io d pl t1 u1 t2 u2 t3 cc rest k ul' up') → Q (.str (Str.ofString "") t') { s with heap := h', toks := tk })
   (r1 : ∀ c, l[k]? = some c → ∀ h' tk t' ul' up', Fr h₀ L h' m → News h₀ L h' (ledNR w T9 l nr nd io d pl t1 u1 t2 u2 t3 cc rest (k + 1) ul' up') → Q (.str ⟨#[c]⟩ t') { s with heap := h', toks := tk }) :
   codeAny (model pr w) (ktrTop 640 4400 gd cn ⟨.function, nm, gn, co, mo⟩ L a ccd cl outer) (.call (.ref 755) ⟨[.ref nr], []⟩) (fun r s' => match r with | .ok (.ret v) => Q v s' | .ok _ => False | .error e => E e s') s := by
  w_on
  have hfill : PySem.Challenge.rw_nq0227_01 = PySem.Challenge.rw_nq0227_01 ∧ Mine.hd.heap_1 = Mine.hd.heap_1 := by
    k_fill
    exact ⟨rfl, rfl⟩
  clear hfill
  k_dflt k_enter
  have hx' : l.length ≤ 1000 := by omega
  have hlb := lnAt_bd (l := l) (k := k) (by omega)
  k_steps
  · unfold Stop
    intro ch hc h5 tk5 t5 u5 F5 N5
    (try k_sweep)
    rcases alph_nl (hal _ (List.mem_of_getElem? hc)) with hcl | ⟨hcl, hne⟩ <;> k_steps
    · rename News h₀ _ _ _ => nn
      rw [← lnAt_nl hc hcl] at nn
      exact r1 ch hc _ _ _ _ _ (by k_asm) nn
    · rename News h₀ _ _ _ => nn
      rw [← lnAt_no hc hne] at nn
      exact r1 ch hc _ _ _ _ _ (by k_asm) nn
  · rename News h₀ _ _ _ => nn
    exact r0 (by assumption) _ _ _ _ _ (by k_asm) nn
theorem rc_c {w : World} {mean : ExcName → Option Value} {mg mb : Str → Option Value} {gd : Option (List Code)} {cn : Str} {nm : List (Str × NameKind)} {gn co : Bool} {mo : List (Str × Const)} {a : Addr} {ccd : Value} {cl : List (Str × Addr)} {outer : List Env} {A₀ : Around} {base h₀ : Heap} {L : Addr} {m : Str → Option Value} {s : Shared} {Q E : Value → Shared → Prop}
   {l : List Nat} {k : Nat} {nr nd io d pl : Addr} {T9 : NT} {t1 u1 t2 u2 t3 ul up : Tok} {cc : Nat} {rest : List (Addr × Obj)}
   (B : Below A₀ base outer h₀) (F : Fr h₀ L s.heap m) (X : (Mine.hd.heap_1 w.params).In h₀) (N : News h₀ L s.heap ((nr, instObj 772 nd) :: (nd, nrD w T9 io pl (lnAt l k) ul) :: (io, instObj 587 d) :: (d, ioD w t1 u1 t2 u2 t3 up ⟨l.toArray⟩ k) :: (pl, listOf #[] cc) :: rest)) (T : Top vq (looseW vq vl) mean mg mb h₀)
   (hx : l.length ≤ 400) (hal : ∀ c ∈ l, alph c) (hk : k ≤ l.length) (n1 : @Ne Nat nr nd) (n2 : @Ne Nat nr d) (n3 : @Ne Nat nd d) (n4 : @Ne Nat io d) (n5 : @Ne Nat io nd) (n6 : @Ne Nat pl d) (n7 : @Ne Nat pl nd) (hr : ∀ q ∈ rest, q.1 ≠ d) (hr2 : ∀ q ∈ rest, q.1 ≠ nd)
   (r0 : l[k]? = none → ∀ h' tk t' ul' up', Fr h₀ L h' m → News h₀ L h' (ledNR w T9 l nr nd io d pl t1 u1 t2 u2 t3 cc rest k ul' up') → Q (.str (Str.ofString "") t') { s with heap := h', toks := tk })
   (r1 : ∀ c, l[k]? = some c → ∀ h' tk t' ul' up', Fr h₀ L h' m → News h₀ L h' (ledNR w T9 l nr nd io d pl t1 u1 t2 u2 t3 cc rest (k + 1) ul' up') → Q (.str ⟨#[c]⟩ t') { s with heap := h', toks := tk }) :
   wpAny (model pr w) (ktrTop 640 4400 gd cn ⟨.function, nm, gn, co, mo⟩ L a ccd cl outer) (call (.ref 755) [.ref nr]) Q E s :=
  wpAny_call (rc_k B F X N T hx hal hk n1 n2 n3 n4 n5 n6 n7 hr hr2 r0 r1)
end
/- G2 -/
section
set_option maxRecDepth 100000
set_option maxHeartbeats 4000000
theorem codeAny_le {M : Model} {A A' : Around} {c : Code} {R : Result → Shared → Prop} {s : Shared} (h : codeAny M A c R s) (h1 : A'.handled = A.handled) (h2 : A'.depth ≤ A.depth) (h3 : A'.frames = A.frames) (h4 : A'.guards = A.guards) (h5 : A'.units ≤ A.units) : codeAny M A' c R s :=
  fun Γ p hc hΓ => h Γ p hc ⟨hΓ.1.trans h1, Nat.le_trans hΓ.2.1 h2, fun l hl => hΓ.2.2.1 l (h3.trans hl), fun g hg => hΓ.2.2.2.1 g (h4.trans hg), Nat.le_trans hΓ.2.2.2.2 h5⟩
theorem wpAny_callBorrowed {M : Model} {A : Around} {E : Value → Shared → Prop} {s : Shared} {f : Value} {pos : List Value} {Q : Value → Shared → Prop}
    (hc : codeAny M A (.call f ⟨pos, []⟩) (fun r s' => match r with | .ok (.ret v) => Q v s' | .ok _ => False | .error e => E e s') s) : wpAny M A (callBorrowed f pos) Q E s := fun Γ p hΓ => by
  have h := hc (Γ.enter (.call f ⟨pos, []⟩) none p) p rfl (hΓ.enter (.call f ⟨pos, []⟩) none p (by intro x; cases x))
  show wpCode M (Γ.enter (.call f ⟨pos, []⟩) none p) _ p s
  have e : (fun (r : Result) (s' : Shared) => match r with | .ok (.ret v) => Q v s' | .ok _ => False | .error e => E e s') = (fun (r : Result) (s' : Shared) => Sem.wp M Γ (match r with | .ok (.ret v) => Sem.pure v | .ok _ => Sem.unsupported "internal:call-without-return-value" | .error e => Sem.raise e) (fun a _ s' => Q a s') (fun e _ s' => E e s') p s') := by
    funext r s'
    cases r with
    | error e => rfl
    | ok f => cases f <;> rfl
  rw [e] at h
  exact h
noncomputable abbrev ciA (mt : Addr) (u : Tok) : Obj := { cls := .type "callable_iterator", data := .fields #[.ref mt, .str (Str.ofString "") u, .bool false] }
noncomputable abbrev ciE : Obj := { cls := .type "callable_iterator", data := .fields #[.none, .none, .bool true] }
theorem slot_ci_next : Slot "callable_iterator" "__next__" "callable_iterator.__next__" :=
  .of (owner := "callable_iterator") (n := "__next__") (by rw [typeLookup_type, builtinLookup_eq_fast]; kernel_rfl) (by decide +kernel) (by decide +kernel) (by decide +kernel)
    (by first | exact .inl (by decide +kernel) | exact .inr (by decide +kernel)) (by rw [isSubtype_type]; kernel_rfl)
theorem entry_ci_next : entryFor table "callable_iterator.__next__" = some Builtin.«callable_iterator.__next__» := entryFor_of_tree (by kernel_rfl)
theorem args_ci_next (a : Value) : argsOk "callable_iterator.__next__" ⟨[a], []⟩ := by unfold argsOk; kernel_rfl
end
/- G3 -/
section
set_option maxRecDepth 100000
set_option maxHeartbeats 4000000
open Builtin
section
variable {prog : Program} {w : World} {A : Around} {E : Value → Shared → Prop} {s : Shared}
/-- the call out of the slot -/
theorem out_of_slot {mt nr f : Addr} {Q : Value → Shared → Prop} {oc : Value} {od : Option Addr} {fd : FuncData} {sl : Array (Option Value)} (hm : s.heap.get? mt = some (methodObj (.ref f) (.ref nr))) (hf : s.heap.get? f = some ⟨oc, od, .func fd, sl⟩)
    (h : codeAny (model prog w) A (.call (.ref f) ⟨[.ref nr], []⟩) (fun r s' => match r with | .ok (.ret v) => Q v s' | .ok _ => False | .error e => E e s') s) : wpAny (model prog w) A (callOutOfASlot (.ref mt)) Q E s := by
  unfold callOutOfASlot borrowsExactly
  refine wpAny_bind ?_
  refine wpAny_bind (wpAny_load hm ?_)
  show wpAny _ _ (load f >>= _) _ _ _
  refine wpAny_bind (wpAny_load hf ?_)
  refine wpAny_pure ?_
  rw [if_pos rfl]
  exact wpAny_callBorrowed (method_call hm h)
theorem lets_go {mt nr f : Addr} {Q : Unit → Shared → Prop} {who : String} {busy : Code → Bool} {oc : Value} {od : Option Addr} {fd : FuncData} {sl : Array (Option Value)} (hm : s.heap.get? mt = some (methodObj (.ref f) (.ref nr))) (hf : s.heap.get? f = some ⟨oc, od, .func fd, sl⟩)
    (h : Q () s) : wpAny (model prog w) A (slotLetsGo who (.ref mt) busy) Q E s := by
  unfold slotLetsGo borrowsExactly
  refine wpAny_bind ?_
  refine wpAny_bind (wpAny_load hm ?_)
  show wpAny _ _ (load f >>= _) _ _ _
  refine wpAny_bind (wpAny_load hf ?_)
  refine wpAny_pure ?_
  exact wpAny_pure h
/-- a StopIteration that a built-in raises -/
theorem stop_it {α : Type} {Q : α → Shared → Prop} (hh : A.handled = none) (h : ∀ h' e, (∀ b o, s.heap.get? b = some o → h'.get? b = some o) → (∃ o, h'.get? e = some o ∧ o.cls = .type "StopIteration") → E (.ref e) { s with heap := h' }) :
    wpAny (model prog w) A (Builtin.SmallTypes.stopIteration : Sem α) Q E s := by
  show wpAny _ _ (newExc (.type "StopIteration") [] >>= _) _ _ _
  refine wpAny_bind ?_
  simp only [newExc, newTuple]
  refine wpAny_bind (wpAny_newObj_type ?_ (by size_fits))
  refine wpAny_bind (m := firstArgMember _ _) (wpAny_of_eq (a := Value.none) (by first | rfl | (simp only [firstArgMember]; rfl)) ?_)
  refine wpAny_newObj_type ?_ (by size_fits)
  simp only [raiseNew]
  refine wpAny_bind (wpAny_handled ?_)
  rw [hh]
  refine wpAny_bind (wpAny_pure (wpAny_throw ?_))
  exact h _ _ (fun b o hb => Heap.get?_push_of_some _ (Heap.get?_push_of_some _ hb)) ⟨_, Heap.get?_push_size _ rfl, rfl⟩
end
end
/- G4 -/
section
set_option maxRecDepth 100000
set_option maxHeartbeats 4000000
open Builtin
section
variable {prog : Program} {w : World} {A : Around} {E : Value → Shared → Prop} {s : Shared} {Q : Option Value → Shared → Prop}
noncomputable def CiAfter (fi mt nr f : Addr) (u : Tok) (Q : Option Value → Shared → Prop) (v : Value) (s' : Shared) : Prop :=
  s'.heap.get? fi = some (ciA mt u) ∧ s'.heap.get? mt = some (methodObj (.ref f) (.ref nr)) ∧ (∃ oc od fd sl, s'.heap.get? f = some ⟨oc, od, .func fd, sl⟩) ∧
  ((∃ c t, v = .str ⟨#[c]⟩ t ∧ Q (some v) s') ∨
   (∃ t, v = .str (Str.ofString "") t ∧ ∀ h', h'.get? fi = some ciE → (∀ b o, b ≠ fi → s'.heap.get? b = some o → h'.get? b = some o) → Q none { s' with heap := h' }))
theorem next_ended {fi : Addr} (hh : A.handled = none) (ho : s.heap.get? fi = some ciE) (h : ∀ h', (∀ b o, s.heap.get? b = some o → h'.get? b = some o) → Q none { s with heap := h' }) : wpAny (model prog w) A (pyNext (.ref fi)) Q E s := by
  have hT : s.TypeIs (.ref fi) "callable_iterator" := ⟨_, ho, rfl⟩
  unfold pyNext
  refine wpAny_bind (wpAny_attempt (wpAny_callSpecial?_slot (name := Str.ofString "__next__") hT slot_ci_next
    (wpAny_call_entry slot_ci_next hT entry_ci_next ?_ (args_ci_next _))))
  show wpAny _ _ (field (.ref fi) 2 >>= _) _ _ s
  refine wpAny_bind (wpAny_field ho rfl (x := .bool true) rfl ?_)
  rw [if_pos (by decide)]
  refine wpAny_bind (wpAny_rule ?_)
  refine wpAny_bind (stop_it hh fun h' e hk he => ?_)
  show wpAny _ _ (isInstance _ _ >>= _) _ _ _
  refine wpAny_bind (wpAny_isInstance (T := "StopIteration") (b := true) he isSubtype_stop ?_)
  exact wpAny_pure (h h' hk)
theorem next_ci {fi mt nr f : Addr} {u : Tok} {oc : Value} {od : Option Addr} {fd : FuncData} {sl : Array (Option Value)} (hh : A.handled = none) (ho : s.heap.get? fi = some (ciA mt u)) (hm : s.heap.get? mt = some (methodObj (.ref f) (.ref nr))) (hf : s.heap.get? f = some ⟨oc, od, .func fd, sl⟩)
    (h : codeAny (model prog w) A.in1 (.call (.ref f) ⟨[.ref nr], []⟩) (fun r s' => match r with | .ok (.ret v) => CiAfter fi mt nr f u Q v s' | .ok _ => False | .error _ => False) s) : wpAny (model prog w) A (pyNext (.ref fi)) Q E s := by
  have hT : s.TypeIs (.ref fi) "callable_iterator" := ⟨_, ho, rfl⟩
  unfold pyNext
  refine wpAny_bind (wpAny_attempt (wpAny_callSpecial?_slot (name := Str.ofString "__next__") hT slot_ci_next
    (wpAny_call_entry slot_ci_next hT entry_ci_next ?_ (args_ci_next _))))
  show wpAny _ _ (field (.ref fi) 2 >>= _) _ _ s
  refine wpAny_bind (wpAny_field ho rfl (x := .bool false) rfl ?_)
  rw [if_neg (by decide)]
  show wpAny _ _ (field (.ref fi) 0 >>= _) _ _ s
  refine wpAny_bind (wpAny_field ho rfl (x := .ref mt) rfl ?_)
  refine wpAny_bind (wpAny_attempt (out_of_slot hm hf (codeAny_mono h fun r s' hr => ?_)))
  rcases r with e | (v | _ | _ | _) <;> first | exact hr.elim | skip
  obtain ⟨k1, k2, ⟨oc', od', fd', sl', k3⟩, k4⟩ := hr
  show wpAny _ _ (field (.ref fi) 2 >>= _) _ _ s'
  refine wpAny_bind (wpAny_field k1 rfl (x := .bool false) rfl ?_)
  rw [if_neg (by decide)]
  show wpAny _ _ (field (.ref fi) 1 >>= _) _ _ s'
  refine wpAny_bind (wpAny_field k1 rfl (x := .str (Str.ofString "") u) rfl ?_)
  rcases k4 with ⟨c, t, rfl, hq⟩ | ⟨t, rfl, hq⟩
  · refine wpAny_bind (wpAny_holding (eqBool_str ?_))
    have e0 : (Str.ofString "" == (⟨#[c]⟩ : Str)) = false := by
      refine beq_eq_false_iff_ne.mpr fun q => ?_
      have := congrArg (fun x : Str => x.cps.size) q
      simp at this
      cases this
    rw [e0, if_pos (by decide)]
    exact wpAny_pure ⟨_, rfl, wpAny_pure hq⟩
  · refine wpAny_bind (wpAny_holding (eqBool_str ?_))
    rw [beq_self_eq_true, if_neg (by decide)]
    refine wpAny_bind (wpAny_rule ?_)
    refine wpAny_bind ?_
    show wpAny _ _ (field (.ref fi) 0 >>= _) _ _ _
    refine wpAny_bind (wpAny_field k1 rfl (x := .ref mt) rfl ?_)
    refine wpAny_bind (lets_go k2 k3 ?_)
    refine wpAny_bind (wpAny_setField k1 rfl (by simp) ?_)
    have g1 := Heap.get?_update_self (Obj.mapFields (·.setIfInBounds 0 Value.none)) k1 rfl
    refine wpAny_bind (wpAny_setField g1 rfl (by simp) ?_)
    have g2 := Heap.get?_update_self (Obj.mapFields (·.setIfInBounds 1 Value.none)) g1 rfl
    refine wpAny_setField g2 rfl (by simp) ?_
    have g3 := Heap.get?_update_self (Obj.mapFields (·.setIfInBounds 2 (Value.bool true))) g2 rfl
    refine stop_it hh fun h' e hk he => ?_
    show wpAny _ _ (isInstance _ _ >>= _) _ _ _
    refine wpAny_bind (wpAny_isInstance (T := "StopIteration") (b := true) he isSubtype_stop ?_)
    refine wpAny_pure (hq h' (hk _ _ g3) fun b o hb hg => hk _ _ ?_)
    rw [Heap.get?_update_other _ _ (Ne.symm hb), Heap.get?_update_other _ _ (Ne.symm hb), Heap.get?_update_other _ _ (Ne.symm hb)]
    exact hg
end
end
/- G5 -/
section
set_option maxRecDepth 100000
set_option maxHeartbeats 4000000
theorem slot_ci_iter : Slot "callable_iterator" "__iter__" "callable_iterator.__iter__" :=
  .of (owner := "callable_iterator") (n := "__iter__") (by rw [typeLookup_type, builtinLookup_eq_fast]; kernel_rfl) (by decide +kernel) (by decide +kernel) (by decide +kernel)
    (by first | exact .inl (by decide +kernel) | exact .inr (by decide +kernel)) (by rw [isSubtype_type]; kernel_rfl)
theorem entry_ci_iter : entryFor table "callable_iterator.__iter__" = some Builtin.«dict_keyiterator.__iter__» := entryFor_alias (id' := "dict_keyiterator.__iter__") (by kernel_rfl) (by first | rfl | decide +kernel | (unfold String.splitOn; simp +decide [String.splitOnAux])) (by decide +kernel) (by kernel_rfl)
theorem args_ci_iter (a : Value) : argsOk "callable_iterator.__iter__" ⟨[a], []⟩ := by unfold argsOk; kernel_rfl
theorem ic_kind : builtinKind "iter" = none := by decide +kernel
theorem ic_plain : plainId "iter" = true := by decide +kernel
theorem ic_args (a b : Value) : argsOk "iter" ⟨[a, b], []⟩ := by unfold argsOk; kernel_rfl
theorem meth_call : typeLookup (.type "method") "__call__" = pure (some (.builtin "method.__call__")) := by rw [typeLookup_type, builtinLookup_eq_fast]; kernel_rfl
section
variable {prog : Program} {w : World} {A : Around} {E : Value → Shared → Prop} {s : Shared}
theorem pyIter_ci {fi : Addr} {Q : Value → Shared → Prop} {o : Obj} (ho : s.heap.get? fi = some o) (hc : o.cls = .type "callable_iterator") (h : Q (.ref fi) s) : wpAny (model prog w) A (pyIter (.ref fi)) Q E s := by
  have hT : s.TypeIs (.ref fi) "callable_iterator" := ⟨o, ho, hc⟩
  refine wpAny_pyIter_slot hT slot_ci_iter (wpAny_call_entry slot_ci_iter hT entry_ci_iter ?_ (args_ci_iter _))
  show wpAny _ _ (ret (.ref fi)) _ _ s
  exact wpAny_pure ⟨_, rfl, "callable_iterator", _, hT, slot_ci_next.lookup, h⟩
theorem iter_ci {h₀ : Heap} {L : Addr} {m : Str → Option Value} {news : List (Addr × Obj)} {mt : Addr} {u : Tok} {fv sv : Value} {Q : Value → Shared → Prop} (F : Fr h₀ L s.heap m) (N : News h₀ L s.heap news) (hm : (mt, methodObj fv sv) ∈ news)
    (h : ∀ fi h', Fr h₀ L h' m → News h₀ L h' ((fi, ciA mt u) :: news) → (∀ p ∈ news, p.1 < fi) → Q (.ref fi) { s with heap := h' }) : wpAny (model prog w) A (call (.builtin "iter") [.ref mt, .str (Str.ofString "") u]) Q E s := by
  refine call_function_entry ic_kind ic_plain kdk_entry_iter (ic_args _ _) ?_
  unfold Builtin.«iter»
  refine wpAny_bind (m := someArgs "iter" 1 2 _) (wpAny_of_eq (a := [Value.ref mt, .str (Str.ofString "") u]) (by first | rfl | kernel_rfl!) ?_)
  have hT : s.TypeIs (.ref mt) "method" := ⟨_, N.get hm, rfl⟩
  refine wpAny_bind (wpAny_specialOf (name := Str.ofString "__call__") hT meth_call ?_)
  rw [if_neg (by decide)]
  refine wpAny_bind (wpAny_rule ?_)
  refine wpAny_bind (wpAny_newObj_type ?_)
  exact wpAny_pure ⟨_, rfl, h _ _ (F.push _) (N.push F _) fun p hp => Heap.lt_size (N p hp).1⟩
end
end
/- G6 -/
section
set_option maxRecDepth 100000
set_option maxHeartbeats 4000000
noncomputable abbrev frN (nr fi : Addr) (tok : List Nat) (ut : Tok) (v : Option Value) : Str → Option Value := fun y => if y = Str.ofString "ch" then v else if y = Str.ofString "token" then some (.str ⟨tok.toArray⟩ ut) else if y = Str.ofString "fiter" then some (.ref fi) else if y = Str.ofString "self" then some (.ref nr) else none
theorem frN_ch {nr fi : Addr} {tok : List Nat} {ut : Tok} {v : Option Value} {x : Value} : (fun y => if y = Str.ofString "ch" then some x else frN nr fi tok ut v y) = frN nr fi tok ut (some x) := by
  funext y
  by_cases h : y = Str.ofString "ch" <;> simp [frN, h]
theorem frN_tok {nr fi : Addr} {tok tok' : List Nat} {ut ut' : Tok} {v : Option Value} : (fun y => if y = Str.ofString "token" then some (Value.str ⟨tok'.toArray⟩ ut') else frN nr fi tok ut v y) = frN nr fi tok' ut' v := by
  funext y
  by_cases h : y = Str.ofString "token"
  · subst h
    have : ¬ (Str.ofString "token" = Str.ofString "ch") := by decide +kernel
    simp [frN, this]
  · simp [frN, h]
theorem news_sub' {h₀ h : Heap} {L : Addr} {a b c1 c2 c3 c4 c5 : Addr × Obj} {rest : List (Addr × Obj)} (N : News h₀ L h (a :: b :: c1 :: c2 :: c3 :: c4 :: c5 :: rest)) : News h₀ L h (c1 :: c2 :: c3 :: c4 :: c5 :: a :: b :: rest) := by
  intro p hp
  refine N p ?_
  simp only [List.mem_cons] at hp ⊢
  rcases hp with h | h | h | h | h | h | h | h <;> simp [h]
/-- a state of netrc's lexer -/
noncomputable def StN (g : Heap) (L : Addr) (s : Shared) (Led : Obj → Nat → Tok → Tok → List (Addr × Obj)) (nr fi : Addr) (ob : Obj) (k : Nat) (tok : List Nat) (s₂ : Shared) : Prop :=
  ∃ h' tk ul up ut v, s₂ = { s with heap := h', toks := tk } ∧ Fr g L h' (frN nr fi tok ut v) ∧ News g L h' (Led ob k ul up)
noncomputable def TurnN (g : Heap) (L : Addr) (s : Shared) (Led : Obj → Nat → Tok → Tok → List (Addr × Obj)) (nr fi : Addr) (obA : Obj) (l : List Nat) (P : Nat → List Nat → Prop) (Pe : List Nat → Prop) (Q : Flow → Shared → Prop) (k : Nat) (f : Flow) (s₂ : Shared) : Prop := match f with
  | .ret v => Q (.ret v) s₂
  | .brk => False
  | _ => (∃ k' tok', k < k' ∧ k' ≤ l.length ∧ P k' tok' ∧ StN g L s Led nr fi obA k' tok' s₂) ∨ (∃ tok', Pe tok' ∧ StN g L s Led nr fi ciE l.length tok' s₂)
theorem for_ci {w : World} {mean : ExcName → Option Value} {mg mb : Str → Option Value} {gd : Option (List Code)} {cn : Str} {nm : List (Str × NameKind)} {mo : List (Str × Const)} {gn co : Bool} {a : Addr} {ccd : Value} {outer : List Env} {A₀ : Around} {base g : Heap} {L : Addr} {s : Shared} {Q : Flow → Shared → Prop} {E : Value → Shared → Prop}
   {l : List Nat} {nr nd io d pl fi mt : Addr} {T9 : NT} {t1 u1 t2 u2 t3 u : Tok} {cc : Nat} {rest : List (Addr × Obj)} {body : List Stmt} {px py pos : Pos} {P : Nat → List Nat → Prop} {Pe : List Nat → Prop} {k₀ : Nat} {tok₀ : List Nat}
   (B : Below A₀ base outer g) (X : (Mine.hd.heap_1 w.params).In g) (T : Top vq (looseW vq vl) mean mg mb g)
   (hx : l.length ≤ 400) (hal : ∀ c ∈ l, alph c) (n1 : @Ne Nat nr nd) (n2 : @Ne Nat nr d) (n3 : @Ne Nat nd d) (n4 : @Ne Nat io d) (n5 : @Ne Nat io nd) (n6 : @Ne Nat pl d) (n7 : @Ne Nat pl nd) (hr : ∀ q ∈ rest, q.1 ≠ d) (hr2 : ∀ q ∈ rest, q.1 ≠ nd)
   (m1 : @Ne Nat fi d) (m2 : @Ne Nat fi nd) (m3 : @Ne Nat mt d) (m4 : @Ne Nat mt nd) (ne5 : nr ≠ fi ∧ nd ≠ fi ∧ io ≠ fi ∧ d ≠ fi ∧ pl ≠ fi ∧ mt ≠ fi ∧ ∀ q ∈ rest, q.1 ≠ fi)
   {A : Around} (a1 : A.handled = none) (a2 : A.depth ≤ 630) (a3 : A.frames = some (envX cn ⟨.function, nm, gn, co, mo⟩ L a ccd [] :: outer)) (a4 : A.guards = gd) (a5 : A.units ≤ 4300)
   (hloc : (envOf cn ⟨.function, nm, gn, co, mo⟩ L a ccd).kindOf (Str.ofString "ch") = some .local) (hloc2 : (envOf cn ⟨.function, nm, gn, co, mo⟩ L a ccd).kindOf (Str.ofString "fiter") = some .local)
   (st : StN g L s (fun ob k ul up => ledNR w T9 l nr nd io d pl t1 u1 t2 u2 t3 cc ((fi, ob) :: (mt, methodObj (.ref 755) (.ref nr)) :: rest) k ul up) nr fi (ciA mt u) k₀ tok₀ s) (hk₀ : k₀ ≤ l.length) (hP : P k₀ tok₀)
   (turn : ∀ k c tok h tk ul up ut t, k < l.length → P k tok → l[k]? = some c → Fr g L h (frN nr fi tok ut (some (.str ⟨#[c]⟩ t))) → News g L h (ledNR w T9 l nr nd io d pl t1 u1 t2 u2 t3 cc ((fi, ciA mt u) :: (mt, methodObj (.ref 755) (.ref nr)) :: rest) (k + 1) ul up) →
     wpAny (model pr w) A (execs body (envOf cn ⟨.function, nm, gn, co, mo⟩ L a ccd)) (TurnN g L s (fun ob k ul up => ledNR w T9 l nr nd io d pl t1 u1 t2 u2 t3 cc ((fi, ob) :: (mt, methodObj (.ref 755) (.ref nr)) :: rest) k ul up) nr fi (ciA mt u) l P Pe Q k) E { s with heap := h, toks := tk })
   (fin : ∀ tok s₂, P l.length tok ∨ Pe tok → StN g L s (fun ob k ul up => ledNR w T9 l nr nd io d pl t1 u1 t2 u2 t3 cc ((fi, ob) :: (mt, methodObj (.ref 755) (.ref nr)) :: rest) k ul up) nr fi ciE l.length tok s₂ → Q .next s₂)
   (hE : PassesOwn (model pr w) A (envOf cn ⟨.function, nm, gn, co, mo⟩ L a ccd) E) :
   wpAny (model pr w) A (exec (.For (.Name (Str.ofString "ch") px) (.Name (Str.ofString "fiter") py) body [] pos) (envOf cn ⟨.function, nm, gn, co, mo⟩ L a ccd)) Q E s := by
  w_on
  have hfill : PySem.Challenge.rw_nq0227_01 = PySem.Challenge.rw_nq0227_01 ∧ Mine.hd.heap_1 = Mine.hd.heap_1 := by
    k_fill
    exact ⟨rfl, rfl⟩
  clear hfill
  have hf : ∃ oc od fd sl, (Mine.hd.heap_1 w.params).lookup 755 = some ⟨oc, od, .func fd, sl⟩ := ⟨_, _, _, _, by k_is⟩
  have mem : ∀ (ob : Obj) (k : Nat) (ul up : Tok), (fi, ob) ∈ ledNR w T9 l nr nd io d pl t1 u1 t2 u2 t3 cc ((fi, ob) :: (mt, methodObj (.ref 755) (.ref nr)) :: rest) k ul up := fun _ _ _ _ => .tail _ (.tail _ (.tail _ (.tail _ (.tail _ (.head _)))))
  have memM : ∀ (ob : Obj) (k : Nat) (ul up : Tok), (mt, methodObj (.ref 755) (.ref nr)) ∈ ledNR w T9 l nr nd io d pl t1 u1 t2 u2 t3 cc ((fi, ob) :: (mt, methodObj (.ref 755) (.ref nr)) :: rest) k ul up := fun _ _ _ _ => .tail _ (.tail _ (.tail _ (.tail _ (.tail _ (.tail _ (.head _))))))
  -- the ledger when the iterator has ended
  have ended : ∀ {h h' : Heap} {k : Nat} {ul up : Tok}, News g L h (ledNR w T9 l nr nd io d pl t1 u1 t2 u2 t3 cc ((fi, ciA mt u) :: (mt, methodObj (.ref 755) (.ref nr)) :: rest) k ul up) → h'.get? fi = some ciE → (∀ b o, b ≠ fi → h.get? b = some o → h'.get? b = some o) →
      News g L h' (ledNR w T9 l nr nd io d pl t1 u1 t2 u2 t3 cc ((fi, ciE) :: (mt, methodObj (.ref 755) (.ref nr)) :: rest) k ul up) := by
    intro h h' k ul up N he hk q hq
    by_cases e : q.1 = fi
    · have hfi := N _ (mem (ciA mt u) k ul up)
      have e2 : q.2 = ciE := by
        simp only [List.mem_cons] at hq
        obtain ⟨e1, e2, e3, e4, e5, e6, e7⟩ := ne5
        rcases hq with rfl | rfl | rfl | rfl | rfl | rfl | rfl | hq
        · exact absurd e e1
        · exact absurd e e2
        · exact absurd e e3
        · exact absurd e e4
        · exact absurd e e5
        · rfl
        · exact absurd e e6
        · exact absurd e (e7 q hq)
      rw [e, e2]
      exact ⟨he, hfi.2⟩
    · have hq' : q ∈ ledNR w T9 l nr nd io d pl t1 u1 t2 u2 t3 cc ((fi, ciA mt u) :: (mt, methodObj (.ref 755) (.ref nr)) :: rest) k ul up := by
        simp only [List.mem_cons] at hq ⊢
        rcases hq with h | h | h | h | h | h | h | h
        · exact .inl h
        · exact .inr (.inl h)
        · exact .inr (.inr (.inl h))
        · exact .inr (.inr (.inr (.inl h)))
        · exact .inr (.inr (.inr (.inr (.inl h))))
        · subst h; exact absurd rfl e
        · exact .inr (.inr (.inr (.inr (.inr (.inr (.inl h))))))
        · exact .inr (.inr (.inr (.inr (.inr (.inr (.inr h))))))
      exact ⟨hk _ _ e (N q hq').1, (N q hq').2⟩
  have frE : ∀ {h h' : Heap} {m : Str → Option Value} {k : Nat} {ul up : Tok}, Fr g L h m → News g L h (ledNR w T9 l nr nd io d pl t1 u1 t2 u2 t3 cc ((fi, ciA mt u) :: (mt, methodObj (.ref 755) (.ref nr)) :: rest) k ul up) → (∀ b o, b ≠ fi → h.get? b = some o → h'.get? b = some o) → Fr g L h' m := by
    intro h h' m k ul up F N hk
    have hfi := N _ (mem (ciA mt u) k ul up)
    refine ⟨?_, fun b o e => hk b o (fun q => by rw [q, hfi.2.2] at e; cases e) (F.keep b o e), F.above⟩
    obtain ⟨o, es, ep, ho, r⟩ := F.ns
    exact ⟨o, es, ep, hk _ _ (fun q => hfi.2.1 q.symm) ho, r⟩
  refine wpAny_For ?_
  obtain ⟨h1, tk1, ul1, up1, ut1, v1, hs1, F1, N1⟩ := st
  have hsh : s.heap = h1 := by rw [hs1]
  have htk : s.toks = tk1 := by rw [hs1]
  refine nameX_L (cl := []) (h₀ := g) (m := frN nr fi tok₀ ut1 v1) (hsh ▸ F1) (v := .ref fi) (by rfl) ?_ rfl hloc2
  refine pyIter_ci (hsh ▸ (N1 _ (mem (ciA mt u) k₀ ul1 up1)).1) rfl ?_
  refine codeAny_forLoop (R := fun r s' => match r with | .ok f => Q f s' | .error e => cameBackBy (model pr w) A (envOf cn ⟨.function, nm, gn, co, mo⟩ L a ccd) E e s')
    (fun n s' => (∃ k tok, k ≤ l.length ∧ P k tok ∧ n = l.length - k + 1 ∧ StN g L s (fun ob k ul up => ledNR w T9 l nr nd io d pl t1 u1 t2 u2 t3 cc ((fi, ob) :: (mt, methodObj (.ref 755) (.ref nr)) :: rest) k ul up) nr fi (ciA mt u) k tok s') ∨
      (∃ tok, Pe tok ∧ n = 0 ∧ StN g L s (fun ob k ul up => ledNR w T9 l nr nd io d pl t1 u1 t2 u2 t3 cc ((fi, ob) :: (mt, methodObj (.ref 755) (.ref nr)) :: rest) k ul up) nr fi ciE l.length tok s')) ?_ (l.length - k₀ + 1) ?_
  · intro n s' hn
    rcases hn with ⟨k, tok, hk, hPk, rfl, h2, tk2, ul2, up2, ut2, v2, rfl, F2, N2⟩ | ⟨tok, hPe, rfl, h2, tk2, ul2, up2, ut2, v2, rfl, F2, N2⟩
    · refine wpAny_passesOwn hE ?_
      obtain ⟨oc, od, fd, sl, hf⟩ := hf
      have hf2 := (X.keeps F2.keep) _ _ hf
      refine next_ci (A := A) a1 (N2 _ (mem (ciA mt u) k ul2 up2)).1 (N2 _ (memM (ciA mt u) k ul2 up2)).1 hf2 ?_
      refine codeAny_le (rc_k (cl := []) (a := a) (ccd := ccd) (outer := outer) (Q := CiAfter fi mt nr 755 u _) (E := fun _ _ => False) B F2 X N2 T hx hal hk n1 n2 n3 n4 n5 n6 n7 (List.forall_mem_cons.mpr ⟨m1, List.forall_mem_cons.mpr ⟨m3, hr⟩⟩) (List.forall_mem_cons.mpr ⟨m2, List.forall_mem_cons.mpr ⟨m4, hr2⟩⟩) ?_ ?_) a1 (by show A.depth ≤ 640; omega) a3 a4 (by show A.units + 1 ≤ 4400; omega)
      · intro hnone h3 tk3 t3' ul3 up3 F3 N3
        have hkl : k = l.length := by have := List.getElem?_eq_none_iff.mp hnone; omega
        subst hkl
        refine ⟨(N3 _ (mem (ciA mt u) _ ul3 up3)).1, (N3 _ (memM (ciA mt u) _ ul3 up3)).1, ⟨_, _, _, _, (X.keeps F3.keep) _ _ hf⟩, .inr ⟨t3', rfl, fun h' he hk' => ?_⟩⟩
        exact wpAny_execs_nil (fin tok _ (.inl hPk) ⟨h', tk3, ul3, up3, ut2, v2, rfl, frE F3 N3 hk', ended N3 he hk'⟩)
      · intro c hc h3 tk3 t3' ul3 up3 F3 N3
        refine ⟨(N3 _ (mem (ciA mt u) _ ul3 up3)).1, (N3 _ (memM (ciA mt u) _ ul3 up3)).1, ⟨_, _, _, _, (X.keeps F3.keep) _ _ hf⟩, .inl ⟨c, t3', rfl, ?_⟩⟩
        have hlt : k < l.length := by
          rcases Nat.lt_or_ge k l.length with q | q
          · exact q
          · rw [List.getElem?_eq_none_iff.mpr q] at hc; cases hc
        refine wpAny_passesOwn hE (wpAny_assign_Name (stN F3 N3 (fun h4 F4 N4 => ?_) rfl hloc))
        rw [frN_ch] at F4
        refine wpAny_passesOwn hE (wpAny_mono (turn k c tok h4 _ ul3 up3 ut2 t3' hlt hPk hc F4 N4) (fun f s₃ h₃ => ?_) fun _ _ z => z)
        cases f with
        | next =>
          rcases h₃ with ⟨k', tok', q1, q2, q3, q4⟩ | ⟨tok', q1, q2⟩
          · exact ⟨l.length - k' + 1, by omega, .inl ⟨k', tok', q2, q3, rfl, q4⟩⟩
          · exact ⟨0, by omega, .inr ⟨tok', q1, rfl, q2⟩⟩
        | cont =>
          rcases h₃ with ⟨k', tok', q1, q2, q3, q4⟩ | ⟨tok', q1, q2⟩
          · exact ⟨l.length - k' + 1, by omega, .inl ⟨k', tok', q2, q3, rfl, q4⟩⟩
          · exact ⟨0, by omega, .inr ⟨tok', q1, rfl, q2⟩⟩
        | brk => exact h₃.elim
        | ret v => exact h₃
    · refine wpAny_passesOwn hE ?_
      refine next_ended (A := A) a1 (N2 _ (mem ciE _ ul2 up2)).1 fun h' hk' => ?_
      exact wpAny_execs_nil (fin tok _ (.inr hPe) ⟨h', tk2, ul2, up2, ut2, v2, rfl, F2.keeps hk', N2.grown hk'⟩)
  · exact .inl ⟨k₀, tok₀, hk₀, hP, rfl, h1, tk1, ul1, up1, ut1, v1, hs1, F1, N1⟩
end
/- G65 -/
section
set_option maxRecDepth 100000
set_option maxHeartbeats 4000000
noncomputable def CiLt (news : List (Addr × Obj)) (fi : Addr) : Prop := ∀ p ∈ news, @LT.lt Nat _ p.1 fi
theorem ci_facts {w : World} {g h : Heap} {L nr nd io d pl fi mt : Addr} {T9 : NT} {l : List Nat} {t1 u1 t2 u2 t3 u ul up : Tok} {cc k : Nat} {rest : List (Addr × Obj)}
    (N : News g L h ((fi, ciA mt u) :: (mt, methodObj (.ref 755) (.ref nr)) :: (nr, instObj 772 nd) :: (nd, nrD w T9 io pl (lnAt l k) ul) :: (io, instObj 587 d) :: (d, ioD w t1 u1 t2 u2 t3 up ⟨l.toArray⟩ k) :: (pl, listOf #[] cc) :: rest))
    (lq : CiLt ((mt, methodObj (.ref 755) (.ref nr)) :: (nr, instObj 772 nd) :: (nd, nrD w T9 io pl (lnAt l k) ul) :: (io, instObj 587 d) :: (d, ioD w t1 u1 t2 u2 t3 up ⟨l.toArray⟩ k) :: (pl, listOf #[] cc) :: rest) fi) :
    News g L h (ledNR w T9 l nr nd io d pl t1 u1 t2 u2 t3 cc ((fi, ciA mt u) :: (mt, methodObj (.ref 755) (.ref nr)) :: rest) k ul up) ∧ @Ne Nat fi d ∧ @Ne Nat fi nd ∧ @Ne Nat mt d ∧ @Ne Nat mt nd ∧
      (nr ≠ fi ∧ nd ≠ fi ∧ io ≠ fi ∧ d ≠ fi ∧ pl ≠ fi ∧ mt ≠ fi ∧ ∀ q ∈ rest, q.1 ≠ fi) := by
  have e1 := lq _ (.head _)
  have e2 := lq _ (.tail _ (.head _))
  have e3 := lq _ (.tail _ (.tail _ (.head _)))
  have e4 := lq _ (.tail _ (.tail _ (.tail _ (.head _))))
  have e5 := lq _ (.tail _ (.tail _ (.tail _ (.tail _ (.head _)))))
  have e6 := lq _ (.tail _ (.tail _ (.tail _ (.tail _ (.tail _ (.head _))))))
  have e7 : ∀ q ∈ rest, @LT.lt Nat _ q.1 fi := fun q hq => lq q (.tail _ (.tail _ (.tail _ (.tail _ (.tail _ (.tail _ hq))))))
  refine ⟨news_sub' N, Nat.ne_of_gt e5, Nat.ne_of_gt e3, ?_, ?_, Nat.ne_of_lt e2, Nat.ne_of_lt e3, Nat.ne_of_lt e4, Nat.ne_of_lt e5, Nat.ne_of_lt e6, Nat.ne_of_lt e1, fun q hq => Nat.ne_of_lt (e7 q hq)⟩
  · exact News.ne_of_cls N (.tail _ (.head _)) (.tail _ (.tail _ (.tail _ (.tail _ (.tail _ (.head _)))))) (show Value.type "method" ≠ Value.type "dict" by decide)
  · exact News.ne_of_cls N (.tail _ (.head _)) (.tail _ (.tail _ (.tail _ (.head _)))) (show Value.type "method" ≠ Value.type "dict" by decide)
theorem fr_gn {g h : Heap} {L nr fi : Addr} {t : Tok} (F : Fr g L h (fun y => if y = Str.ofString "fiter" then some (.ref fi) else if y = Str.ofString "token" then some (.str (Str.ofString "") t) else List.lookup y [(Str.ofString "self", .ref nr)])) : Fr g L h (frN nr fi [] t none) := by
  have e : (fun y => if y = Str.ofString "fiter" then some (.ref fi) else if y = Str.ofString "token" then some (.str (Str.ofString "") t) else List.lookup y [(Str.ofString "self", .ref nr)]) = frN nr fi [] t none := by
    funext y
    have h0 : (⟨([] : List Nat).toArray⟩ : Str) = Str.ofString "" := by decide
    by_cases h : y = Str.ofString "self"
    · subst h; rfl
    · have : (y == Str.ofString "self") = false := beq_eq_false_iff_ne.mpr h
      by_cases h1 : y = Str.ofString "ch"
      · subst h1; rfl
      · by_cases h2 : y = Str.ofString "fiter"
        · subst h2; rfl
        · simp only [frN, List.lookup, this, if_neg h, if_neg h1, if_neg h2, h0]
  exact e ▸ F
theorem alph_nt {ch : Nat} (h : alph ch) : Cls ch [32, 10] ∨ Cls ch [34] ∨ Cls ch [92] ∨ Cls ch [97, 39, 98, 35] := by
  unfold alph at h
  unfold Cls
  rcases h with h | h | h | h | h | h | h | h <;> subst h <;> decide
theorem alph_nq {ch : Nat} (h : alph ch) : Cls ch [34] ∨ Cls ch [92] ∨ Cls ch [97, 39, 98, 35, 32, 10] := by
  unfold alph at h
  unfold Cls
  rcases h with h | h | h | h | h | h | h | h <;> subst h <;> decide
theorem alph_nb {ch : Nat} (h : alph ch) : Cls ch [32, 10] ∨ Cls ch [92] ∨ Cls ch [97, 39, 98, 35, 34] := by
  unfold alph at h
  unfold Cls
  rcases h with h | h | h | h | h | h | h | h <;> subst h <;> decide
theorem tok_zero (tok : List Nat) : (⟨tok.toArray⟩ : Str) ++ Str.ofString "" = ⟨tok.toArray⟩ := by
  show (⟨tok.toArray ++ #[]⟩ : Str) = _
  simp
end
/- G66 -/
section
set_option maxRecDepth 100000
set_option maxHeartbeats 4000000
theorem frToN {g h : Heap} {L nr fi : Addr} {m' : Str → Option Value} (tok : List Nat) (ut : Tok) (F : Fr g L h m') (h1 : m' (Str.ofString "token") = some (.str ⟨tok.toArray⟩ ut)) (h2 : m' (Str.ofString "fiter") = some (.ref fi)) (h3 : m' (Str.ofString "self") = some (.ref nr))
    (h4 : ∀ z, z ≠ Str.ofString "ch" → z ≠ Str.ofString "token" → z ≠ Str.ofString "fiter" → z ≠ Str.ofString "self" → m' z = none) : Fr g L h (frN nr fi tok ut (m' (Str.ofString "ch"))) := by
  have e : m' = frN nr fi tok ut (m' (Str.ofString "ch")) := by
    funext z
    by_cases a : z = Str.ofString "ch"
    · subst a; rfl
    · by_cases b : z = Str.ofString "token"
      · subst b; rw [h1]; rfl
      · by_cases c : z = Str.ofString "fiter"
        · subst c; rw [h2]; rfl
        · by_cases d : z = Str.ofString "self"
          · subst d; rw [h3]; rfl
          · rw [h4 z a b c d]
            simp only [frN, if_neg a, if_neg b, if_neg c, if_neg d]
  exact e ▸ F
theorem frN_out {nr fi : Addr} {tok : List Nat} {ut : Tok} {v : Option Value} {z : Str} (a : z ≠ Str.ofString "ch") (b : z ≠ Str.ofString "token") (c : z ≠ Str.ofString "fiter") (d : z ≠ Str.ofString "self") : frN nr fi tok ut v z = none := by
  simp only [frN, if_neg a, if_neg b, if_neg c, if_neg d]
section
variable {M : Model} {A : Around} {E : Value → Shared → Prop} {s : Shared} {env : Env} {Q : Flow → Shared → Prop}
theorem split_q (QR : Flow → Shared → Prop) (QN : Shared → Prop) {t : Sem Flow} (hr : ∀ f s', QR f s' → Q f s') (hn : ∀ s', QN s' → Q .next s') (h : wpAny M A t (fun f s' => (f = .next ∧ QN s') ∨ QR f s') E s) : wpAny M A t Q E s :=
  wpAny_mono h (fun f s' q => by
    rcases q with ⟨rfl, q⟩ | q
    · exact hn s' q
    · exact hr f s' q) fun _ _ z => z
theorem with_inner (C1 C2 : Around → Env → List Stmt → Prop) {S1 S2 S3 : Stmt} {c : Expr} {t1 t2 i1 i2 : Expr} {body1 body2 : List Stmt} {p p1 p2 : Pos} (h1 : C1 A env body1) (h2 : C2 A env body2)
    (h : C1 A env body1 → C2 A env body2 → wpAny M A (execs [S1, .If c [.For t1 i1 body1 [] p1] [S2, S3, .For t2 i2 body2 [] p2] p] env) Q E s) : wpAny M A (execs [S1, .If c [.For t1 i1 body1 [] p1] [S2, S3, .For t2 i2 body2 [] p2] p] env) Q E s := h h1 h2
end
/-- what a return from within hands on -/
noncomputable def RetN (g : Heap) (L : Addr) (s : Shared) (Led : Obj → Nat → Tok → Tok → List (Addr × Obj)) (nr fi : Addr) (obA : Obj) (l : List Nat) (R : List Nat × List Nat) (f : Flow) (s₂ : Shared) : Prop :=
  ∃ t' k', f = .ret (.str ⟨R.1.toArray⟩ t') ∧ k' ≤ l.length ∧ l.drop k' = R.2 ∧ R.1.length ≤ 400 ∧ StN g L s Led nr fi obA k' R.1 s₂
noncomputable def EndN (g : Heap) (L : Addr) (s : Shared) (Led : Obj → Nat → Tok → Tok → List (Addr × Obj)) (nr fi : Addr) (l : List Nat) (R : List Nat × List Nat) (s₂ : Shared) : Prop :=
  ∃ tok, R = (tok, []) ∧ tok.length ≤ 400 ∧ StN g L s Led nr fi ciE l.length tok s₂
section
variable {g : Heap} {L : Addr} {s : Shared} {Led : Obj → Nat → Tok → Tok → List (Addr × Obj)} {nr fi : Addr} {obA : Obj} {l : List Nat} {P : Nat → List Nat → Prop} {Pe : List Nat → Prop} {Q : Flow → Shared → Prop} {k : Nat} {s₂ : Shared}
theorem turnN_next {k' : Nat} {tok' : List Nat} (h1 : k < k') (h2 : k' ≤ l.length) (h3 : P k' tok') (h4 : StN g L s Led nr fi obA k' tok' s₂) : TurnN g L s Led nr fi obA l P Pe Q k .next s₂ := .inl ⟨k', tok', h1, h2, h3, h4⟩
theorem turnN_cont {k' : Nat} {tok' : List Nat} (h1 : k < k') (h2 : k' ≤ l.length) (h3 : P k' tok') (h4 : StN g L s Led nr fi obA k' tok' s₂) : TurnN g L s Led nr fi obA l P Pe Q k .cont s₂ := .inl ⟨k', tok', h1, h2, h3, h4⟩
theorem turnN_end {tok' : List Nat} (h1 : Pe tok') (h2 : StN g L s Led nr fi ciE l.length tok' s₂) : TurnN g L s Led nr fi obA l P Pe Q k .next s₂ := .inr ⟨tok', h1, h2⟩
end
end
/- G7 -/
section
set_option maxRecDepth 100000
set_option maxHeartbeats 0
set_option rowWalk.seconds 0
local macro_rules | `(tactic| walk_at "call builtin:iter") => `(tactic| (k_here; k_dflt ((show wpAny _ _ (call (Value.builtin "iter") [Value.ref _, Value.str _ _]) _ _ _); refine' iter_ci ?F ?N ?q ?_; (case F => k_asm); (case N => k_asm); (case q => k_mem); k_whole; intro fi' h' F' N' l1; (have lq' : CiLt _ _ := l1); (try k_lt l1); (try k_sweep))))
local macro_rules | `(tactic| walk_at "call ref") => `(tactic| (k_here; (with_reducible show wpAny _ _ (call (Value.ref 755) _) _ _ _); k_dflt ((show wpAny _ _ (call (Value.ref 755) [Value.ref _]) _ _ _); refine' wpAny_le (rc_c ?B ?F ?X ?N ?T ?hx ?hal ?hk ?n1 ?n2 ?n3 ?n4 ?n5 ?n6 ?n7 ?hr ?hr2 ?_ ?_) ?h1 ?h2 ?h3 ?h4 ?h5; (case h1 => exact rfl); (case h3 => exact rfl); (case h4 => exact rfl); (case h2 => exact Nat.le_of_ble_eq_true rfl); (case h5 => exact Nat.le_of_ble_eq_true rfl); (case B => k_asm); (case F => k_asm); (case X => k_asm); (case N => k_asm); (case T => k_asm); (case hx => assumption); (case hal => assumption); (case hk => first | assumption | omega); (case n1 => assumption); (case n2 => assumption); (case n3 => assumption); (case n4 => assumption); (case n5 => assumption); (case n6 => assumption); (case n7 => assumption); (case hr => refine List.forall_mem_cons.mpr ⟨?_, List.forall_mem_cons.mpr ⟨?_, ?_⟩⟩ <;> assumption); (case hr2 => refine List.forall_mem_cons.mpr ⟨?_, List.forall_mem_cons.mpr ⟨?_, ?_⟩⟩ <;> assumption); all_goals (refine stop_of ?_))))
local macro_rules | `(tactic| walk_at "exec For") => `(tactic| refine stop_of ?_)
local macro_rules | `(tactic| walk_at "exec For Name Name cons nil") => `(tactic| refine stop_of ?_)
theorem news_x2 {h₀ h : Heap} {L : Addr} {a b c d e x y : Addr × Obj} {rest : List (Addr × Obj)} (N : News h₀ L h (a :: b :: c :: d :: e :: x :: y :: rest)) : News h₀ L h (a :: b :: c :: d :: e :: rest) := by
  intro p hp
  rcases List.mem_cons.mp hp with rfl | hp
  · exact N _ (.head _)
  rcases List.mem_cons.mp hp with rfl | hp
  · exact N _ (.tail _ (.head _))
  rcases List.mem_cons.mp hp with rfl | hp
  · exact N _ (.tail _ (.tail _ (.head _)))
  rcases List.mem_cons.mp hp with rfl | hp
  · exact N _ (.tail _ (.tail _ (.tail _ (.head _))))
  rcases List.mem_cons.mp hp with rfl | hp
  · exact N _ (.tail _ (.tail _ (.tail _ (.tail _ (.head _)))))
  exact N _ (.tail _ (.tail _ (.tail _ (.tail _ (.tail _ (.tail _ (.tail _ hp)))))))
theorem nqA {c : Nat} {tok r : List Nat} (hcl : Cls c [34]) : nq false tok (c :: r) = (tok, r) := by
  simp only [Cls, List.mem_cons, List.not_mem_nil, or_false] at hcl; subst hcl; simp [nq, nb, nt, wsp]
theorem nqB {c : Nat} {tok : List Nat} (hcl : Cls c [92]) : nq false tok [] = nq false tok [c] := by
  simp only [Cls, List.mem_cons, List.not_mem_nil, or_false] at hcl; subst hcl; simp [nq, nb, nt, wsp]
theorem nqC {c : Nat} {d : Nat} {tok r : List Nat} (hcl : Cls c [92]) : nq false (tok ++ [d]) r = nq false tok (c :: d :: r) := by
  simp only [Cls, List.mem_cons, List.not_mem_nil, or_false] at hcl; subst hcl; simp [nq, nb, nt, wsp]
theorem nqD {c : Nat} {tok r : List Nat} (hcl : Cls c [97, 39, 98, 35, 32, 10]) : nq false (tok ++ [c]) r = nq false tok (c :: r) := by
  simp only [Cls, List.mem_cons, List.not_mem_nil, or_false] at hcl; rcases hcl with rfl | rfl | rfl | rfl | rfl | rfl <;> simp [nq, nb, nt, wsp]
theorem nbA {c : Nat} {tok r : List Nat} (hcl : Cls c [32, 10]) : nb false tok (c :: r) = (tok, r) := by
  simp only [Cls, List.mem_cons, List.not_mem_nil, or_false] at hcl; rcases hcl with rfl | rfl <;> simp [nq, nb, nt, wsp]
theorem nbB {c : Nat} {tok : List Nat} (hcl : Cls c [92]) : nb false tok [] = nb false tok [c] := by
  simp only [Cls, List.mem_cons, List.not_mem_nil, or_false] at hcl; subst hcl; simp [nq, nb, nt, wsp]
theorem nbC {c : Nat} {d : Nat} {tok r : List Nat} (hcl : Cls c [92]) : nb false (tok ++ [d]) r = nb false tok (c :: d :: r) := by
  simp only [Cls, List.mem_cons, List.not_mem_nil, or_false] at hcl; subst hcl; simp [nq, nb, nt, wsp]
theorem nbD {c : Nat} {tok r : List Nat} (hcl : Cls c [97, 39, 98, 35, 34]) : nb false (tok ++ [c]) r = nb false tok (c :: r) := by
  simp only [Cls, List.mem_cons, List.not_mem_nil, or_false] at hcl; rcases hcl with rfl | rfl | rfl | rfl | rfl <;> simp [nq, nb, nt, wsp]
theorem ntA {c : Nat} {r : List Nat} (hcl : Cls c [32, 10]) : nt r = nt (c :: r) := by
  simp only [Cls, List.mem_cons, List.not_mem_nil, or_false] at hcl; rcases hcl with rfl | rfl <;> simp [nq, nb, nt, wsp]
theorem ntQ {c : Nat} {r : List Nat} (hcl : Cls c [34]) : nq false [] r = nt (c :: r) := by
  simp only [Cls, List.mem_cons, List.not_mem_nil, or_false] at hcl; subst hcl; simp [nq, nb, nt, wsp]
theorem ntB {c : Nat} (hcl : Cls c [92]) : nb false [] [] = nt [c] := by
  simp only [Cls, List.mem_cons, List.not_mem_nil, or_false] at hcl; subst hcl; simp [nq, nb, nt, wsp]
theorem ntC {c : Nat} {d : Nat} {r : List Nat} (hcl : Cls c [92]) : nb false [d] r = nt (c :: d :: r) := by
  simp only [Cls, List.mem_cons, List.not_mem_nil, or_false] at hcl; subst hcl; simp [nq, nb, nt, wsp]
theorem ntD {c : Nat} {r : List Nat} (hcl : Cls c [97, 39, 98, 35]) : nb false [c] r = nt (c :: r) := by
  simp only [Cls, List.mem_cons, List.not_mem_nil, or_false] at hcl; rcases hcl with rfl | rfl | rfl | rfl <;> simp [nq, nb, nt, wsp]
theorem gn_c {w : World} {mean : ExcName → Option Value} {mg mb : Str → Option Value} {gd : Option (List Code)} {cn : Str} {nm : List (Str × NameKind)} {gn co : Bool} {mo : List (Str × Const)} {a : Addr} {ccd : Value} {cl : List (Str × Addr)} {outer : List Env} {A₀ : Around} {base h₀ : Heap} {L : Addr} {m : Str → Option Value} {s : Shared} {Q E : Value → Shared → Prop}
   {l : List Nat} {k : Nat} {nr nd io d pl : Addr} {T9 : NT} {t1 u1 t2 u2 t3 ul up : Tok} {cc : Nat} {rest : List (Addr × Obj)}
   (B : Below A₀ base outer h₀) (F : Fr h₀ L s.heap m) (X : (Mine.hd.heap_1 w.params).In h₀) (N : News h₀ L s.heap ((nr, instObj 772 nd) :: (nd, nrD w T9 io pl (lnAt l k) ul) :: (io, instObj 587 d) :: (d, ioD w t1 u1 t2 u2 t3 up ⟨l.toArray⟩ k) :: (pl, listOf #[] cc) :: rest)) (T : Top vq (looseW vq vl) mean mg mb h₀)
   (hx : l.length ≤ 400) (hal : ∀ c ∈ l, alph c) (hk : k ≤ l.length) (n1 : @Ne Nat nr nd) (n2 : @Ne Nat nr d) (n3 : @Ne Nat nd d) (n4 : @Ne Nat io d) (n5 : @Ne Nat io nd) (n6 : @Ne Nat pl d) (n7 : @Ne Nat pl nd) (hr : ∀ q ∈ rest, q.1 ≠ d) (hr2 : ∀ q ∈ rest, q.1 ≠ nd)
   (r : ∀ wd rs, nt (l.drop k) = (wd, rs) → ∀ h' tk k' ul' up' t', k' ≤ l.length → l.drop k' = rs → wd.length ≤ 400 → Fr h₀ L h' m → News h₀ L h' (ledNR w T9 l nr nd io d pl t1 u1 t2 u2 t3 cc rest k' ul' up') → Q (.str ⟨wd.toArray⟩ t') { s with heap := h', toks := tk }) :
   wpAny (model pr w) (ktrTop 620 4200 gd cn ⟨.function, nm, gn, co, mo⟩ L a ccd cl outer) (call (.ref 762) [.ref nr]) Q E s := by
  w_on
  have hfill : PySem.Challenge.rw_nq0227_01 = PySem.Challenge.rw_nq0227_01 ∧ Mine.hd.heap_1 = Mine.hd.heap_1 := by
    k_fill
    exact ⟨rfl, rfl⟩
  clear hfill
  refine wpAny_call ?_
  k_dflt k_enter
  k_steps
  unfold Stop
  rename CiLt _ _ => lq
  rename News _ _ _ _ => N1
  rename Fr _ _ _ _ => F1
  obtain ⟨N2, m1, m2, m3, m4, ne5⟩ := ci_facts N1 lq
  have F2 := fr_gn F1
  clear N1 F1 lq N
  rename_i g9 L9 h9z FG9 B9 X9 T9x tk9 h9y mt h9b lx1 fi h9a lx2 h9
  clear lx1 lx2
  generalize hR : nt (l.drop k) = R at *
  revert N2
  generalize ({ heap := h9b, gens := _, drawn := _, toks := _, os := _ } : Shared).toks = uu
  intro N2
  refine split_q (RetN g9 L9 s (fun ob k ul up => ledNR w T9 l nr nd io d pl t1 u1 t2 u2 t3 cc ((fi, ob) :: (mt, methodObj (.ref 755) (.ref nr)) :: rest) k ul up) nr fi (ciA mt uu) l R) (EndN g9 L9 s (fun ob k ul up => ledNR w T9 l nr nd io d pl t1 u1 t2 u2 t3 cc ((fi, ob) :: (mt, methodObj (.ref 755) (.ref nr)) :: rest) k ul up) nr fi l R) ?hr ?hn ?_
  case hr =>
    intro f s₂ hq
    obtain ⟨t8, k8, rfl, q1, q2, q3, h8, tk8, ul8, up8, ut8, v8, rfl, F8, N8⟩ := hq
    clear N2 F2
    dsimp only [ledNR] at N8
    dsimp only
    k_steps
    rename News h₀ _ _ _ => nn
    exact r R.1 R.2 rfl _ _ k8 ul8 up8 t8 q1 q2 q3 (by k_asm) (news_x2 nn)
  case hn =>
    intro s₂ hq
    obtain ⟨tok8, q1, q2, h8, tk8, ul8, up8, ut8, v8, rfl, F8, N8⟩ := hq
    clear N2 F2
    dsimp only [ledNR] at N8
    k_steps
    rename News h₀ _ _ _ => nn
    exact r tok8 [] q1 _ _ l.length ul8 up8 ut8 (Nat.le_refl _) List.drop_length q2 (by k_asm) (news_x2 nn)
  refine' for_ci (P := fun k' tok => tok = [] ∧ nt (l.drop k') = R) (Pe := fun tok => R = (tok, []) ∧ tok.length ≤ 400) ?B ?X ?T hx hal n1 n2 n3 n4 n5 n6 n7 hr hr2 m1 m2 m3 m4 ne5 rfl ?a2 rfl rfl ?a5 rfl rfl ⟨_, _, _, _, _, _, rfl, F2, N2⟩ ?hk0 ?hP ?turn ?fin ?hE
  (case B => k_asm)
  (case X => k_asm)
  (case T => k_asm)
  (case a2 => exact Nat.le_of_ble_eq_true rfl)
  (case a5 => exact Nat.le_of_ble_eq_true rfl)
  (case hE => passes_own)
  case hk0 => exact hk
  case hP => exact ⟨rfl, hR⟩
  case fin =>
    intro tok s₂ hp hs
    rcases hp with ⟨rfl, hp⟩ | ⟨hp, hl⟩
    · rw [List.drop_length] at hp
      exact .inl ⟨rfl, [], by rw [← hp]; rfl, Nat.zero_le _, hs⟩
    · exact .inl ⟨rfl, tok, hp, hl, hs⟩
  case turn =>
    intro k1 c tok h3 tk3 ul3 up3 ut3 t3' hlt hP hc F3 N3
    obtain ⟨rfl, hR1⟩ := hP
    clear N2 F2
    dsimp only [ledNR] at N3
    refine with_inner (fun A9 env9 b => ∀ k1 c tok h3 tk3 ul3 up3 ut3 t3', k1 < l.length → (nq false tok (l.drop k1) = R ∧ tok.length ≤ k1) → l[k1]? = some c → Fr g9 L9 h3 (frN nr fi tok ut3 (some (.str ⟨#[c]⟩ t3'))) → News g9 L9 h3 (ledNR w T9 l nr nd io d pl t1 u1 t2 u2 t3 cc ((fi, (ciA mt uu)) :: (mt, methodObj (.ref 755) (.ref nr)) :: rest) (k1 + 1) ul3 up3) → wpAny (model pr w) A9 (execs b env9) (TurnN g9 L9 s (fun ob k ul up => ledNR w T9 l nr nd io d pl t1 u1 t2 u2 t3 cc ((fi, ob) :: (mt, methodObj (.ref 755) (.ref nr)) :: rest) k ul up) nr fi (ciA mt uu) l (fun k1 tok => (nq false tok (l.drop k1) = R ∧ tok.length ≤ k1)) (fun _ => False) (RetN g9 L9 s (fun ob k ul up => ledNR w T9 l nr nd io d pl t1 u1 t2 u2 t3 cc ((fi, ob) :: (mt, methodObj (.ref 755) (.ref nr)) :: rest) k ul up) nr fi (ciA mt uu) l R) k1) ek { s with heap := h3, toks := tk3 }) (fun A9 env9 b => ∀ k1 c tok h3 tk3 ul3 up3 ut3 t3', k1 < l.length → (nb false tok (l.drop k1) = R ∧ tok.length ≤ k1) → l[k1]? = some c → Fr g9 L9 h3 (frN nr fi tok ut3 (some (.str ⟨#[c]⟩ t3'))) → News g9 L9 h3 (ledNR w T9 l nr nd io d pl t1 u1 t2 u2 t3 cc ((fi, (ciA mt uu)) :: (mt, methodObj (.ref 755) (.ref nr)) :: rest) (k1 + 1) ul3 up3) → wpAny (model pr w) A9 (execs b env9) (TurnN g9 L9 s (fun ob k ul up => ledNR w T9 l nr nd io d pl t1 u1 t2 u2 t3 cc ((fi, ob) :: (mt, methodObj (.ref 755) (.ref nr)) :: rest) k ul up) nr fi (ciA mt uu) l (fun k1 tok => (nb false tok (l.drop k1) = R ∧ tok.length ≤ k1)) (fun _ => False) (RetN g9 L9 s (fun ob k ul up => ledNR w T9 l nr nd io d pl t1 u1 t2 u2 t3 cc ((fi, ob) :: (mt, methodObj (.ref 755) (.ref nr)) :: rest) k ul up) nr fi (ciA mt uu) l R) k1) ek { s with heap := h3, toks := tk3 }) ?_ ?_ fun i1 i2 => ?_
    · intro k2 c2 tok2 h4 tk4 ul4 up4 ut4 t4' hlt2 hP2 hc2 F4 N4
      obtain ⟨hq2, hl2⟩ := hP2
      clear N3 F3
      dsimp only [ledNR] at N4
      rw [(drop_at hc2).1] at hq2
      rcases alph_nq (hal _ (List.mem_of_getElem? hc2)) with hcl | hcl | hcl <;> k_steps
      · show RetN g9 L9 s _ nr fi _ l R _ _
        rename News g9 _ _ _ => nn
        have hR2 : R = (tok2, l.drop (k2 + 1)) := by rw [← hq2]; exact nqA hcl
        rw [hR2]
        exact ⟨_, k2 + 1, rfl, hlt2, rfl, by show tok2.length ≤ 400; omega, _, _, _, _, _, _, rfl, (frToN (tok2) _ (by k_asm) rfl rfl rfl (by intro z a b c d; first | exact frN_out a b c d | (simp only [a, b, c, d, if_false]; first | rfl | exact frN_out a b c d))), nn⟩
      · unfold Stop
        intro hn h5 tk5 t5 ul5 up5 F5 N5
        dsimp only [ledNR] at N5
        (try k_sweep)
        have he := (drop_end hn hlt2).1
        k_steps
        show TurnN _ _ _ _ _ _ _ _ _ _ _ _ _ _
        rename News g9 _ _ _ => nn
        refine turnN_next (k' := k2 + 1) (tok' := tok2) (by omega) (by omega) ⟨?_, by first | omega | (simp only [List.length_append, List.length_cons, List.length_nil]; omega)⟩ ⟨_, _, _, _, _, _, rfl, (frToN (tok2) _ (by k_asm) (by rw [← tok_zero]; rfl) rfl rfl (by intro z a b c d; first | exact frN_out a b c d | (simp only [a, b, c, d, if_false]; first | rfl | exact frN_out a b c d))), nn⟩
        rw [← hq2, he]; first | exact nqB hcl | exact nqC hcl
      · unfold Stop
        intro c3 hc3 h5 tk5 t5 ul5 up5 F5 N5
        dsimp only [ledNR] at N5
        (try k_sweep)
        obtain ⟨he, hlt3⟩ := drop_at hc3
        k_steps
        show TurnN _ _ _ _ _ _ _ _ _ _ _ _ _ _
        rename News g9 _ _ _ => nn
        refine turnN_next (k' := k2 + 2) (tok' := tok2 ++ [c3]) (by omega) (by omega) ⟨?_, by first | omega | (simp only [List.length_append, List.length_cons, List.length_nil]; omega)⟩ ⟨_, _, _, _, _, _, rfl, (frToN (tok2 ++ [c3]) _ (by k_asm) (by rw [← tok_one]; rfl) rfl rfl (by intro z a b c d; first | exact frN_out a b c d | (simp only [a, b, c, d, if_false]; first | rfl | exact frN_out a b c d))), nn⟩
        rw [← hq2, he]; first | exact nqB hcl | exact nqC hcl
      · show TurnN _ _ _ _ _ _ _ _ _ _ _ _ _ _
        rename News g9 _ _ _ => nn
        refine turnN_next (k' := k2 + 1) (tok' := tok2 ++ [c2]) (by omega) (by omega) ⟨?_, by first | omega | (simp only [List.length_append, List.length_cons, List.length_nil]; omega)⟩ ⟨_, _, _, _, _, _, rfl, (frToN (tok2 ++ [c2]) _ (by k_asm) (by rw [← tok_one]; rfl) rfl rfl (by intro z a b c d; first | exact frN_out a b c d | (simp only [a, b, c, d, if_false]; first | rfl | exact frN_out a b c d))), nn⟩
        rw [← hq2]; exact nqD hcl
    · intro k2 c2 tok2 h4 tk4 ul4 up4 ut4 t4' hlt2 hP2 hc2 F4 N4
      obtain ⟨hq2, hl2⟩ := hP2
      clear N3 F3
      dsimp only [ledNR] at N4
      rw [(drop_at hc2).1] at hq2
      rcases alph_nb (hal _ (List.mem_of_getElem? hc2)) with hcl | hcl | hcl <;> k_steps
      · show RetN g9 L9 s _ nr fi _ l R _ _
        rename News g9 _ _ _ => nn
        have hR2 : R = (tok2, l.drop (k2 + 1)) := by rw [← hq2]; exact nbA hcl
        rw [hR2]
        exact ⟨_, k2 + 1, rfl, hlt2, rfl, by show tok2.length ≤ 400; omega, _, _, _, _, _, _, rfl, (frToN (tok2) _ (by k_asm) rfl rfl rfl (by intro z a b c d; first | exact frN_out a b c d | (simp only [a, b, c, d, if_false]; first | rfl | exact frN_out a b c d))), nn⟩
      · unfold Stop
        intro hn h5 tk5 t5 ul5 up5 F5 N5
        dsimp only [ledNR] at N5
        (try k_sweep)
        have he := (drop_end hn hlt2).1
        k_steps
        show TurnN _ _ _ _ _ _ _ _ _ _ _ _ _ _
        rename News g9 _ _ _ => nn
        refine turnN_next (k' := k2 + 1) (tok' := tok2) (by omega) (by omega) ⟨?_, by first | omega | (simp only [List.length_append, List.length_cons, List.length_nil]; omega)⟩ ⟨_, _, _, _, _, _, rfl, (frToN (tok2) _ (by k_asm) (by rw [← tok_zero]; rfl) rfl rfl (by intro z a b c d; first | exact frN_out a b c d | (simp only [a, b, c, d, if_false]; first | rfl | exact frN_out a b c d))), nn⟩
        rw [← hq2, he]; first | exact nbB hcl | exact nbC hcl
      · unfold Stop
        intro c3 hc3 h5 tk5 t5 ul5 up5 F5 N5
        dsimp only [ledNR] at N5
        (try k_sweep)
        obtain ⟨he, hlt3⟩ := drop_at hc3
        k_steps
        show TurnN _ _ _ _ _ _ _ _ _ _ _ _ _ _
        rename News g9 _ _ _ => nn
        refine turnN_next (k' := k2 + 2) (tok' := tok2 ++ [c3]) (by omega) (by omega) ⟨?_, by first | omega | (simp only [List.length_append, List.length_cons, List.length_nil]; omega)⟩ ⟨_, _, _, _, _, _, rfl, (frToN (tok2 ++ [c3]) _ (by k_asm) (by rw [← tok_one]; rfl) rfl rfl (by intro z a b c d; first | exact frN_out a b c d | (simp only [a, b, c, d, if_false]; first | rfl | exact frN_out a b c d))), nn⟩
        rw [← hq2, he]; first | exact nbB hcl | exact nbC hcl
      · show TurnN _ _ _ _ _ _ _ _ _ _ _ _ _ _
        rename News g9 _ _ _ => nn
        refine turnN_next (k' := k2 + 1) (tok' := tok2 ++ [c2]) (by omega) (by omega) ⟨?_, by first | omega | (simp only [List.length_append, List.length_cons, List.length_nil]; omega)⟩ ⟨_, _, _, _, _, _, rfl, (frToN (tok2 ++ [c2]) _ (by k_asm) (by rw [← tok_one]; rfl) rfl rfl (by intro z a b c d; first | exact frN_out a b c d | (simp only [a, b, c, d, if_false]; first | rfl | exact frN_out a b c d))), nn⟩
        rw [← hq2]; exact nbD hcl
    · clear hR
      rw [(drop_at hc).1] at hR1
      rcases alph_nt (hal _ (List.mem_of_getElem? hc)) with hcl | hcl | hcl | hcl <;> k_steps
      · show TurnN _ _ _ _ _ _ _ _ _ _ _ _ _ _
        rename News g9 _ _ _ => nn
        refine turnN_cont (k' := k1 + 1) (tok' := []) (by omega) (by omega) ⟨rfl, ?_⟩ ⟨_, _, _, _, _, _, rfl, (frToN ([]) _ (by k_asm) rfl rfl rfl (by intro z a b c d; first | exact frN_out a b c d | (simp only [a, b, c, d, if_false]; first | rfl | exact frN_out a b c d))), nn⟩
        rw [← hR1]; exact ntA hcl
      · unfold Stop
        rename News g9 _ _ _ => nn
        refine wpAny_mono (Q := fun f s' => (f = .next ∧ EndN g9 L9 s (fun ob k ul up => ledNR w T9 l nr nd io d pl t1 u1 t2 u2 t3 cc ((fi, ob) :: (mt, methodObj (.ref 755) (.ref nr)) :: rest) k ul up) nr fi l R s') ∨ RetN g9 L9 s (fun ob k ul up => ledNR w T9 l nr nd io d pl t1 u1 t2 u2 t3 cc ((fi, ob) :: (mt, methodObj (.ref 755) (.ref nr)) :: rest) k ul up) nr fi (ciA mt uu) l R f s') ?_ (fun f s' q => ?_) (fun _ _ z => z)
        · refine' for_ci (P := fun k1 tok => (nq false tok (l.drop k1) = R ∧ tok.length ≤ k1)) (Pe := fun _ => False) ?B ?X ?T hx hal n1 n2 n3 n4 n5 n6 n7 hr hr2 m1 m2 m3 m4 ne5 rfl ?a2 rfl rfl ?a5 rfl rfl ⟨_, _, _, _, _, _, rfl, (frToN ([]) _ (by k_asm) rfl rfl rfl (by intro z a b c d; first | exact frN_out a b c d | (simp only [a, b, c, d, if_false]; first | rfl | exact frN_out a b c d))), nn⟩ ?hk0 ?hP ?turn ?fin ?hE
          (case B => k_asm)
          (case X => k_asm)
          (case T => k_asm)
          (case a2 => exact Nat.le_of_ble_eq_true rfl)
          (case a5 => exact Nat.le_of_ble_eq_true rfl)
          (case hE => passes_own)
          case hk0 => exact (by omega : k1 + 1 ≤ l.length)
          case hP => exact ⟨(by rw [← hR1]; exact ntQ hcl), by first | omega | (simp only [List.length_append, List.length_cons, List.length_nil]; omega)⟩
          case fin =>
            intro tok8 s8 hp8 hs8
            rcases hp8 with hp8 | hp8
            · obtain ⟨hp8, hl8⟩ := hp8
              rw [List.drop_length] at hp8
              exact .inl ⟨rfl, tok8, by rw [← hp8]; rfl, by omega, hs8⟩
            · exact hp8.elim
          case turn =>
            intro k8 c8 tok8 h8 tk8 ul8 up8 ut8 t8 hlt8 hP8 hc8 F8 N8
            refine wpAny_mono (i1 k8 c8 tok8 h8 tk8 ul8 up8 ut8 t8 hlt8 hP8 hc8 F8 N8) (fun f s' q => ?_) (fun _ _ z => z)
            cases f with
            | ret v => exact .inr q
            | brk => exact q
            | next => exact q
            | cont => exact q
        · rcases q with ⟨rfl, tok8, q1, q2, q3⟩ | q
          · repeat (refine wpAny_execs_nil ?_)
            show TurnN _ _ _ _ _ _ _ _ _ _ _ _ _ _
            exact turnN_end ⟨q1, q2⟩ q3
          · obtain ⟨t8, k8, rfl, q⟩ := q
            exact .inr ⟨t8, k8, rfl, q⟩
      · unfold Stop
        intro hn h5 tk5 t5 ul5 up5 F5 N5
        dsimp only [ledNR] at N5
        (try k_sweep)
        have he := (drop_end hn hlt).1
        k_steps
        unfold Stop
        rename News g9 _ _ _ => nn
        refine wpAny_mono (Q := fun f s' => (f = .next ∧ EndN g9 L9 s (fun ob k ul up => ledNR w T9 l nr nd io d pl t1 u1 t2 u2 t3 cc ((fi, ob) :: (mt, methodObj (.ref 755) (.ref nr)) :: rest) k ul up) nr fi l R s') ∨ RetN g9 L9 s (fun ob k ul up => ledNR w T9 l nr nd io d pl t1 u1 t2 u2 t3 cc ((fi, ob) :: (mt, methodObj (.ref 755) (.ref nr)) :: rest) k ul up) nr fi (ciA mt uu) l R f s') ?_ (fun f s' q => ?_) (fun _ _ z => z)
        · refine' for_ci (P := fun k1 tok => (nb false tok (l.drop k1) = R ∧ tok.length ≤ k1)) (Pe := fun _ => False) ?B ?X ?T hx hal n1 n2 n3 n4 n5 n6 n7 hr hr2 m1 m2 m3 m4 ne5 rfl ?a2 rfl rfl ?a5 rfl rfl ⟨_, _, _, _, _, _, rfl, (frToN ([]) _ (by k_asm) (by rw [← tok_zero]; rfl) rfl rfl (by intro z a b c d; first | exact frN_out a b c d | (simp only [a, b, c, d, if_false]; first | rfl | exact frN_out a b c d))), nn⟩ ?hk0 ?hP ?turn ?fin ?hE
          (case B => k_asm)
          (case X => k_asm)
          (case T => k_asm)
          (case a2 => exact Nat.le_of_ble_eq_true rfl)
          (case a5 => exact Nat.le_of_ble_eq_true rfl)
          (case hE => passes_own)
          case hk0 => exact (by omega : k1 + 1 ≤ l.length)
          case hP => exact ⟨(by rw [← hR1, he]; first | exact ntB hcl | exact ntC hcl), by first | omega | (simp only [List.length_append, List.length_cons, List.length_nil]; omega)⟩
          case fin =>
            intro tok8 s8 hp8 hs8
            rcases hp8 with hp8 | hp8
            · obtain ⟨hp8, hl8⟩ := hp8
              rw [List.drop_length] at hp8
              exact .inl ⟨rfl, tok8, by rw [← hp8]; rfl, by omega, hs8⟩
            · exact hp8.elim
          case turn =>
            intro k8 c8 tok8 h8 tk8 ul8 up8 ut8 t8 hlt8 hP8 hc8 F8 N8
            refine wpAny_mono (i2 k8 c8 tok8 h8 tk8 ul8 up8 ut8 t8 hlt8 hP8 hc8 F8 N8) (fun f s' q => ?_) (fun _ _ z => z)
            cases f with
            | ret v => exact .inr q
            | brk => exact q
            | next => exact q
            | cont => exact q
        · rcases q with ⟨rfl, tok8, q1, q2, q3⟩ | q
          · repeat (refine wpAny_execs_nil ?_)
            show TurnN _ _ _ _ _ _ _ _ _ _ _ _ _ _
            exact turnN_end ⟨q1, q2⟩ q3
          · obtain ⟨t8, k8, rfl, q⟩ := q
            exact .inr ⟨t8, k8, rfl, q⟩
      · unfold Stop
        intro c3 hc3 h5 tk5 t5 ul5 up5 F5 N5
        dsimp only [ledNR] at N5
        (try k_sweep)
        obtain ⟨he, hlt3⟩ := drop_at hc3
        k_steps
        unfold Stop
        rename News g9 _ _ _ => nn
        refine wpAny_mono (Q := fun f s' => (f = .next ∧ EndN g9 L9 s (fun ob k ul up => ledNR w T9 l nr nd io d pl t1 u1 t2 u2 t3 cc ((fi, ob) :: (mt, methodObj (.ref 755) (.ref nr)) :: rest) k ul up) nr fi l R s') ∨ RetN g9 L9 s (fun ob k ul up => ledNR w T9 l nr nd io d pl t1 u1 t2 u2 t3 cc ((fi, ob) :: (mt, methodObj (.ref 755) (.ref nr)) :: rest) k ul up) nr fi (ciA mt uu) l R f s') ?_ (fun f s' q => ?_) (fun _ _ z => z)
        · refine' for_ci (P := fun k1 tok => (nb false tok (l.drop k1) = R ∧ tok.length ≤ k1)) (Pe := fun _ => False) ?B ?X ?T hx hal n1 n2 n3 n4 n5 n6 n7 hr hr2 m1 m2 m3 m4 ne5 rfl ?a2 rfl rfl ?a5 rfl rfl ⟨_, _, _, _, _, _, rfl, (frToN ([] ++ [c3]) _ (by k_asm) (by rw [← tok_one]; rfl) rfl rfl (by intro z a b c d; first | exact frN_out a b c d | (simp only [a, b, c, d, if_false]; first | rfl | exact frN_out a b c d))), nn⟩ ?hk0 ?hP ?turn ?fin ?hE
          (case B => k_asm)
          (case X => k_asm)
          (case T => k_asm)
          (case a2 => exact Nat.le_of_ble_eq_true rfl)
          (case a5 => exact Nat.le_of_ble_eq_true rfl)
          (case hE => passes_own)
          case hk0 => exact (by omega : k1 + 2 ≤ l.length)
          case hP => exact ⟨(by rw [← hR1, he]; first | exact ntB hcl | exact ntC hcl), by first | omega | (simp only [List.length_append, List.length_cons, List.length_nil]; omega)⟩
          case fin =>
            intro tok8 s8 hp8 hs8
            rcases hp8 with hp8 | hp8
            · obtain ⟨hp8, hl8⟩ := hp8
              rw [List.drop_length] at hp8
              exact .inl ⟨rfl, tok8, by rw [← hp8]; rfl, by omega, hs8⟩
            · exact hp8.elim
          case turn =>
            intro k8 c8 tok8 h8 tk8 ul8 up8 ut8 t8 hlt8 hP8 hc8 F8 N8
            refine wpAny_mono (i2 k8 c8 tok8 h8 tk8 ul8 up8 ut8 t8 hlt8 hP8 hc8 F8 N8) (fun f s' q => ?_) (fun _ _ z => z)
            cases f with
            | ret v => exact .inr q
            | brk => exact q
            | next => exact q
            | cont => exact q
        · rcases q with ⟨rfl, tok8, q1, q2, q3⟩ | q
          · repeat (refine wpAny_execs_nil ?_)
            show TurnN _ _ _ _ _ _ _ _ _ _ _ _ _ _
            exact turnN_end ⟨q1, q2⟩ q3
          · obtain ⟨t8, k8, rfl, q⟩ := q
            exact .inr ⟨t8, k8, rfl, q⟩
      · unfold Stop
        rename News g9 _ _ _ => nn
        refine wpAny_mono (Q := fun f s' => (f = .next ∧ EndN g9 L9 s (fun ob k ul up => ledNR w T9 l nr nd io d pl t1 u1 t2 u2 t3 cc ((fi, ob) :: (mt, methodObj (.ref 755) (.ref nr)) :: rest) k ul up) nr fi l R s') ∨ RetN g9 L9 s (fun ob k ul up => ledNR w T9 l nr nd io d pl t1 u1 t2 u2 t3 cc ((fi, ob) :: (mt, methodObj (.ref 755) (.ref nr)) :: rest) k ul up) nr fi (ciA mt uu) l R f s') ?_ (fun f s' q => ?_) (fun _ _ z => z)
        · refine' for_ci (P := fun k1 tok => (nb false tok (l.drop k1) = R ∧ tok.length ≤ k1)) (Pe := fun _ => False) ?B ?X ?T hx hal n1 n2 n3 n4 n5 n6 n7 hr hr2 m1 m2 m3 m4 ne5 rfl ?a2 rfl rfl ?a5 rfl rfl ⟨_, _, _, _, _, _, rfl, (frToN ([] ++ [c]) _ (by k_asm) (by rw [← tok_one]; rfl) rfl rfl (by intro z a b c d; first | exact frN_out a b c d | (simp only [a, b, c, d, if_false]; first | rfl | exact frN_out a b c d))), nn⟩ ?hk0 ?hP ?turn ?fin ?hE
          (case B => k_asm)
          (case X => k_asm)
          (case T => k_asm)
          (case a2 => exact Nat.le_of_ble_eq_true rfl)
          (case a5 => exact Nat.le_of_ble_eq_true rfl)
          (case hE => passes_own)
          case hk0 => exact (by omega : k1 + 1 ≤ l.length)
          case hP => exact ⟨(by rw [← hR1]; exact ntD hcl), by first | omega | (simp only [List.length_append, List.length_cons, List.length_nil]; omega)⟩
          case fin =>
            intro tok8 s8 hp8 hs8
            rcases hp8 with hp8 | hp8
            · obtain ⟨hp8, hl8⟩ := hp8
              rw [List.drop_length] at hp8
              exact .inl ⟨rfl, tok8, by rw [← hp8]; rfl, by omega, hs8⟩
            · exact hp8.elim
          case turn =>
            intro k8 c8 tok8 h8 tk8 ul8 up8 ut8 t8 hlt8 hP8 hc8 F8 N8
            refine wpAny_mono (i2 k8 c8 tok8 h8 tk8 ul8 up8 ut8 t8 hlt8 hP8 hc8 F8 N8) (fun f s' q => ?_) (fun _ _ z => z)
            cases f with
            | ret v => exact .inr q
            | brk => exact q
            | next => exact q
            | cont => exact q
        · rcases q with ⟨rfl, tok8, q1, q2, q3⟩ | q
          · repeat (refine wpAny_execs_nil ?_)
            show TurnN _ _ _ _ _ _ _ _ _ _ _ _ _ _
            exact turnN_end ⟨q1, q2⟩ q3
          · obtain ⟨t8, k8, rfl, q⟩ := q
            exact .inr ⟨t8, k8, rfl, q⟩
end
/- K1 -/
section
set_option maxRecDepth 100000
set_option maxHeartbeats 4000000
noncomputable def StT {σ : Type} (g : Heap) (L : Addr) (s : Shared) (news : List (Addr × Obj)) (m : σ → Option Value → Str → Option Value) (c : σ) (s₂ : Shared) : Prop :=
  ∃ h' tk v, s₂ = { s with heap := h', toks := tk } ∧ Fr g L h' (m c v) ∧ News g L h' news
noncomputable def TurnT {σ : Type} (g : Heap) (L : Addr) (s : Shared) (news : List (Addr × Obj)) (m : σ → Option Value → Str → Option Value) (P : Nat → σ → Prop) (k : Nat) (f : Flow) (s₂ : Shared) : Prop := match f with
  | .ret _ => False
  | .brk => False
  | _ => ∃ c', P (k + 1) c' ∧ StT g L s news m c' s₂
/-- a for over the signs of a text -/
theorem for_str {σ : Type} {prog : Program} {w : World} {A : Around} {E : Value → Shared → Prop} {Q : Flow → Shared → Prop} {s : Shared} {g : Heap} {L a : Addr} {ccd : Value} {cn : Str} {cs : Scope} {y z : Str} {px py pos : Pos} {body : List Stmt} {l : List Nat} {t : Tok} {news : List (Addr × Obj)}
    (m : σ → Option Value → Str → Option Value) (P : Nat → σ → Prop) (c₀ : σ) (v₀ : Option Value) (hh : A.handled = none) (ha : ∀ c ∈ l, c < 128)
    (F : Fr g L s.heap (m c₀ v₀)) (N : News g L s.heap news) (hP : P 0 c₀) (hy : m c₀ v₀ y = some (.str ⟨l.toArray⟩ t))
    (hk : cs.kind = .function) (hl1 : (envOf cn cs L a ccd).kindOf y = some .local) (hl2 : (envOf cn cs L a ccd).kindOf z = some .local) (hdb : (y == ("__debug__" : Str)) = false)
    (hm : ∀ c v x, (fun q => if q = z then some x else m c v q) = m c (some x))
    (turn : ∀ k ch c h tk t' it o, l[k]? = some ch → P k c → Fr g L h (m c (some (.str ⟨#[ch]⟩ t'))) → News g L h ((it, o) :: news) → (∀ p ∈ news, p.1 < it) → wpAny (model prog w) A (execs body (envOf cn cs L a ccd)) (TurnT g L s ((it, o) :: news) m P k) E { s with heap := h, toks := tk })
    (fin : ∀ c h tk v, P l.length c → Fr g L h (m c v) → News g L h news → Q .next { s with heap := h, toks := tk })
    (hE : PassesOwn (model prog w) A (envOf cn cs L a ccd) E) :
    wpAny (model prog w) A (exec (.For (.Name z px) (.Name y py) body [] pos) (envOf cn cs L a ccd)) Q E s := by
  refine wpAny_For ?_
  refine nameX_L (cl := []) (h₀ := g) (m := m c₀ v₀) F hy ?_ hk hl1 hdb
  have hall : (⟨l.toArray⟩ : Str).cps.all (· < 128) = true := by
    show l.toArray.all _ = true
    simp only [List.all_toArray, List.all_eq_true, decide_eq_true_eq]
    exact ha
  refine wpAny_pyIter_ascii hall ?_
  have F1 := F.push ({ cls := .type "str_ascii_iterator", data := .fields #[.str ⟨l.toArray⟩ t, .int 0 0] } : Obj)
  have N1 := N.push F ({ cls := .type "str_ascii_iterator", data := .fields #[.str ⟨l.toArray⟩ t, .int 0 0] } : Obj)
  have lt : ∀ p ∈ news, p.1 < s.heap.objs.size := fun p hp => Heap.lt_size (N p hp).1
  revert F1 N1 lt
  generalize s.heap.push { cls := .type "str_ascii_iterator", data := .fields #[.str ⟨l.toArray⟩ t, .int 0 0] } = h1
  generalize s.heap.objs.size = it
  intro F1 N1 lt
  refine codeAny_forLoop (R := fun r s' => match r with | .ok f => Q f s' | .error e => cameBackBy (model prog w) A (envOf cn cs L a ccd) E e s')
    (fun n s' => ∃ k c o, k ≤ l.length ∧ P k c ∧ n = l.length - k + 1 ∧ o.cls = .type "str_ascii_iterator" ∧ o.data = .fields #[.str ⟨l.toArray⟩ t, .int (k : Int) 0] ∧ StT g L s ((it, o) :: news) m c s') ?_ (l.length + 1) ?_
  · rintro n s' ⟨k, c, o, hkl, hPk, rfl, hoc, hod, h2, tk2, v2, rfl, F2, N2⟩
    have hit : ({ s with heap := h2, toks := tk2 } : Shared).heap.IsStrIter it "str_ascii_iterator" ⟨l.toArray⟩ t k := ⟨o, (N2 _ (.head _)).1, hoc, hod⟩
    refine wpAny_passesOwn hE ?_
    rcases hc : l[k]? with _ | ch
    · refine wpAny_pyNext_ascii_end hh hit (by simpa using hc) fun h' he => ?_
      have hkl' : k = l.length := by have := List.getElem?_eq_none_iff.mp hc; omega
      subst hkl'
      refine wpAny_execs_nil (fin c h' tk2 v2 hPk ?_ ?_)
      · refine ⟨?_, fun b o' e => he b o' (fun q => by rw [q, (N2 _ (.head _)).2.2] at e; cases e) (F2.keep b o' e), F2.above⟩
        obtain ⟨oL, es, ep, ho, r⟩ := F2.ns
        exact ⟨oL, es, ep, he _ _ (fun q => (N2 _ (.head _)).2.1 q.symm) ho, r⟩
      · intro p hp
        exact ⟨he _ _ (Nat.ne_of_lt (lt p hp)) (N2 p (.tail _ hp)).1, (N2 p (.tail _ hp)).2⟩
    · refine wpAny_pyNext_ascii_item hit (by simpa using hc) fun h' hit' hsb => ?_
      obtain ⟨o', ho', hoc', hod'⟩ := hit'
      have F3 := F2.update N2 (.head _) hsb
      have N3 : News g L h' ((it, o') :: news) := News.setHead N2 (fun p hp => Nat.ne_of_lt (lt p hp)) hsb ho'
      refine wpAny_passesOwn hE (wpAny_assign_Name (stN F3 N3 (fun h4 F4 N4 => ?_) hk hl2))
      rw [hm] at F4
      have hlt : k < l.length := by
        rcases Nat.lt_or_ge k l.length with q | q
        · exact q
        · rw [List.getElem?_eq_none_iff.mpr q] at hc; cases hc
      refine wpAny_passesOwn hE (wpAny_mono (turn k ch c h4 _ _ it o' hc hPk F4 N4 lt) (fun f s₃ h₃ => ?_) fun _ _ z => z)
      cases f with
      | ret v => exact h₃.elim
      | brk => exact h₃.elim
      | next => obtain ⟨c', q1, q2⟩ := h₃; exact ⟨l.length - (k + 1) + 1, by omega, k + 1, c', o', hlt, q1, rfl, hoc', hod', q2⟩
      | cont => obtain ⟨c', q1, q2⟩ := h₃; exact ⟨l.length - (k + 1) + 1, by omega, k + 1, c', o', hlt, q1, rfl, hoc', hod', q2⟩
  · exact ⟨0, c₀, _, Nat.zero_le _, hP, rfl, rfl, rfl, h1, s.toks, v₀, rfl, F1, N1⟩
end
/- K2 -/
section
set_option maxRecDepth 100000
set_option maxHeartbeats 4000000
structure TS where
  (out : Str) (uo : Tok) (kind : Int) (uk : Tok) (held : Bool)
noncomputable abbrev frS (l : List Nat) (t : Tok) (c : TS) (v : Option Value) : Str → Option Value := fun y => if y = Str.ofString "sign" then v else if y = Str.ofString "out" then some (.str c.out c.uo) else if y = Str.ofString "kind" then some (.int c.kind c.uk) else if y = Str.ofString "held" then some (.bool c.held) else if y = Str.ofString "text" then some (.str ⟨l.toArray⟩ t) else none
theorem frS_sign {l : List Nat} {t : Tok} (c : TS) (v : Option Value) (x : Value) : (fun y => if y = Str.ofString "sign" then some x else frS l t c v y) = frS l t c (some x) := by
  funext y
  by_cases h : y = Str.ofString "sign" <;> simp [frS, h]
theorem frToS {g h : Heap} {L : Addr} {l : List Nat} {t : Tok} {m' : Str → Option Value} (c : TS) (F : Fr g L h m') (h1 : m' (Str.ofString "out") = some (.str c.out c.uo)) (h2 : m' (Str.ofString "kind") = some (.int c.kind c.uk)) (h3 : m' (Str.ofString "held") = some (.bool c.held)) (h5 : m' (Str.ofString "text") = some (.str ⟨l.toArray⟩ t))
    (h4 : ∀ z, z ≠ Str.ofString "sign" → z ≠ Str.ofString "out" → z ≠ Str.ofString "kind" → z ≠ Str.ofString "held" → z ≠ Str.ofString "text" → m' z = none) : Fr g L h (frS l t c (m' (Str.ofString "sign"))) := by
  have e : m' = frS l t c (m' (Str.ofString "sign")) := by
    funext z
    by_cases a : z = Str.ofString "sign"
    · subst a; rfl
    · by_cases b : z = Str.ofString "out"
      · subst b; rw [h1]; rfl
      · by_cases d : z = Str.ofString "kind"
        · subst d; rw [h2]; rfl
        · by_cases e : z = Str.ofString "held"
          · subst e; rw [h3]; rfl
          · by_cases f : z = Str.ofString "text"
            · subst f; rw [h5]; rfl
            · rw [h4 z a b d e f]
              simp only [frS, if_neg a, if_neg b, if_neg d, if_neg e, if_neg f]
  exact e ▸ F
theorem frS_out {l : List Nat} {t : Tok} {c : TS} {v : Option Value} {z : Str} (a : z ≠ Str.ofString "sign") (b : z ≠ Str.ofString "out") (d : z ≠ Str.ofString "kind") (e : z ≠ Str.ofString "held") (f : z ≠ Str.ofString "text") : frS l t c v z = none := by
  simp only [frS, if_neg a, if_neg b, if_neg d, if_neg e, if_neg f]
theorem lk_out {z x : Str} {v : Value} (h : z ≠ x) : List.lookup z [(x, v)] = none := by
  have : (z == x) = false := beq_eq_false_iff_ne.mpr h
  simp only [List.lookup, this]
noncomputable def alphLt {c : Nat} (h : alph c) : c < 128 := by
  unfold alph at h
  rcases h with h | h | h | h | h | h | h | h <;> subst h <;> decide
theorem str_app (a b : Str) : (a ++ b).cps.toList = a.cps.toList ++ b.cps.toList := by
  show (a.cps ++ b.cps).toList = _
  simp
theorem str_len (a b : Str) : (a ++ b).length = a.length + b.length := by
  show (a.cps ++ b.cps).size = _
  simp [Str.length]
theorem str_one (c : Nat) : (⟨#[c]⟩ : Str).cps.toList = [c] := rfl
theorem str_l (l : List Nat) : (⟨l.toArray⟩ : Str).cps.toList = l := by simp
theorem str_l1 (c : Nat) : (⟨#[c]⟩ : Str).length = 1 := rfl
theorem str_e : (Str.ofString "").cps.toList = [] := by decide +kernel
theorem str_bs : (Str.ofString "\\").cps.toList = [92] := by decide +kernel
theorem str_q : (Str.ofString "\"").cps.toList = [34] := by decide +kernel
theorem str_qs : (Str.ofString "\" ").cps.toList = [34, 32] := by decide +kernel
theorem str_sp : (Str.ofString " ").cps.toList = [32] := by decide +kernel
theorem len_e : (Str.ofString "").length = 0 := by decide +kernel
theorem len_bs : (Str.ofString "\\").length = 1 := by decide +kernel
theorem len_q : (Str.ofString "\"").length = 1 := by decide +kernel
theorem len_qs : (Str.ofString "\" ").length = 2 := by decide +kernel
theorem len_sp : (Str.ofString " ").length = 1 := by decide +kernel
theorem str_ext {a b : Str} (h : a.cps.toList = b.cps.toList) : a = b := by
  obtain ⟨x⟩ := a
  obtain ⟨y⟩ := b
  exact congrArg Str.mk (Array.toList_inj.mp h)
noncomputable def PS (l : List Nat) (k : Nat) (c : TS) : Prop := c.out.cps.toList ++ sh c.kind c.held (l.drop k) = sh 0 false l ∧ c.out.length ≤ 2 * k ∧ (c.kind = 0 ∨ c.kind = 1 ∨ c.kind = 2)
theorem alph_all {ch : Nat} (h : alph ch) : Cls ch [97, 32, 10, 34, 39, 92, 98, 35] := by
  unfold alph at h
  unfold Cls
  rcases h with h | h | h | h | h | h | h | h <;> subst h <;> decide
end
/- K3 -/
section
set_option maxRecDepth 100000
set_option maxHeartbeats 0
set_option rowWalk.seconds 0
local macro_rules | `(tactic| walk_at "exec For") => `(tactic| refine stop_of ?_)
local macro_rules | `(tactic| walk_at "exec For Name Name cons nil") => `(tactic| refine stop_of ?_)
/-- what a sign gives to the shell's writing, and what it leaves -/
noncomputable def outS (kind : Int) (held : Bool) (c : Nat) : List Nat :=
  if c = 92 ∧ held = false then []
  else if kind = 2 ∧ c = 34 ∧ held = false then [34, 32]
  else if kind = 2 then (if c = 34 ∨ c = 92 then [92, c] else [c])
  else if wsp c = true ∧ held = false then [32]
  else if kind = 0 ∧ c = 34 ∧ held = false then [34]
  else [92, c]
noncomputable def nxtS (kind : Int) (held : Bool) (c : Nat) : Int × Bool :=
  if c = 92 ∧ held = false then (kind, true)
  else if kind = 2 ∧ c = 34 ∧ held = false then (0, held)
  else if kind = 2 then (kind, false)
  else if wsp c = true ∧ held = false then (0, held)
  else if kind = 0 ∧ c = 34 ∧ held = false then (2, held)
  else (1, false)
theorem sh_step (kind : Int) (held : Bool) (c : Nat) (r : List Nat) : sh kind held (c :: r) = outS kind held c ++ sh (nxtS kind held c).1 (nxtS kind held c).2 r := by
  show (if c = 92 ∧ held = false then sh kind true r
    else if kind = 2 ∧ c = 34 ∧ held = false then 34 :: 32 :: sh 0 held r
    else if kind = 2 then (if c = 34 ∨ c = 92 then [92, c] else [c]) ++ sh kind false r
    else if wsp c = true ∧ held = false then 32 :: sh 0 held r
    else if kind = 0 ∧ c = 34 ∧ held = false then 34 :: sh 2 held r
    else 92 :: c :: sh 1 false r) = _
  unfold outS nxtS
  by_cases h1 : c = 92 ∧ held = false
  · simp only [if_pos h1, List.nil_append]
  · simp only [if_neg h1]
    by_cases h2 : kind = 2 ∧ c = 34 ∧ held = false
    · simp only [if_pos h2, List.cons_append, List.nil_append]
    · simp only [if_neg h2]
      by_cases h3 : kind = 2
      · simp only [if_pos h3]
      · simp only [if_neg h3]
        by_cases h4 : wsp c = true ∧ held = false
        · simp only [if_pos h4, List.cons_append, List.nil_append]
        · simp only [if_neg h4]
          by_cases h5 : kind = 0 ∧ c = 34 ∧ held = false
          · simp only [if_pos h5, List.cons_append, List.nil_append]
          · simp only [if_neg h5, List.cons_append, List.nil_append]
theorem turn_S {S : List Nat} {ch : Nat} {kind kind' : Int} {held held' : Bool} {o o' : Str} {r R : List Nat} (X : Nat → List Nat) (hq : o.cps.toList ++ sh kind held (ch :: r) = R) (hcl : Cls ch S) (e : o'.cps.toList = o.cps.toList ++ X ch)
    (h : (S.all fun c => outS kind held c == X c && (nxtS kind held c == (kind', held'))) = true) : o'.cps.toList ++ sh kind' held' r = R := by
  have h2 := List.all_eq_true.mp h ch hcl
  obtain ⟨h3, h4⟩ := Bool.and_eq_true_iff.mp h2
  rw [← hq, sh_step, beq_iff_eq.mp h3, beq_iff_eq.mp h4, e, List.append_assoc]
theorem o_0 (o : Str) : o.cps.toList = o.cps.toList ++ [] := (List.append_nil _).symm
theorem o_1 {o x : Str} {a : List Nat} (h : x.cps.toList = a) : (o ++ x).cps.toList = o.cps.toList ++ a := h ▸ str_app o x
theorem o_2 {o x y : Str} {a b : List Nat} (h : x.cps.toList = a) (h2 : y.cps.toList = b) : (o ++ x ++ y).cps.toList = o.cps.toList ++ (a ++ b) := by
  rw [str_app, str_app, h, h2, List.append_assoc]
theorem o_12 {o x y : Str} {a b : List Nat} (h : x.cps.toList = a) (h2 : y.cps.toList = b) : (o ++ (x ++ y)).cps.toList = o.cps.toList ++ (a ++ b) := by
  rw [str_app, str_app, h, h2]
theorem ts_c {w : World} {mean : ExcName → Option Value} {mg mb : Str → Option Value} {gd : Option (List Code)} {cn : Str} {nm : List (Str × NameKind)} {gn co : Bool} {mo : List (Str × Const)} {a : Addr} {ccd : Value} {cl : List (Str × Addr)} {outer : List Env} {A₀ : Around} {base h₀ : Heap} {L : Addr} {m : Str → Option Value} {s : Shared} {Q E : Value → Shared → Prop}
   {l : List Nat} {t : Tok} {rest : List (Addr × Obj)}
   (B : Below A₀ base outer h₀) (F : Fr h₀ L s.heap m) (X : (Mine.hd.heap_1 w.params).In h₀) (N : News h₀ L s.heap (rest)) (T : Top vq (looseW vq vl) mean mg mb h₀)
   (hx : l.length ≤ 200) (hal : ∀ c ∈ l, alph c)
   (r : ∀ h' tk t', Fr h₀ L h' m → News h₀ L h' rest → Q (.str ⟨(sh 0 false l).toArray⟩ t') { s with heap := h', toks := tk }) :
   wpAny (model pr w) (ktrTop 600 4000 gd cn ⟨.function, nm, gn, co, mo⟩ L a ccd cl outer) (call (.ref 788) [.str ⟨l.toArray⟩ t]) Q E s := by
  w_on
  have hfill : PySem.Challenge.rw_nq0227_01 = PySem.Challenge.rw_nq0227_01 ∧ Mine.hd.heap_1 = Mine.hd.heap_1 := by
    k_fill
    exact ⟨rfl, rfl⟩
  clear hfill
  refine wpAny_call ?_
  k_dflt k_enter
  k_steps
  unfold Stop
  rename News _ _ _ _ => N1
  rename Fr _ _ _ _ => F1
  have F2 := frToS (l := l) (t := t) ⟨Str.ofString "", _, 0, _, false⟩ F1 rfl rfl rfl rfl (by intro z a b c d e; first | exact frS_out a b c d e | (simp only [a, b, c, d, e, if_false]; done) | (simp only [a, b, c, d, e, if_false]; first | rfl | exact frS_out a b c d e | exact lk_out e))
  clear F1 N
  refine for_str (frS l t) (PS l) _ _ rfl (fun c hc => alphLt (hal c hc)) F2 N1 ⟨by rw [str_e]; rfl, by rw [len_e]; exact Nat.zero_le _, .inl rfl⟩ rfl rfl rfl rfl (by decide) frS_sign ?turn ?fin ?hE
  case hE => passes_own
  case fin =>
    intro c h3 tk3 v3 hP F3 N3
    clear F2 N1
    obtain ⟨out, uo, kind, uk, held⟩ := c
    obtain ⟨hq, hl, hkd⟩ := hP
    dsimp only at hq hl hkd
    rw [List.drop_length] at hq
    delta frS at F3; dsimp only at F3
    k_steps
    all_goals (
      rename News h₀ _ _ _ => nn
      refine (congrArg (fun x => Q (Value.str x _) _) (str_ext ?_)).mpr (r _ _ _ (by k_asm) nn)
      rw [str_l, ← hq]
      dsimp only at *
      simp [sh, str_app, str_one, str_e, str_bs, str_q, str_qs, str_sp, List.append_assoc, *])
  case turn =>
    intro k ch c h3 tk3 t3 it o hc hP F3 N3 lt3
    clear F2 N1
    obtain ⟨out, uo, kind, uk, held⟩ := c
    obtain ⟨hq, hl, hkd⟩ := hP
    dsimp only at hq hl hkd
    rw [(drop_at hc).1] at hq
    have hlt := (drop_at hc).2
    delta frS at F3; dsimp only at F3
    have hcl := alph_all (hal _ (List.mem_of_getElem? hc))
    rcases hkd with rfl | rfl | rfl <;> cases held <;> k_steps
    all_goals (
      rename Cls _ _ => hcl
      rename News _ _ _ _ => nn
      refine ⟨⟨_, _, _, _, _⟩, ?_, _, _, _, rfl, frToS _ (by k_asm) rfl rfl rfl rfl (by intro z a b c d e; first | exact frS_out a b c d e | (simp only [a, b, c, d, e, if_false]; done) | (simp only [a, b, c, d, e, if_false]; first | rfl | exact frS_out a b c d e | exact lk_out e)), nn⟩
      clear nn
      refine ⟨?_, ?_, ?_⟩
      · dsimp only
        first
          | with_reducible exact turn_S (fun _ => []) hq hcl (o_0 _) (by decide +kernel)
          | with_reducible exact turn_S (fun c => [92] ++ [c]) hq hcl (o_12 str_bs (str_one _)) (by decide +kernel)
          | with_reducible exact turn_S (fun c => [92] ++ [c]) hq hcl (o_2 str_bs (str_one _)) (by decide +kernel)
          | with_reducible exact turn_S (fun c => [c]) hq hcl (o_1 (str_one _)) (by decide +kernel)
          | with_reducible exact turn_S (fun _ => [32]) hq hcl (o_1 str_sp) (by decide +kernel)
          | with_reducible exact turn_S (fun _ => [34]) hq hcl (o_1 str_q) (by decide +kernel)
          | with_reducible exact turn_S (fun _ => [34, 32]) hq hcl (o_1 str_qs) (by decide +kernel)
      · dsimp only
        first | omega | (simp only [str_len, str_l1, len_e, len_bs, len_q, len_qs, len_sp]; omega)
      · first | exact .inl rfl | exact .inr (.inl rfl) | exact .inr (.inr rfl))
end
/- K4 -/
section
set_option maxRecDepth 100000
set_option maxHeartbeats 4000000
noncomputable abbrev m2 (mB : Str → Option Value) (c : Str × Tok) (v : Option Value) : Str → Option Value := fun y => if y = Str.ofString "one" then v else if y = Str.ofString "out" then some (.str c.1 c.2) else mB y
theorem m2_one (mB : Str → Option Value) (c : Str × Tok) (v : Option Value) (x : Value) : (fun y => if y = Str.ofString "one" then some x else m2 mB c v y) = m2 mB c (some x) := by
  funext y
  by_cases h : y = Str.ofString "one" <;> simp [m2, h]
noncomputable def InnerQ (g : Heap) (L : Addr) (s : Shared) (mB : Str → Option Value) (ch : Nat) (out : Str) (news : List (Addr × Obj)) (f : Flow) (s₂ : Shared) : Prop :=
  f = .next ∧ ∃ h' tk' out' uo' v', out'.cps.toList = out.cps.toList ++ esc1 ch ∧ s₂ = { s with heap := h', toks := tk' } ∧ Fr g L h' (m2 mB (out', uo') v') ∧ News g L h' news
/-- a turn of the inner loop -/
noncomputable def InnerT (w : World) (g : Heap) (L : Addr) (s : Shared) (E : Value → Shared → Prop) (A : Around) (env : Env) (b : List Stmt) : Prop :=
  ∀ (mB : Str → Option Value) (ch : Nat) (out : Str) (uo t' : Tok) (h : Heap) (tk : Nat) (news : List (Addr × Obj)), alph ch → out.length ≤ 2000 → Fr g L h (m2 mB (out, uo) (some (.str ⟨#[ch]⟩ t'))) → News g L h news →
    wpAny (model pr w) A (execs b env) (InnerQ g L s mB ch out news) E { s with heap := h, toks := tk }
theorem inner_for {w : World} {g : Heap} {L a : Addr} {ccd : Value} {cn : Str} {cs : Scope} {s s₀ : Shared} {E : Value → Shared → Prop} {A : Around} {Q : Flow → Shared → Prop} {b : List Stmt} {px py pos : Pos} {al : List Nat} {t : Tok} {news : List (Addr × Obj)} {mB : Str → Option Value} {out : Str} {uo : Tok} {v₀ : Option Value}
    (T : InnerT w g L s E A (envOf cn cs L a ccd) b) (hh : A.handled = none) (hal : ∀ c ∈ al, alph c) (hlen : out.length + 2 * al.length ≤ 1999) (h0 : s₀.gens = s.gens) (h1 : s₀.drawn = s.drawn) (h2 : s₀.os = s.os)
    (F : Fr g L s₀.heap (m2 mB (out, uo) v₀)) (N : News g L s₀.heap news) (hy : mB (Str.ofString "added") = some (.str ⟨al.toArray⟩ t))
    (hk : cs.kind = .function) (hl1 : (envOf cn cs L a ccd).kindOf (Str.ofString "added") = some .local) (hl2 : (envOf cn cs L a ccd).kindOf (Str.ofString "one") = some .local)
    (fin : ∀ out' uo' v h tk, out'.cps.toList = out.cps.toList ++ esc al → Fr g L h (m2 mB (out', uo') v) → News g L h news → Q .next { s with heap := h, toks := tk })
    (hE : PassesOwn (model pr w) A (envOf cn cs L a ccd) E) :
    wpAny (model pr w) A (exec (.For (.Name (Str.ofString "one") px) (.Name (Str.ofString "added") py) b [] pos) (envOf cn cs L a ccd)) Q E s₀ := by
  have hs : ∀ (h : Heap) (tk : Nat), ({ s₀ with heap := h, toks := tk } : Shared) = { s with heap := h, toks := tk } := by
    intro h tk
    obtain ⟨_, _, _, _, _⟩ := s₀
    obtain ⟨_, _, _, _, _⟩ := s
    dsimp only at h0 h1 h2
    subst h0 h1 h2
    rfl
  have len : ∀ x : Str, x.length = x.cps.toList.length := fun x => by show x.cps.size = _; simp
  have e1 : ∀ c, (esc1 c).length ≤ 2 := by
    intro c
    unfold esc1
    split <;> simp
  refine for_str (σ := Str × Tok) (m2 mB) (fun k c => c.1.cps.toList = out.cps.toList ++ esc (al.take k) ∧ c.1.length ≤ out.length + 2 * k) (out, uo) v₀ hh (fun c hc => alphLt (hal c hc)) F N ⟨by simp [esc], by simp⟩ hy hk hl1 hl2 (by decide) (fun c v x => m2_one mB c v x) ?_ ?_ hE
  · intro k ch c h tk t' it o hc hP F' N' lt'
    obtain ⟨c1, c2⟩ := c
    obtain ⟨p1, p2⟩ := hP
    dsimp only at p1 p2
    have hkl : k < al.length := by
      rcases Nat.lt_or_ge k al.length with q | q
      · exact q
      · rw [List.getElem?_eq_none_iff.mpr q] at hc; cases hc
    rw [hs]
    refine wpAny_mono (T mB ch c1 c2 t' h tk ((it, o) :: news) (hal _ (List.mem_of_getElem? hc)) (by omega) F' N') (fun f s₂ q => ?_) fun _ _ z => z
    obtain ⟨rfl, h', tk', out', uo', v', e, rfl, F3, N3⟩ := q
    refine ⟨(out', uo'), ⟨?_, ?_⟩, h', tk', v', (hs _ _).symm, F3, N3⟩
    · show out'.cps.toList = _
      rw [e, p1, List.take_add_one, hc]
      simp [esc]
    · show out'.length ≤ _
      rw [len, e, List.length_append, ← len]
      have := e1 ch
      omega
  · intro c h tk v hP F' N'
    obtain ⟨c1, c2⟩ := c
    obtain ⟨p1, p2⟩ := hP
    dsimp only at p1 p2
    rw [List.take_length] at p1
    rw [hs]
    exact fin c1 c2 v h tk p1 F' N'
theorem with_last {M : Model} {A : Around} {E : Value → Shared → Prop} {s : Shared} {env : Env} {Q : Flow → Shared → Prop} (C : Around → Env → List Stmt → Prop) {S1 S2 S3 : Stmt} {t i : Expr} {b : List Stmt} {p : Pos} (h1 : C A env b) (h : C A env b → wpAny M A (execs [S1, S2, S3, .For t i b [] p] env) Q E s) :
    wpAny M A (execs [S1, S2, S3, .For t i b [] p] env) Q E s := h h1
end
/- K45 -/
section
set_option maxRecDepth 100000
set_option maxHeartbeats 4000000
structure TN where
  (out : Str) (uo : Tok) (kind : Int) (uk : Tok) (held : Bool) (ad on : Option Value)
noncomputable abbrev frT (l : List Nat) (t : Tok) (c : TN) (v : Option Value) : Str → Option Value := fun y => if y = Str.ofString "sign" then v else if y = Str.ofString "out" then some (.str c.out c.uo) else if y = Str.ofString "kind" then some (.int c.kind c.uk) else if y = Str.ofString "held" then some (.bool c.held) else if y = Str.ofString "added" then c.ad else if y = Str.ofString "one" then c.on else if y = Str.ofString "text" then some (.str ⟨l.toArray⟩ t) else none
theorem frT_sign {l : List Nat} {t : Tok} (c : TN) (v : Option Value) (x : Value) : (fun y => if y = Str.ofString "sign" then some x else frT l t c v y) = frT l t c (some x) := by
  funext y
  by_cases h : y = Str.ofString "sign" <;> simp [frT, h]
theorem frToT {g h : Heap} {L : Addr} {l : List Nat} {t : Tok} {m' : Str → Option Value} (out : Str) (uo : Tok) (kind : Int) (uk : Tok) (held : Bool) (F : Fr g L h m') (h1 : m' (Str.ofString "out") = some (.str out uo)) (h2 : m' (Str.ofString "kind") = some (.int kind uk)) (h3 : m' (Str.ofString "held") = some (.bool held)) (h5 : m' (Str.ofString "text") = some (.str ⟨l.toArray⟩ t))
    (h4 : ∀ z, z ≠ Str.ofString "sign" → z ≠ Str.ofString "out" → z ≠ Str.ofString "kind" → z ≠ Str.ofString "held" → z ≠ Str.ofString "added" → z ≠ Str.ofString "one" → z ≠ Str.ofString "text" → m' z = none) : Fr g L h (frT l t ⟨out, uo, kind, uk, held, m' (Str.ofString "added"), m' (Str.ofString "one")⟩ (m' (Str.ofString "sign"))) := by
  have e : m' = frT l t ⟨out, uo, kind, uk, held, m' (Str.ofString "added"), m' (Str.ofString "one")⟩ (m' (Str.ofString "sign")) := by
    funext z
    by_cases a : z = Str.ofString "sign"
    · subst a; rfl
    · by_cases b : z = Str.ofString "out"
      · subst b; rw [h1]; rfl
      · by_cases d : z = Str.ofString "kind"
        · subst d; rw [h2]; rfl
        · by_cases e : z = Str.ofString "held"
          · subst e; rw [h3]; rfl
          · by_cases f : z = Str.ofString "text"
            · subst f; rw [h5]; rfl
            · by_cases g : z = Str.ofString "added"
              · subst g; rfl
              · by_cases i : z = Str.ofString "one"
                · subst i; rfl
                · rw [h4 z a b d e g i f]
                  simp only [frT, if_neg a, if_neg b, if_neg d, if_neg e, if_neg f, if_neg g, if_neg i]
  exact e ▸ F
theorem frT_out {l : List Nat} {t : Tok} {c : TN} {v : Option Value} {z : Str} (a : z ≠ Str.ofString "sign") (b : z ≠ Str.ofString "out") (d : z ≠ Str.ofString "kind") (e : z ≠ Str.ofString "held") (g : z ≠ Str.ofString "added") (i : z ≠ Str.ofString "one") (f : z ≠ Str.ofString "text") : frT l t c v z = none := by
  simp only [frT, if_neg a, if_neg b, if_neg d, if_neg e, if_neg f, if_neg g, if_neg i]
theorem m2_self {g h : Heap} {L : Addr} {m' : Str → Option Value} {o : Str} {u : Tok} (hq : m' (Str.ofString "out") = some (.str o u)) (F : Fr g L h m') : Fr g L h (m2 m' (o, u) (m' (Str.ofString "one"))) := by
  have e : m' = m2 m' (o, u) (m' (Str.ofString "one")) := by
    funext z
    by_cases a : z = Str.ofString "one"
    · subst a; rfl
    · by_cases b : z = Str.ofString "out"
      · subst b; rw [hq]; rfl
      · simp only [m2, if_neg a, if_neg b]
  exact e ▸ F
noncomputable def PN (l : List Nat) (k : Nat) (c : TN) : Prop := pre c.out.cps.toList (tn c.kind c.held (l.drop k)) = tn 0 false l ∧ c.out.length ≤ 5 * k ∧ (c.held = false ∧ (c.kind = 0 ∨ c.kind = 1 ∨ c.kind = 2 ∨ c.kind = 3) ∨ c.held = true ∧ (c.kind = 0 ∨ c.kind = 1 ∨ c.kind = 3))
theorem alph_es {ch : Nat} (h : alph ch) : Cls ch [34, 92] ∨ Cls ch [97, 32, 10, 39, 98, 35] := by
  unfold alph at h
  unfold Cls
  rcases h with h | h | h | h | h | h | h | h <;> subst h <;> decide
theorem alph_t01 {ch : Nat} (h : alph ch) : Cls ch [92] ∨ Cls ch [32, 10] ∨ Cls ch [39] ∨ Cls ch [34] ∨ Cls ch [97, 98, 35] := by
  unfold alph at h
  unfold Cls
  rcases h with h | h | h | h | h | h | h | h <;> subst h <;> decide
theorem alph_t2 {ch : Nat} (h : alph ch) : Cls ch [39] ∨ Cls ch [92] ∨ Cls ch [97, 32, 10, 34, 98, 35] := by
  unfold alph at h
  unfold Cls
  rcases h with h | h | h | h | h | h | h | h <;> subst h <;> decide
theorem alph_t3 {ch : Nat} (h : alph ch) : Cls ch [92] ∨ Cls ch [34] ∨ Cls ch [97, 32, 10, 39, 98, 35] := by
  unfold alph at h
  unfold Cls
  rcases h with h | h | h | h | h | h | h | h <;> subst h <;> decide
theorem esc_nil : esc [] = [] := rfl
theorem pre_pre (a b : List Nat) (c : List Nat × String) : pre a (pre b c) = pre (a ++ b) c := by simp [pre]
theorem pre_eq {a b : List Nat} {c : List Nat × String} (h : a = b) : pre a c = pre b c := by rw [h]
theorem m2_to {g h : Heap} {L : Addr} {m' mB : Str → Option Value} {o : Str} {u : Tok} (F : Fr g L h m') (h1 : m' (Str.ofString "out") = some (.str o u)) (h2 : ∀ z, z ≠ Str.ofString "one" → z ≠ Str.ofString "out" → m' z = mB z) : Fr g L h (m2 mB (o, u) (m' (Str.ofString "one"))) := by
  have e : m' = m2 mB (o, u) (m' (Str.ofString "one")) := by
    funext z
    by_cases a : z = Str.ofString "one"
    · subst a; rfl
    · by_cases b : z = Str.ofString "out"
      · subst b; rw [h1]; rfl
      · rw [h2 z a b]
        simp only [m2, if_neg a, if_neg b]
  exact e ▸ F
theorem len_of (x : Str) : x.length = x.cps.toList.length := by show x.cps.size = _; simp
theorem esc_len : ∀ al : List Nat, (esc al).length ≤ 2 * al.length
  | [] => by simp [esc]
  | c :: r => by
    have := esc_len r
    have e : esc (c :: r) = esc1 c ++ esc r := by simp [esc]
    rw [e, List.length_append, List.length_cons]
    have : (esc1 c).length ≤ 2 := by unfold esc1; split <;> simp
    omega
theorem e92 (ch : Nat) : Str.ofString "\\" ++ (⟨#[ch]⟩ : Str) = ⟨[92, ch].toArray⟩ := str_ext (by rw [str_app, str_bs]; simp)
theorem e00 : Str.ofString "" = (⟨([] : List Nat).toArray⟩ : Str) := by decide +kernel
theorem alph92 : alph 92 := by unfold alph; decide
theorem tn_fin {h₀ h : Heap} {L S : Addr} {l : List Nat} {o : Str} {msg : String} {u u' : Tok} {n : Nat} {rest : List (Addr × Obj)} (N : News h₀ L h ((S, listOf #[.str o u, .str (Str.ofString msg) u'] n) :: rest)) (e1 : o.cps.toList = (tn 0 false l).1) (e2 : msg = (tn 0 false l).2) :
    News h₀ L h ((S, listOf #[.str ⟨(tn 0 false l).1.toArray⟩ u, .str (Str.ofString (tn 0 false l).2) u'] n) :: rest) := by
  have e3 : o = ⟨(tn 0 false l).1.toArray⟩ := str_ext (by rw [str_l, e1])
  rw [← e3, ← e2]
  exact N
end
/- K5 -/
section
set_option maxRecDepth 100000
set_option maxHeartbeats 0
set_option rowWalk.seconds 0
local macro_rules | `(tactic| walk_at "exec For") => `(tactic| refine stop_of ?_)
local macro_rules | `(tactic| walk_at "exec For Name Name cons nil") => `(tactic| refine stop_of ?_)
/-- what a sign gives to the writing for netrc, and what it leaves -/
noncomputable def outT (kind : Int) (held : Bool) (c : Nat) : List Nat :=
  if held = true then (if kind = 0 then [34] else []) ++ esc (if kind = 3 ∧ c ≠ 34 ∧ c ≠ 92 then [92, c] else [c])
  else if c = 92 ∧ kind ≠ 2 then []
  else if kind = 2 ∧ c = 39 ∨ kind = 3 ∧ c = 34 then []
  else if kind = 2 ∨ kind = 3 then esc [c]
  else if wsp c = true then (if kind = 1 then [34, 32] else [])
  else if c = 39 ∨ c = 34 then (if kind = 0 then [34] else [])
  else (if kind = 0 then [34] else []) ++ esc [c]
noncomputable def nxtT (kind : Int) (held : Bool) (c : Nat) : Int × Bool :=
  if held = true then (if kind = 0 then 1 else kind, false)
  else if c = 92 ∧ kind ≠ 2 then (kind, true)
  else if kind = 2 ∧ c = 39 ∨ kind = 3 ∧ c = 34 then (1, false)
  else if kind = 2 ∨ kind = 3 then (kind, false)
  else if wsp c = true then (0, false)
  else if c = 39 ∨ c = 34 then (if c = 39 then 2 else 3, false)
  else (if kind = 0 then 1 else kind, false)
theorem pre_nil (b : List Nat × String) : pre [] b = b := rfl
theorem tn_step (kind : Int) (held : Bool) (c : Nat) (r : List Nat) : tn kind held (c :: r) = pre (outT kind held c) (tn (nxtT kind held c).1 (nxtT kind held c).2 r) := by
  show (if held = true then pre ((if kind = 0 then [34] else []) ++ esc (if kind = 3 ∧ c ≠ 34 ∧ c ≠ 92 then [92, c] else [c])) (tn (if kind = 0 then 1 else kind) false r)
    else if c = 92 ∧ kind ≠ 2 then tn kind true r
    else if kind = 2 ∧ c = 39 ∨ kind = 3 ∧ c = 34 then tn 1 false r
    else if kind = 2 ∨ kind = 3 then pre (esc [c]) (tn kind false r)
    else if wsp c = true then pre (if kind = 1 then [34, 32] else []) (tn 0 false r)
    else if c = 39 ∨ c = 34 then pre (if kind = 0 then [34] else []) (tn (if c = 39 then 2 else 3) false r)
    else pre ((if kind = 0 then [34] else []) ++ esc [c]) (tn (if kind = 0 then 1 else kind) false r)) = _
  unfold outT nxtT
  by_cases h1 : held = true
  · simp only [if_pos h1]
  · simp only [if_neg h1]
    by_cases h2 : c = 92 ∧ kind ≠ 2
    · simp only [if_pos h2, pre_nil]
    · simp only [if_neg h2]
      by_cases h3 : kind = 2 ∧ c = 39 ∨ kind = 3 ∧ c = 34
      · simp only [if_pos h3, pre_nil]
      · simp only [if_neg h3]
        by_cases h4 : kind = 2 ∨ kind = 3
        · simp only [if_pos h4]
        · simp only [if_neg h4]
          by_cases h5 : wsp c = true
          · simp only [if_pos h5]
          · simp only [if_neg h5]
            by_cases h6 : c = 39 ∨ c = 34
            · simp only [if_pos h6]
            · simp only [if_neg h6]
theorem turn_N {S : List Nat} {ch : Nat} {kind kind' : Int} {held held' : Bool} {o : Str} {o2 : List Nat} {r : List Nat} {R : List Nat × String} (X : Nat → List Nat) (hq : pre o.cps.toList (tn kind held (ch :: r)) = R) (hcl : Cls ch S) (e : o2 = o.cps.toList ++ X ch)
    (h : (S.all fun c => outT kind held c == X c && (nxtT kind held c == (kind', held'))) = true) : pre o2 (tn kind' held' r) = R := by
  have h2 := List.all_eq_true.mp h ch hcl
  obtain ⟨h3, h4⟩ := Bool.and_eq_true_iff.mp h2
  rw [← hq, tn_step, beq_iff_eq.mp h3, beq_iff_eq.mp h4, e, pre_pre]
theorem n_00 (o : Str) : o.cps.toList ++ esc [] = o.cps.toList ++ [] := rfl
theorem n_01 (o : Str) (al : List Nat) : o.cps.toList ++ esc al = o.cps.toList ++ esc al := rfl
theorem n_1 {o x : Str} {a : List Nat} (al : List Nat) (h : x.cps.toList = a) : (o ++ x).cps.toList ++ esc al = o.cps.toList ++ (a ++ esc al) := by
  rw [str_app, h, List.append_assoc]
theorem tn_c {w : World} {mean : ExcName → Option Value} {mg mb : Str → Option Value} {gd : Option (List Code)} {cn : Str} {nm : List (Str × NameKind)} {gn co : Bool} {mo : List (Str × Const)} {a : Addr} {ccd : Value} {cl : List (Str × Addr)} {outer : List Env} {A₀ : Around} {base h₀ : Heap} {L : Addr} {m : Str → Option Value} {s : Shared} {Q E : Value → Shared → Prop}
   {l : List Nat} {t : Tok} {rest : List (Addr × Obj)}
   (B : Below A₀ base outer h₀) (F : Fr h₀ L s.heap m) (X : (Mine.hd.heap_1 w.params).In h₀) (N : News h₀ L s.heap (rest)) (T : Top vq (looseW vq vl) mean mg mb h₀)
   (hx : l.length ≤ 200) (hal : ∀ c ∈ l, alph c)
   (r : ∀ S h' tk u u' n, Fr h₀ L h' m → News h₀ L h' ((S, listOf #[.str ⟨(tn 0 false l).1.toArray⟩ u, .str (Str.ofString (tn 0 false l).2) u'] n) :: rest) → Q (.ref S) { s with heap := h', toks := tk }) :
   wpAny (model pr w) (ktrTop 600 4000 gd cn ⟨.function, nm, gn, co, mo⟩ L a ccd cl outer) (call (.ref 795) [.str ⟨l.toArray⟩ t]) Q E s := by
  w_on
  have hfill : PySem.Challenge.rw_nq0227_01 = PySem.Challenge.rw_nq0227_01 ∧ Mine.hd.heap_1 = Mine.hd.heap_1 := by
    k_fill
    exact ⟨rfl, rfl⟩
  clear hfill
  refine wpAny_call ?_
  k_dflt k_enter
  k_steps
  unfold Stop
  rename News _ _ _ _ => N1
  rename Fr _ _ _ _ => F1
  have F2 := frToT (l := l) (t := t) (Str.ofString "") _ 0 _ false F1 rfl rfl rfl rfl (by intro z a b c d e f i; first | exact frT_out a b c d e f i | (simp only [a, b, c, d, e, f, i, if_false]; done) | (simp only [a, b, c, d, e, f, i, if_false]; first | rfl | exact frT_out a b c d e f i | exact lk_out i))
  clear F1 N
  rename_i g9 L9 h9z FG9 B9 X9 T9x h9c h9b h9a
  refine for_str (frT l t) (PN l) _ _ rfl (fun c hc => alphLt (hal c hc)) F2 N1 ⟨by simp [pre, str_e], by rw [len_e]; exact Nat.zero_le _, .inl ⟨rfl, .inl rfl⟩⟩ rfl rfl rfl rfl (by decide) frT_sign ?turn ?fin ?hE
  case hE => passes_own
  case fin =>
    intro c h3 tk3 v3 hP F3 N3
    clear F2 N1
    obtain ⟨out, uo, kind, uk, held, ad, on⟩ := c
    obtain ⟨hq, hl, hkd⟩ := hP
    dsimp only at hq hl hkd
    rw [List.drop_length] at hq
    delta frT at F3
    dsimp only at F3
    rcases hkd with ⟨rfl, rfl | rfl | rfl | rfl⟩ | ⟨rfl, rfl | rfl | rfl⟩ <;> k_steps
    all_goals (
      rename News h₀ _ _ _ => nn
      exact r _ _ _ _ _ 0 (by k_asm) (tn_fin nn (by rw [← hq]; simp [tn, pre, str_app, str_one, str_e, str_bs, str_q, str_qs, str_sp, List.append_assoc]) (by rw [← hq]; simp [tn, pre])))
  case turn =>
    intro k ch c h3 tk3 t3 it o hc hP F3 N3 lt3
    clear F2 N1
    obtain ⟨out, uo, kind, uk, held, ad, on⟩ := c
    obtain ⟨hq, hl, hkd⟩ := hP
    dsimp only at hq hl hkd
    rw [(drop_at hc).1] at hq
    have hlt := (drop_at hc).2
    delta frT at F3
    dsimp only at F3
    refine with_last (fun A9 env9 b => InnerT w g9 L9 s ek A9 env9 b) ?_ fun hI => ?_
    · intro mB ch2 out2 uo2 t2 h4 tk4 news4 ha hlen F4 N4
      clear N3 F3 hq hl hkd hc lt3
      delta m2 at F4
      dsimp only at F4
      rcases alph_es ha with hcl | hcl <;> k_steps
      all_goals (
        rename News g9 _ _ _ => nn
        refine ⟨rfl, _, _, _, _, _, ?_, rfl, m2_to (by k_asm) rfl (by intro z a b; simp only [a, b, if_false]), nn⟩
        simp only [str_app, str_one, str_e, str_bs, str_q, str_qs, str_sp, List.append_assoc]
        simp only [Cls, List.mem_cons, List.not_mem_nil, or_false] at hcl
        rcases hcl with rfl | rfl | rfl | rfl | rfl | rfl <;> simp [esc1])
    · have hch := hal _ (List.mem_of_getElem? hc)
      rcases hkd with ⟨rfl, rfl | rfl | rfl | rfl⟩ | ⟨rfl, rfl | rfl | rfl⟩
      · have hcl := alph_all hch
        k_steps
        all_goals (
          unfold Stop
          rename Cls _ _ => hcl
          rename News g9 _ _ _ => nn
          rename Fr g9 _ _ _ => ff
          first
            | (refine' inner_for (al := []) (s := s) hI rfl ?ha ?hlen rfl rfl rfl (m2_self rfl ff) nn ?hy rfl rfl rfl ?_ ?hE9
               case hy => (rw [← e00]; rfl)
               case ha => (intro c9 hc9; first | (cases hc9; done) | (simp only [List.mem_cons, List.not_mem_nil, or_false] at hc9; first | (subst hc9; exact hch) | (rcases hc9 with rfl | rfl; exact alph92; exact hch)))
               case hlen => ((try simp only [str_len, str_l1, len_e, len_bs, len_q, len_qs, len_sp]); simp only [List.length_cons, List.length_nil]; omega)
               case hE9 => passes_own)
            | (refine' inner_for (al := [ch]) (s := s) hI rfl ?ha ?hlen rfl rfl rfl (m2_self rfl ff) nn ?hy rfl rfl rfl ?_ ?hE9
               case hy => exact rfl
               case ha => (intro c9 hc9; first | (cases hc9; done) | (simp only [List.mem_cons, List.not_mem_nil, or_false] at hc9; first | (subst hc9; exact hch) | (rcases hc9 with rfl | rfl; exact alph92; exact hch)))
               case hlen => ((try simp only [str_len, str_l1, len_e, len_bs, len_q, len_qs, len_sp]); simp only [List.length_cons, List.length_nil]; omega)
               case hE9 => passes_own)
            | (refine' inner_for (al := [92, ch]) (s := s) hI rfl ?ha ?hlen rfl rfl rfl (m2_self rfl ff) nn ?hy rfl rfl rfl ?_ ?hE9
               case hy => (rw [← e92]; rfl)
               case ha => (intro c9 hc9; first | (cases hc9; done) | (simp only [List.mem_cons, List.not_mem_nil, or_false] at hc9; first | (subst hc9; exact hch) | (rcases hc9 with rfl | rfl; exact alph92; exact hch)))
               case hlen => ((try simp only [str_len, str_l1, len_e, len_bs, len_q, len_qs, len_sp]); simp only [List.length_cons, List.length_nil]; omega)
               case hE9 => passes_own)
          intro out9 uo9 v9 h9 tk9 hout F9 N9
          refine wpAny_execs_nil ?_
          show TurnT _ _ _ _ _ _ _ _ _
          refine ⟨⟨_, _, _, _, _, _, _⟩, ?_, _, _, _, rfl, frToT out9 uo9 _ _ _ F9 rfl rfl rfl rfl (by intro z a b c d e f i; first | exact frT_out a b c d e f i | (simp only [m2, a, b, c, d, e, f, i, if_false]; done) | (simp only [m2, a, b, c, d, e, f, i, if_false]; first | rfl | exact frT_out a b c d e f i | exact lk_out i)), N9⟩
          refine ⟨?_, ?_, ?_⟩
          · dsimp only
            rw [hout]
            clear hout
            first
              | with_reducible exact turn_N (fun _ => []) hq hcl (n_00 _) (by decide +kernel)
              | with_reducible exact turn_N (fun c => esc [c]) hq hcl (n_01 _ _) (by decide +kernel)
              | with_reducible exact turn_N (fun c => esc [92, c]) hq hcl (n_01 _ _) (by decide +kernel)
              | with_reducible exact turn_N (fun c => [34] ++ esc []) hq hcl (n_1 _ str_q) (by decide +kernel)
              | with_reducible exact turn_N (fun c => [34] ++ esc [c]) hq hcl (n_1 _ str_q) (by decide +kernel)
              | with_reducible exact turn_N (fun c => [34] ++ esc [92, c]) hq hcl (n_1 _ str_q) (by decide +kernel)
              | with_reducible exact turn_N (fun c => [34, 32] ++ esc []) hq hcl (n_1 _ str_qs) (by decide +kernel)
          · dsimp only
            rw [len_of, hout, List.length_append]
            have := esc_len [92, ch]
            have := esc_len [ch]
            have e0 := esc_nil
            simp only [str_app, str_one, str_e, str_bs, str_q, str_qs, str_sp, List.append_assoc, List.length_append, ← len_of, e0, List.length_cons, List.length_nil] at *
            omega
          · first | exact .inl ⟨rfl, .inl rfl⟩ | exact .inl ⟨rfl, .inr (.inl rfl)⟩ | exact .inl ⟨rfl, .inr (.inr (.inl rfl))⟩ | exact .inl ⟨rfl, .inr (.inr (.inr rfl))⟩ | exact .inr ⟨rfl, .inl rfl⟩ | exact .inr ⟨rfl, .inr (.inl rfl)⟩ | exact .inr ⟨rfl, .inr (.inr rfl)⟩)
      · have hcl := alph_all hch
        k_steps
        all_goals (
          unfold Stop
          rename Cls _ _ => hcl
          rename News g9 _ _ _ => nn
          rename Fr g9 _ _ _ => ff
          first
            | (refine' inner_for (al := []) (s := s) hI rfl ?ha ?hlen rfl rfl rfl (m2_self rfl ff) nn ?hy rfl rfl rfl ?_ ?hE9
               case hy => (rw [← e00]; rfl)
               case ha => (intro c9 hc9; first | (cases hc9; done) | (simp only [List.mem_cons, List.not_mem_nil, or_false] at hc9; first | (subst hc9; exact hch) | (rcases hc9 with rfl | rfl; exact alph92; exact hch)))
               case hlen => ((try simp only [str_len, str_l1, len_e, len_bs, len_q, len_qs, len_sp]); simp only [List.length_cons, List.length_nil]; omega)
               case hE9 => passes_own)
            | (refine' inner_for (al := [ch]) (s := s) hI rfl ?ha ?hlen rfl rfl rfl (m2_self rfl ff) nn ?hy rfl rfl rfl ?_ ?hE9
               case hy => exact rfl
               case ha => (intro c9 hc9; first | (cases hc9; done) | (simp only [List.mem_cons, List.not_mem_nil, or_false] at hc9; first | (subst hc9; exact hch) | (rcases hc9 with rfl | rfl; exact alph92; exact hch)))
               case hlen => ((try simp only [str_len, str_l1, len_e, len_bs, len_q, len_qs, len_sp]); simp only [List.length_cons, List.length_nil]; omega)
               case hE9 => passes_own)
            | (refine' inner_for (al := [92, ch]) (s := s) hI rfl ?ha ?hlen rfl rfl rfl (m2_self rfl ff) nn ?hy rfl rfl rfl ?_ ?hE9
               case hy => (rw [← e92]; rfl)
               case ha => (intro c9 hc9; first | (cases hc9; done) | (simp only [List.mem_cons, List.not_mem_nil, or_false] at hc9; first | (subst hc9; exact hch) | (rcases hc9 with rfl | rfl; exact alph92; exact hch)))
               case hlen => ((try simp only [str_len, str_l1, len_e, len_bs, len_q, len_qs, len_sp]); simp only [List.length_cons, List.length_nil]; omega)
               case hE9 => passes_own)
          intro out9 uo9 v9 h9 tk9 hout F9 N9
          refine wpAny_execs_nil ?_
          show TurnT _ _ _ _ _ _ _ _ _
          refine ⟨⟨_, _, _, _, _, _, _⟩, ?_, _, _, _, rfl, frToT out9 uo9 _ _ _ F9 rfl rfl rfl rfl (by intro z a b c d e f i; first | exact frT_out a b c d e f i | (simp only [m2, a, b, c, d, e, f, i, if_false]; done) | (simp only [m2, a, b, c, d, e, f, i, if_false]; first | rfl | exact frT_out a b c d e f i | exact lk_out i)), N9⟩
          refine ⟨?_, ?_, ?_⟩
          · dsimp only
            rw [hout]
            clear hout
            first
              | with_reducible exact turn_N (fun _ => []) hq hcl (n_00 _) (by decide +kernel)
              | with_reducible exact turn_N (fun c => esc [c]) hq hcl (n_01 _ _) (by decide +kernel)
              | with_reducible exact turn_N (fun c => esc [92, c]) hq hcl (n_01 _ _) (by decide +kernel)
              | with_reducible exact turn_N (fun c => [34] ++ esc []) hq hcl (n_1 _ str_q) (by decide +kernel)
              | with_reducible exact turn_N (fun c => [34] ++ esc [c]) hq hcl (n_1 _ str_q) (by decide +kernel)
              | with_reducible exact turn_N (fun c => [34] ++ esc [92, c]) hq hcl (n_1 _ str_q) (by decide +kernel)
              | with_reducible exact turn_N (fun c => [34, 32] ++ esc []) hq hcl (n_1 _ str_qs) (by decide +kernel)
          · dsimp only
            rw [len_of, hout, List.length_append]
            have := esc_len [92, ch]
            have := esc_len [ch]
            have e0 := esc_nil
            simp only [str_app, str_one, str_e, str_bs, str_q, str_qs, str_sp, List.append_assoc, List.length_append, ← len_of, e0, List.length_cons, List.length_nil] at *
            omega
          · first | exact .inl ⟨rfl, .inl rfl⟩ | exact .inl ⟨rfl, .inr (.inl rfl)⟩ | exact .inl ⟨rfl, .inr (.inr (.inl rfl))⟩ | exact .inl ⟨rfl, .inr (.inr (.inr rfl))⟩ | exact .inr ⟨rfl, .inl rfl⟩ | exact .inr ⟨rfl, .inr (.inl rfl)⟩ | exact .inr ⟨rfl, .inr (.inr rfl)⟩)
      · have hcl := alph_all hch
        k_steps
        all_goals (
          unfold Stop
          rename Cls _ _ => hcl
          rename News g9 _ _ _ => nn
          rename Fr g9 _ _ _ => ff
          first
            | (refine' inner_for (al := []) (s := s) hI rfl ?ha ?hlen rfl rfl rfl (m2_self rfl ff) nn ?hy rfl rfl rfl ?_ ?hE9
               case hy => (rw [← e00]; rfl)
               case ha => (intro c9 hc9; first | (cases hc9; done) | (simp only [List.mem_cons, List.not_mem_nil, or_false] at hc9; first | (subst hc9; exact hch) | (rcases hc9 with rfl | rfl; exact alph92; exact hch)))
               case hlen => ((try simp only [str_len, str_l1, len_e, len_bs, len_q, len_qs, len_sp]); simp only [List.length_cons, List.length_nil]; omega)
               case hE9 => passes_own)
            | (refine' inner_for (al := [ch]) (s := s) hI rfl ?ha ?hlen rfl rfl rfl (m2_self rfl ff) nn ?hy rfl rfl rfl ?_ ?hE9
               case hy => exact rfl
               case ha => (intro c9 hc9; first | (cases hc9; done) | (simp only [List.mem_cons, List.not_mem_nil, or_false] at hc9; first | (subst hc9; exact hch) | (rcases hc9 with rfl | rfl; exact alph92; exact hch)))
               case hlen => ((try simp only [str_len, str_l1, len_e, len_bs, len_q, len_qs, len_sp]); simp only [List.length_cons, List.length_nil]; omega)
               case hE9 => passes_own)
            | (refine' inner_for (al := [92, ch]) (s := s) hI rfl ?ha ?hlen rfl rfl rfl (m2_self rfl ff) nn ?hy rfl rfl rfl ?_ ?hE9
               case hy => (rw [← e92]; rfl)
               case ha => (intro c9 hc9; first | (cases hc9; done) | (simp only [List.mem_cons, List.not_mem_nil, or_false] at hc9; first | (subst hc9; exact hch) | (rcases hc9 with rfl | rfl; exact alph92; exact hch)))
               case hlen => ((try simp only [str_len, str_l1, len_e, len_bs, len_q, len_qs, len_sp]); simp only [List.length_cons, List.length_nil]; omega)
               case hE9 => passes_own)
          intro out9 uo9 v9 h9 tk9 hout F9 N9
          refine wpAny_execs_nil ?_
          show TurnT _ _ _ _ _ _ _ _ _
          refine ⟨⟨_, _, _, _, _, _, _⟩, ?_, _, _, _, rfl, frToT out9 uo9 _ _ _ F9 rfl rfl rfl rfl (by intro z a b c d e f i; first | exact frT_out a b c d e f i | (simp only [m2, a, b, c, d, e, f, i, if_false]; done) | (simp only [m2, a, b, c, d, e, f, i, if_false]; first | rfl | exact frT_out a b c d e f i | exact lk_out i)), N9⟩
          refine ⟨?_, ?_, ?_⟩
          · dsimp only
            rw [hout]
            clear hout
            first
              | with_reducible exact turn_N (fun _ => []) hq hcl (n_00 _) (by decide +kernel)
              | with_reducible exact turn_N (fun c => esc [c]) hq hcl (n_01 _ _) (by decide +kernel)
              | with_reducible exact turn_N (fun c => esc [92, c]) hq hcl (n_01 _ _) (by decide +kernel)
              | with_reducible exact turn_N (fun c => [34] ++ esc []) hq hcl (n_1 _ str_q) (by decide +kernel)
              | with_reducible exact turn_N (fun c => [34] ++ esc [c]) hq hcl (n_1 _ str_q) (by decide +kernel)
              | with_reducible exact turn_N (fun c => [34] ++ esc [92, c]) hq hcl (n_1 _ str_q) (by decide +kernel)
              | with_reducible exact turn_N (fun c => [34, 32] ++ esc []) hq hcl (n_1 _ str_qs) (by decide +kernel)
          · dsimp only
            rw [len_of, hout, List.length_append]
            have := esc_len [92, ch]
            have := esc_len [ch]
            have e0 := esc_nil
            simp only [str_app, str_one, str_e, str_bs, str_q, str_qs, str_sp, List.append_assoc, List.length_append, ← len_of, e0, List.length_cons, List.length_nil] at *
            omega
          · first | exact .inl ⟨rfl, .inl rfl⟩ | exact .inl ⟨rfl, .inr (.inl rfl)⟩ | exact .inl ⟨rfl, .inr (.inr (.inl rfl))⟩ | exact .inl ⟨rfl, .inr (.inr (.inr rfl))⟩ | exact .inr ⟨rfl, .inl rfl⟩ | exact .inr ⟨rfl, .inr (.inl rfl)⟩ | exact .inr ⟨rfl, .inr (.inr rfl)⟩)
      · have hcl := alph_all hch
        k_steps
        all_goals (
          unfold Stop
          rename Cls _ _ => hcl
          rename News g9 _ _ _ => nn
          rename Fr g9 _ _ _ => ff
          first
            | (refine' inner_for (al := []) (s := s) hI rfl ?ha ?hlen rfl rfl rfl (m2_self rfl ff) nn ?hy rfl rfl rfl ?_ ?hE9
               case hy => (rw [← e00]; rfl)
               case ha => (intro c9 hc9; first | (cases hc9; done) | (simp only [List.mem_cons, List.not_mem_nil, or_false] at hc9; first | (subst hc9; exact hch) | (rcases hc9 with rfl | rfl; exact alph92; exact hch)))
               case hlen => ((try simp only [str_len, str_l1, len_e, len_bs, len_q, len_qs, len_sp]); simp only [List.length_cons, List.length_nil]; omega)
               case hE9 => passes_own)
            | (refine' inner_for (al := [ch]) (s := s) hI rfl ?ha ?hlen rfl rfl rfl (m2_self rfl ff) nn ?hy rfl rfl rfl ?_ ?hE9
               case hy => exact rfl
               case ha => (intro c9 hc9; first | (cases hc9; done) | (simp only [List.mem_cons, List.not_mem_nil, or_false] at hc9; first | (subst hc9; exact hch) | (rcases hc9 with rfl | rfl; exact alph92; exact hch)))
               case hlen => ((try simp only [str_len, str_l1, len_e, len_bs, len_q, len_qs, len_sp]); simp only [List.length_cons, List.length_nil]; omega)
               case hE9 => passes_own)
            | (refine' inner_for (al := [92, ch]) (s := s) hI rfl ?ha ?hlen rfl rfl rfl (m2_self rfl ff) nn ?hy rfl rfl rfl ?_ ?hE9
               case hy => (rw [← e92]; rfl)
               case ha => (intro c9 hc9; first | (cases hc9; done) | (simp only [List.mem_cons, List.not_mem_nil, or_false] at hc9; first | (subst hc9; exact hch) | (rcases hc9 with rfl | rfl; exact alph92; exact hch)))
               case hlen => ((try simp only [str_len, str_l1, len_e, len_bs, len_q, len_qs, len_sp]); simp only [List.length_cons, List.length_nil]; omega)
               case hE9 => passes_own)
          intro out9 uo9 v9 h9 tk9 hout F9 N9
          refine wpAny_execs_nil ?_
          show TurnT _ _ _ _ _ _ _ _ _
          refine ⟨⟨_, _, _, _, _, _, _⟩, ?_, _, _, _, rfl, frToT out9 uo9 _ _ _ F9 rfl rfl rfl rfl (by intro z a b c d e f i; first | exact frT_out a b c d e f i | (simp only [m2, a, b, c, d, e, f, i, if_false]; done) | (simp only [m2, a, b, c, d, e, f, i, if_false]; first | rfl | exact frT_out a b c d e f i | exact lk_out i)), N9⟩
          refine ⟨?_, ?_, ?_⟩
          · dsimp only
            rw [hout]
            clear hout
            first
              | with_reducible exact turn_N (fun _ => []) hq hcl (n_00 _) (by decide +kernel)
              | with_reducible exact turn_N (fun c => esc [c]) hq hcl (n_01 _ _) (by decide +kernel)
              | with_reducible exact turn_N (fun c => esc [92, c]) hq hcl (n_01 _ _) (by decide +kernel)
              | with_reducible exact turn_N (fun c => [34] ++ esc []) hq hcl (n_1 _ str_q) (by decide +kernel)
              | with_reducible exact turn_N (fun c => [34] ++ esc [c]) hq hcl (n_1 _ str_q) (by decide +kernel)
              | with_reducible exact turn_N (fun c => [34] ++ esc [92, c]) hq hcl (n_1 _ str_q) (by decide +kernel)
              | with_reducible exact turn_N (fun c => [34, 32] ++ esc []) hq hcl (n_1 _ str_qs) (by decide +kernel)
          · dsimp only
            rw [len_of, hout, List.length_append]
            have := esc_len [92, ch]
            have := esc_len [ch]
            have e0 := esc_nil
            simp only [str_app, str_one, str_e, str_bs, str_q, str_qs, str_sp, List.append_assoc, List.length_append, ← len_of, e0, List.length_cons, List.length_nil] at *
            omega
          · first | exact .inl ⟨rfl, .inl rfl⟩ | exact .inl ⟨rfl, .inr (.inl rfl)⟩ | exact .inl ⟨rfl, .inr (.inr (.inl rfl))⟩ | exact .inl ⟨rfl, .inr (.inr (.inr rfl))⟩ | exact .inr ⟨rfl, .inl rfl⟩ | exact .inr ⟨rfl, .inr (.inl rfl)⟩ | exact .inr ⟨rfl, .inr (.inr rfl)⟩)
      · (have hcl := alph_all hch); k_steps
        all_goals (
          unfold Stop
          rename Cls _ _ => hcl
          rename News g9 _ _ _ => nn
          rename Fr g9 _ _ _ => ff
          first
            | (refine' inner_for (al := []) (s := s) hI rfl ?ha ?hlen rfl rfl rfl (m2_self rfl ff) nn ?hy rfl rfl rfl ?_ ?hE9
               case hy => (rw [← e00]; rfl)
               case ha => (intro c9 hc9; first | (cases hc9; done) | (simp only [List.mem_cons, List.not_mem_nil, or_false] at hc9; first | (subst hc9; exact hch) | (rcases hc9 with rfl | rfl; exact alph92; exact hch)))
               case hlen => ((try simp only [str_len, str_l1, len_e, len_bs, len_q, len_qs, len_sp]); simp only [List.length_cons, List.length_nil]; omega)
               case hE9 => passes_own)
            | (refine' inner_for (al := [ch]) (s := s) hI rfl ?ha ?hlen rfl rfl rfl (m2_self rfl ff) nn ?hy rfl rfl rfl ?_ ?hE9
               case hy => exact rfl
               case ha => (intro c9 hc9; first | (cases hc9; done) | (simp only [List.mem_cons, List.not_mem_nil, or_false] at hc9; first | (subst hc9; exact hch) | (rcases hc9 with rfl | rfl; exact alph92; exact hch)))
               case hlen => ((try simp only [str_len, str_l1, len_e, len_bs, len_q, len_qs, len_sp]); simp only [List.length_cons, List.length_nil]; omega)
               case hE9 => passes_own)
            | (refine' inner_for (al := [92, ch]) (s := s) hI rfl ?ha ?hlen rfl rfl rfl (m2_self rfl ff) nn ?hy rfl rfl rfl ?_ ?hE9
               case hy => (rw [← e92]; rfl)
               case ha => (intro c9 hc9; first | (cases hc9; done) | (simp only [List.mem_cons, List.not_mem_nil, or_false] at hc9; first | (subst hc9; exact hch) | (rcases hc9 with rfl | rfl; exact alph92; exact hch)))
               case hlen => ((try simp only [str_len, str_l1, len_e, len_bs, len_q, len_qs, len_sp]); simp only [List.length_cons, List.length_nil]; omega)
               case hE9 => passes_own)
          intro out9 uo9 v9 h9 tk9 hout F9 N9
          refine wpAny_execs_nil ?_
          show TurnT _ _ _ _ _ _ _ _ _
          refine ⟨⟨_, _, _, _, _, _, _⟩, ?_, _, _, _, rfl, frToT out9 uo9 _ _ _ F9 rfl rfl rfl rfl (by intro z a b c d e f i; first | exact frT_out a b c d e f i | (simp only [m2, a, b, c, d, e, f, i, if_false]; done) | (simp only [m2, a, b, c, d, e, f, i, if_false]; first | rfl | exact frT_out a b c d e f i | exact lk_out i)), N9⟩
          refine ⟨?_, ?_, ?_⟩
          · dsimp only
            rw [hout]
            clear hout
            first
              | with_reducible exact turn_N (fun _ => []) hq hcl (n_00 _) (by decide +kernel)
              | with_reducible exact turn_N (fun c => esc [c]) hq hcl (n_01 _ _) (by decide +kernel)
              | with_reducible exact turn_N (fun c => esc [92, c]) hq hcl (n_01 _ _) (by decide +kernel)
              | with_reducible exact turn_N (fun c => [34] ++ esc []) hq hcl (n_1 _ str_q) (by decide +kernel)
              | with_reducible exact turn_N (fun c => [34] ++ esc [c]) hq hcl (n_1 _ str_q) (by decide +kernel)
              | with_reducible exact turn_N (fun c => [34] ++ esc [92, c]) hq hcl (n_1 _ str_q) (by decide +kernel)
              | with_reducible exact turn_N (fun c => [34, 32] ++ esc []) hq hcl (n_1 _ str_qs) (by decide +kernel)
          · dsimp only
            rw [len_of, hout, List.length_append]
            have := esc_len [92, ch]
            have := esc_len [ch]
            have e0 := esc_nil
            simp only [str_app, str_one, str_e, str_bs, str_q, str_qs, str_sp, List.append_assoc, List.length_append, ← len_of, e0, List.length_cons, List.length_nil] at *
            omega
          · first | exact .inl ⟨rfl, .inl rfl⟩ | exact .inl ⟨rfl, .inr (.inl rfl)⟩ | exact .inl ⟨rfl, .inr (.inr (.inl rfl))⟩ | exact .inl ⟨rfl, .inr (.inr (.inr rfl))⟩ | exact .inr ⟨rfl, .inl rfl⟩ | exact .inr ⟨rfl, .inr (.inl rfl)⟩ | exact .inr ⟨rfl, .inr (.inr rfl)⟩)
      · (have hcl := alph_all hch); k_steps
        all_goals (
          unfold Stop
          rename Cls _ _ => hcl
          rename News g9 _ _ _ => nn
          rename Fr g9 _ _ _ => ff
          first
            | (refine' inner_for (al := []) (s := s) hI rfl ?ha ?hlen rfl rfl rfl (m2_self rfl ff) nn ?hy rfl rfl rfl ?_ ?hE9
               case hy => (rw [← e00]; rfl)
               case ha => (intro c9 hc9; first | (cases hc9; done) | (simp only [List.mem_cons, List.not_mem_nil, or_false] at hc9; first | (subst hc9; exact hch) | (rcases hc9 with rfl | rfl; exact alph92; exact hch)))
               case hlen => ((try simp only [str_len, str_l1, len_e, len_bs, len_q, len_qs, len_sp]); simp only [List.length_cons, List.length_nil]; omega)
               case hE9 => passes_own)
            | (refine' inner_for (al := [ch]) (s := s) hI rfl ?ha ?hlen rfl rfl rfl (m2_self rfl ff) nn ?hy rfl rfl rfl ?_ ?hE9
               case hy => exact rfl
               case ha => (intro c9 hc9; first | (cases hc9; done) | (simp only [List.mem_cons, List.not_mem_nil, or_false] at hc9; first | (subst hc9; exact hch) | (rcases hc9 with rfl | rfl; exact alph92; exact hch)))
               case hlen => ((try simp only [str_len, str_l1, len_e, len_bs, len_q, len_qs, len_sp]); simp only [List.length_cons, List.length_nil]; omega)
               case hE9 => passes_own)
            | (refine' inner_for (al := [92, ch]) (s := s) hI rfl ?ha ?hlen rfl rfl rfl (m2_self rfl ff) nn ?hy rfl rfl rfl ?_ ?hE9
               case hy => (rw [← e92]; rfl)
               case ha => (intro c9 hc9; first | (cases hc9; done) | (simp only [List.mem_cons, List.not_mem_nil, or_false] at hc9; first | (subst hc9; exact hch) | (rcases hc9 with rfl | rfl; exact alph92; exact hch)))
               case hlen => ((try simp only [str_len, str_l1, len_e, len_bs, len_q, len_qs, len_sp]); simp only [List.length_cons, List.length_nil]; omega)
               case hE9 => passes_own)
          intro out9 uo9 v9 h9 tk9 hout F9 N9
          refine wpAny_execs_nil ?_
          show TurnT _ _ _ _ _ _ _ _ _
          refine ⟨⟨_, _, _, _, _, _, _⟩, ?_, _, _, _, rfl, frToT out9 uo9 _ _ _ F9 rfl rfl rfl rfl (by intro z a b c d e f i; first | exact frT_out a b c d e f i | (simp only [m2, a, b, c, d, e, f, i, if_false]; done) | (simp only [m2, a, b, c, d, e, f, i, if_false]; first | rfl | exact frT_out a b c d e f i | exact lk_out i)), N9⟩
          refine ⟨?_, ?_, ?_⟩
          · dsimp only
            rw [hout]
            clear hout
            first
              | with_reducible exact turn_N (fun _ => []) hq hcl (n_00 _) (by decide +kernel)
              | with_reducible exact turn_N (fun c => esc [c]) hq hcl (n_01 _ _) (by decide +kernel)
              | with_reducible exact turn_N (fun c => esc [92, c]) hq hcl (n_01 _ _) (by decide +kernel)
              | with_reducible exact turn_N (fun c => [34] ++ esc []) hq hcl (n_1 _ str_q) (by decide +kernel)
              | with_reducible exact turn_N (fun c => [34] ++ esc [c]) hq hcl (n_1 _ str_q) (by decide +kernel)
              | with_reducible exact turn_N (fun c => [34] ++ esc [92, c]) hq hcl (n_1 _ str_q) (by decide +kernel)
              | with_reducible exact turn_N (fun c => [34, 32] ++ esc []) hq hcl (n_1 _ str_qs) (by decide +kernel)
          · dsimp only
            rw [len_of, hout, List.length_append]
            have := esc_len [92, ch]
            have := esc_len [ch]
            have e0 := esc_nil
            simp only [str_app, str_one, str_e, str_bs, str_q, str_qs, str_sp, List.append_assoc, List.length_append, ← len_of, e0, List.length_cons, List.length_nil] at *
            omega
          · first | exact .inl ⟨rfl, .inl rfl⟩ | exact .inl ⟨rfl, .inr (.inl rfl)⟩ | exact .inl ⟨rfl, .inr (.inr (.inl rfl))⟩ | exact .inl ⟨rfl, .inr (.inr (.inr rfl))⟩ | exact .inr ⟨rfl, .inl rfl⟩ | exact .inr ⟨rfl, .inr (.inl rfl)⟩ | exact .inr ⟨rfl, .inr (.inr rfl)⟩)
      · have hcl := alph_all hch
        k_steps
        all_goals (
          unfold Stop
          rename Cls _ _ => hcl
          rename News g9 _ _ _ => nn
          rename Fr g9 _ _ _ => ff
          first
            | (refine' inner_for (al := []) (s := s) hI rfl ?ha ?hlen rfl rfl rfl (m2_self rfl ff) nn ?hy rfl rfl rfl ?_ ?hE9
               case hy => (rw [← e00]; rfl)
               case ha => (intro c9 hc9; first | (cases hc9; done) | (simp only [List.mem_cons, List.not_mem_nil, or_false] at hc9; first | (subst hc9; exact hch) | (rcases hc9 with rfl | rfl; exact alph92; exact hch)))
               case hlen => ((try simp only [str_len, str_l1, len_e, len_bs, len_q, len_qs, len_sp]); simp only [List.length_cons, List.length_nil]; omega)
               case hE9 => passes_own)
            | (refine' inner_for (al := [ch]) (s := s) hI rfl ?ha ?hlen rfl rfl rfl (m2_self rfl ff) nn ?hy rfl rfl rfl ?_ ?hE9
               case hy => exact rfl
               case ha => (intro c9 hc9; first | (cases hc9; done) | (simp only [List.mem_cons, List.not_mem_nil, or_false] at hc9; first | (subst hc9; exact hch) | (rcases hc9 with rfl | rfl; exact alph92; exact hch)))
               case hlen => ((try simp only [str_len, str_l1, len_e, len_bs, len_q, len_qs, len_sp]); simp only [List.length_cons, List.length_nil]; omega)
               case hE9 => passes_own)
            | (refine' inner_for (al := [92, ch]) (s := s) hI rfl ?ha ?hlen rfl rfl rfl (m2_self rfl ff) nn ?hy rfl rfl rfl ?_ ?hE9
               case hy => (rw [← e92]; rfl)
               case ha => (intro c9 hc9; first | (cases hc9; done) | (simp only [List.mem_cons, List.not_mem_nil, or_false] at hc9; first | (subst hc9; exact hch) | (rcases hc9 with rfl | rfl; exact alph92; exact hch)))
               case hlen => ((try simp only [str_len, str_l1, len_e, len_bs, len_q, len_qs, len_sp]); simp only [List.length_cons, List.length_nil]; omega)
               case hE9 => passes_own)
          intro out9 uo9 v9 h9 tk9 hout F9 N9
          refine wpAny_execs_nil ?_
          show TurnT _ _ _ _ _ _ _ _ _
          refine ⟨⟨_, _, _, _, _, _, _⟩, ?_, _, _, _, rfl, frToT out9 uo9 _ _ _ F9 rfl rfl rfl rfl (by intro z a b c d e f i; first | exact frT_out a b c d e f i | (simp only [m2, a, b, c, d, e, f, i, if_false]; done) | (simp only [m2, a, b, c, d, e, f, i, if_false]; first | rfl | exact frT_out a b c d e f i | exact lk_out i)), N9⟩
          refine ⟨?_, ?_, ?_⟩
          · dsimp only
            rw [hout]
            clear hout
            first
              | with_reducible exact turn_N (fun _ => []) hq hcl (n_00 _) (by decide +kernel)
              | with_reducible exact turn_N (fun c => esc [c]) hq hcl (n_01 _ _) (by decide +kernel)
              | with_reducible exact turn_N (fun c => esc [92, c]) hq hcl (n_01 _ _) (by decide +kernel)
              | with_reducible exact turn_N (fun c => [34] ++ esc []) hq hcl (n_1 _ str_q) (by decide +kernel)
              | with_reducible exact turn_N (fun c => [34] ++ esc [c]) hq hcl (n_1 _ str_q) (by decide +kernel)
              | with_reducible exact turn_N (fun c => [34] ++ esc [92, c]) hq hcl (n_1 _ str_q) (by decide +kernel)
              | with_reducible exact turn_N (fun c => [34, 32] ++ esc []) hq hcl (n_1 _ str_qs) (by decide +kernel)
          · dsimp only
            rw [len_of, hout, List.length_append]
            have := esc_len [92, ch]
            have := esc_len [ch]
            have e0 := esc_nil
            simp only [str_app, str_one, str_e, str_bs, str_q, str_qs, str_sp, List.append_assoc, List.length_append, ← len_of, e0, List.length_cons, List.length_nil] at *
            omega
          · first | exact .inl ⟨rfl, .inl rfl⟩ | exact .inl ⟨rfl, .inr (.inl rfl)⟩ | exact .inl ⟨rfl, .inr (.inr (.inl rfl))⟩ | exact .inl ⟨rfl, .inr (.inr (.inr rfl))⟩ | exact .inr ⟨rfl, .inl rfl⟩ | exact .inr ⟨rfl, .inr (.inl rfl)⟩ | exact .inr ⟨rfl, .inr (.inr rfl)⟩)
end
/- L0 -/
section
set_option maxRecDepth 100000
theorem cnt_count (c : Nat) : ∀ l : List Nat, cnt c l = ((l.count c : Nat) : Int)
  | [] => rfl
  | n :: r => by
    rw [cnt_cons, cnt_count c r, List.count_cons]
    by_cases h : n = c
    · subst h
      simp
      omega
    · have : (n == c) = false := beq_eq_false_iff_ne.mpr h
      simp [h, this]
theorem count_nl (l : List Nat) : (Txt.count ⟨l.toArray⟩ (Str.ofString "\n") : Int) = ((l.count 10 : Nat) : Int) := by
  rw [show Str.ofString "\n" = ⟨#[10]⟩ from by decide +kernel, count_cnt, cnt_count]
theorem news_d3 {h₀ h : Heap} {L : Addr} {a b c : Addr × Obj} {rest : List (Addr × Obj)} (N : News h₀ L h (a :: b :: c :: rest)) : News h₀ L h (a :: b :: rest) := by
  intro p hp
  rcases List.mem_cons.mp hp with rfl | hp
  · exact N _ (.head _)
  · rcases List.mem_cons.mp hp with rfl | hp
    · exact N _ (.tail _ (.head _))
    · exact N _ (.tail _ (.tail _ (.tail _ hp)))
end
/- L1 -/
section
set_option maxRecDepth 100000
set_option maxHeartbeats 0
set_option rowWalk.seconds 0
theorem du_c {w : World} {mean : ExcName → Option Value} {mg mb : Str → Option Value} {gd : Option (List Code)} {cn : Str} {nm : List (Str × NameKind)} {gn co : Bool} {mo : List (Str × Const)} {a : Addr} {ccd : Value} {cl : List (Str × Addr)} {outer : List Env} {A₀ : Around} {base h₀ : Heap} {L : Addr} {m : Str → Option Value} {s : Shared} {Q E : Value → Shared → Prop}
   {l : List Nat} {t : Tok} {S : Addr} {vs : List Value} {c : Nat} {rest : List (Addr × Obj)}
   (B : Below A₀ base outer h₀) (F : Fr h₀ L s.heap m) (X : (Mine.hd.heap_1 w.params).In h₀) (N : News h₀ L s.heap ((S, listOf vs.toArray c) :: rest)) (T : Top vq (looseW vq vl) mean mg mb h₀)
   (hx : l.length ≤ 400) (hv : vs.length ≤ 400)
   (r : ∀ S2 S1 h' tk u u1 u2, Fr h₀ L h' m → News h₀ L h' ((S2, listOf #[.ref S1, .int (((l.count 10 : Nat) : Int) + 1) u] 0) :: (S1, listOf (vs ++ [Value.str (Str.ofString "") u1, Value.str (Str.ofString "") u2]).toArray 0) :: (S, listOf vs.toArray c) :: rest) → Q (.ref S2) { s with heap := h', toks := tk }) :
   wpAny (model pr w) (ktrTop 600 4000 gd cn ⟨.function, nm, gn, co, mo⟩ L a ccd cl outer) (call (.ref 814) [.str ⟨l.toArray⟩ t, .ref S]) Q E s := by
  w_on
  have hfill : PySem.Challenge.rw_nq0227_01 = PySem.Challenge.rw_nq0227_01 ∧ Mine.hd.heap_1 = Mine.hd.heap_1 := by
    k_fill
    exact ⟨rfl, rfl⟩
  clear hfill
  refine wpAny_call ?_
  k_dflt k_enter
  k_steps
  rename News h₀ _ _ _ => nn
  dsimp only at nn
  rw [count_nl] at nn
  exact r _ _ _ _ _ _ _ (by k_asm) (news_d3 nn)
end
/- N0 -/
section
set_option maxRecDepth 100000
set_option maxHeartbeats 4000000
/-- netrc's words, one after another -/
noncomputable def readN : Nat → List Nat → List (List Nat) × List Nat
  | 0, l => ([], l)
  | n + 1, l => ((nt l).1 :: (readN n (nt l).2).1, (readN n (nt l).2).2)
theorem comp_ind {prog : Program} {w : World} {A : Around} {s : Shared} {h₀ : Heap} {L : Addr} {m : Str → Option Value} {env : Env} {elt : Expr} {x : Str} {scope : Scope} {cl : List (Str × Addr)} {S : List (Addr × Obj) → Prop} {P : Nat → Value → Prop} {Fin : List Value → List (Addr × Obj) → Prop}
    (J : Nat → Nat → List Value → List (Addr × Obj) → Prop) (h0 : ∀ i ys news, J 0 i ys news → Fin ys news)
    (hs : ∀ j i ys news, J (j + 1) i ys news → ∀ v I oI C oC D m₂ h tk (E' : Value → Shared → Prop), P i v → LCg.NsObj oC m₂ → m₂ x = some v → Fr h₀ L h m → News h₀ L h ((I, oI) :: (C, oC) :: (D, LCg.lst ys) :: news) → LCg.Off3 I C D news → ((@Ne Nat I C) ∧ (@Ne Nat I D) ∧ (@Ne Nat C D)) →
      wpAny (model prog w) A (eval elt (compEnvC scope cl C env)) (LCg.CompEnd h₀ L m { s with heap := h, toks := tk } I oI C oC D (LCg.lst ys) S (fun y news' => J j (i + 1) (ys ++ [y]) news')) E' { s with heap := h, toks := tk }) :
    ∀ j i ys news, J j i ys news → LCg.CompRest prog w A h₀ L m env elt x scope cl s S P Fin j i ys news := by
  intro j
  induction j with
  | zero => intro i ys news hJ; exact LCg.CompRest.zero (h0 i ys news hJ)
  | succ j ih =>
    intro i ys news hJ
    refine LCg.CompRest.succ fun v I oI C oC D m₂ h tk E' a1 a2 a3 a4 a5 a6 a7 => ?_
    refine wpAny_mono (hs j i ys news hJ v I oI C oC D m₂ h tk E' a1 a2 a3 a4 a5 a6 a7) (fun y s₂ q => ?_) fun _ _ z => z
    obtain ⟨h', tk', news', b1, b2, b3, b4, b5, b6⟩ := q
    exact ⟨h', tk', news', b1, b2, b3, b4, b5, ih (i + 1) (ys ++ [y]) news' b6⟩
end
/- N2 -/
section
set_option maxRecDepth 100000
set_option maxHeartbeats 4000000
theorem news_3b {h₀ h : Heap} {L : Addr} {a b c d1 d2 d3 d4 d5 : Addr × Obj} {rest : List (Addr × Obj)} (N : News h₀ L h (a :: b :: c :: d1 :: d2 :: d3 :: d4 :: d5 :: rest)) : News h₀ L h (d1 :: d2 :: d3 :: d4 :: d5 :: a :: b :: c :: rest) := by
  intro p hp
  refine N p ?_
  simp only [List.mem_cons] at hp ⊢
  rcases hp with h | h | h | h | h | h | h | h | h <;> simp [h]
theorem news_3f {h₀ h : Heap} {L : Addr} {a b c d1 d2 d3 d4 d5 : Addr × Obj} {rest : List (Addr × Obj)} (N : News h₀ L h (d1 :: d2 :: d3 :: d4 :: d5 :: a :: b :: c :: rest)) : News h₀ L h (a :: b :: c :: d1 :: d2 :: d3 :: d4 :: d5 :: rest) := by
  intro p hp
  refine N p ?_
  simp only [List.mem_cons] at hp ⊢
  rcases hp with h | h | h | h | h | h | h | h | h <;> simp [h]
theorem gn_c3 {w : World} {mean : ExcName → Option Value} {mg mb : Str → Option Value} {gd : Option (List Code)} {cn : Str} {nm : List (Str × NameKind)} {gn co : Bool} {mo : List (Str × Const)} {a : Addr} {ccd : Value} {cl : List (Str × Addr)} {outer : List Env} {A₀ : Around} {base h₀ : Heap} {L : Addr} {m : Str → Option Value} {s : Shared} {Q E : Value → Shared → Prop}
   {l : List Nat} {k : Nat} {nr nd io d pl : Addr} {T9 : NT} {t1 u1 t2 u2 t3 ul up : Tok} {cc : Nat} {rest : List (Addr × Obj)} {p1 p2 p3 : Addr × Obj}
   (B : Below A₀ base outer h₀) (F : Fr h₀ L s.heap m) (X : (Mine.hd.heap_1 w.params).In h₀) (N : News h₀ L s.heap (p1 :: p2 :: p3 :: (nr, instObj 772 nd) :: (nd, nrD w T9 io pl (lnAt l k) ul) :: (io, instObj 587 d) :: (d, ioD w t1 u1 t2 u2 t3 up ⟨l.toArray⟩ k) :: (pl, listOf #[] cc) :: rest)) (T : Top vq (looseW vq vl) mean mg mb h₀)
   (hx : l.length ≤ 400) (hal : ∀ c ∈ l, alph c) (hk : k ≤ l.length) (n1 : @Ne Nat nr nd) (n2 : @Ne Nat nr d) (n3 : @Ne Nat nd d) (n4 : @Ne Nat io d) (n5 : @Ne Nat io nd) (n6 : @Ne Nat pl d) (n7 : @Ne Nat pl nd) (hr : ∀ q ∈ rest, q.1 ≠ d) (hr2 : ∀ q ∈ rest, q.1 ≠ nd)
   (q1 : @Ne Nat p1.1 d ∧ @Ne Nat p1.1 nd) (q2 : @Ne Nat p2.1 d ∧ @Ne Nat p2.1 nd) (q3 : @Ne Nat p3.1 d ∧ @Ne Nat p3.1 nd)
   (r : ∀ wd rs, nt (l.drop k) = (wd, rs) → ∀ h' tk k' ul' up' t', k' ≤ l.length → l.drop k' = rs → wd.length ≤ 400 → Fr h₀ L h' m → News h₀ L h' (p1 :: p2 :: p3 :: ledNR w T9 l nr nd io d pl t1 u1 t2 u2 t3 cc rest k' ul' up') → Q (.str ⟨wd.toArray⟩ t') { s with heap := h', toks := tk }) :
   wpAny (model pr w) (ktrTop 620 4200 gd cn ⟨.function, nm, gn, co, mo⟩ L a ccd cl outer) (call (.ref 762) [.ref nr]) Q E s := by
  refine gn_c B F X (news_3b N) T hx hal hk n1 n2 n3 n4 n5 n6 n7 ?_ ?_ (fun wd rs hw h' tk k' ul' up' t' z1 z2 z3 F' N' => r wd rs hw h' tk k' ul' up' t' z1 z2 z3 F' (news_3f N'))
  · exact List.forall_mem_cons.mpr ⟨q1.1, List.forall_mem_cons.mpr ⟨q2.1, List.forall_mem_cons.mpr ⟨q3.1, hr⟩⟩⟩
  · exact List.forall_mem_cons.mpr ⟨q1.2, List.forall_mem_cons.mpr ⟨q2.2, List.forall_mem_cons.mpr ⟨q3.2, hr2⟩⟩⟩
theorem nr_ready {w : World} {g h : Heap} {L nr nd io d pl ce : Addr} {oce : Obj} {x1 x2 x3 x4 : Addr × Obj} {l : List Nat} {b0 b1 b2 b3 vw t1 u1 t2 u2 t3 u3 ul : Tok} {rest : List (Addr × Obj)} {a1 a2 a5 a6 c1 c2 : Addr}
    (N : News g L h ((pl, listOf #[] 0) :: (nr, instObj 772 nd) :: (nd, dictOf [⟨PyData.keyHash w.params "lineno", .str "lineno" b0, .int 1 ul⟩, ⟨PyData.keyHash w.params "instream", .str "instream" b1, .ref io⟩,
   ⟨PyData.keyHash w.params "whitespace", .str "whitespace" b2, .str "\n\t\r " vw⟩, ⟨PyData.keyHash w.params "pushback", .str "pushback" b3, .ref pl⟩] 4) :: x1 :: x2 :: (io, instObj 587 d) :: (d, ioD w t1 u1 t2 u2 t3 u3 ⟨l.toArray⟩ 0) :: x3 :: x4 :: (ce, oce) :: rest))
    (lnd : a1 < nd ∧ a2 < nd ∧ io < nd ∧ d < nd ∧ a5 < nd ∧ a6 < nd ∧ ce < nd ∧ AllLt nd rest) (ld9 : c1 < d ∧ c2 < d ∧ ce < d ∧ AllLt d rest) :
    News g L h (ledNR w ⟨b0, b1, b2, b3, vw⟩ l nr nd io d pl t1 u1 t2 u2 t3 0 ((ce, oce) :: rest) 0 ul u3) ∧ (@Ne Nat nr nd ∧ @Ne Nat nr d ∧ @Ne Nat nd d ∧ @Ne Nat io d ∧ @Ne Nat io nd ∧ @Ne Nat pl d ∧ @Ne Nat pl nd) ∧ (∀ q ∈ (ce, oce) :: rest, q.1 ≠ d) ∧ (∀ q ∈ (ce, oce) :: rest, q.1 ≠ nd) := by
  have e0 : lnAt l 0 = 1 := by simp [lnAt]
  refine ⟨?_, ⟨?_, ?_, ?_, ?_, ?_, ?_, ?_⟩, List.forall_mem_cons.mpr ⟨Nat.ne_of_lt ld9.2.2.1, fun q hq => Nat.ne_of_lt (allLt_mem ld9.2.2.2 q hq)⟩, List.forall_mem_cons.mpr ⟨Nat.ne_of_lt lnd.2.2.2.2.2.2.1, fun q hq => Nat.ne_of_lt (allLt_mem lnd.2.2.2.2.2.2.2 q hq)⟩⟩
  · unfold ledNR
    dsimp only [nrD]
    rw [e0]
    intro p hp
    refine N p ?_
    simp only [List.mem_cons] at hp ⊢
    rcases hp with h | h | h | h | h | h | h <;> simp [h]
  · exact News.ne_of_cls N (.tail _ (.head _)) (.tail _ (.tail _ (.head _))) (show Value.ref 772 ≠ Value.type "dict" by decide)
  · exact News.ne_of_cls N (.tail _ (.head _)) (.tail _ (.tail _ (.tail _ (.tail _ (.tail _ (.tail _ (.head _))))))) (show Value.ref 772 ≠ Value.type "dict" by decide)
  · exact Nat.ne_of_gt lnd.2.2.2.1
  · exact News.ne_of_cls N (.tail _ (.tail _ (.tail _ (.tail _ (.tail _ (.head _)))))) (.tail _ (.tail _ (.tail _ (.tail _ (.tail _ (.tail _ (.head _))))))) (show Value.ref 587 ≠ Value.type "dict" by decide)
  · exact Nat.ne_of_lt lnd.2.2.1
  · exact News.ne_of_cls N (.head _) (.tail _ (.tail _ (.tail _ (.tail _ (.tail _ (.tail _ (.head _))))))) (show Value.type "list" ≠ Value.type "dict" by decide)
  · exact News.ne_of_cls N (.head _) (.tail _ (.tail _ (.head _))) (show Value.type "list" ≠ Value.type "dict" by decide)
theorem news_cut6 {h₀ h : Heap} {L : Addr} {a b c1 c2 c3 c4 c5 c6 : Addr × Obj} {rest : List (Addr × Obj)} (N : News h₀ L h (a :: b :: c1 :: c2 :: c3 :: c4 :: c5 :: c6 :: rest)) : News h₀ L h (a :: b :: rest) := by
  intro p hp
  refine N p ?_
  simp only [List.mem_cons] at hp ⊢
  rcases hp with h | h | h <;> simp [h]
theorem rg_small {n : Nat} (hn : n ≤ 400) : Builtin.Range.small 0 ((n : Int) + 2) 1 = true := small_one (by decide) (by decide) (by omega) (by omega)
theorem rg_size {n : Nat} : Builtin.Range.rangeSize 0 ((n : Int) + 2) 1 = ((n + 2 : Nat) : Int) := by
  rw [rangeSize_nat]
  omega
theorem rg_line {n : Nat} (hn : n ≤ 400) : n + 2 ≤ sizeLine := by
  have : (500 : Nat) ≤ sizeLine := by decide +kernel
  omega
noncomputable def ElemQ (h₀ : Heap) (L : Addr) (m : Str → Option Value) (s : Shared) (l : List Nat) (led : Nat → Tok → Tok → List (Addr × Obj)) (I : Addr) (oI : Obj) (C : Addr) (oC : Obj) (D : Addr) (oD : Obj) (k : Nat) (y : Value) (s₂ : Shared) : Prop :=
  ∃ t' k' ul' up' h' tk', y = .str ⟨(nt (l.drop k)).1.toArray⟩ t' ∧ k' ≤ l.length ∧ l.drop k' = (nt (l.drop k)).2 ∧ s₂ = { s with heap := h', toks := tk' } ∧ Fr h₀ L h' m ∧ News h₀ L h' ((I, oI) :: (C, oC) :: (D, oD) :: led k' ul' up')
theorem comp_read {w : World} {A : Around} {s : Shared} {h₀ : Heap} {L : Addr} {m : Str → Option Value} {env : Env} {elt : Expr} {x : Str} {scope : Scope} {cl : List (Str × Addr)} {P : Nat → Value → Prop} {Fin : List Value → List (Addr × Obj) → Prop}
    {l : List Nat} {nr nd io d pl : Addr} {T9 : NT} {t1 u1 t2 u2 t3 ul0 up0 : Tok} {cc n : Nat} {rest : List (Addr × Obj)}
    (elem : ∀ k ul up ys v I oI C oC D m₂ h tk (E' : Value → Shared → Prop), k ≤ l.length → LCg.NsObj oC m₂ → m₂ x = some v → Fr h₀ L h m → News h₀ L h ((I, oI) :: (C, oC) :: (D, LCg.lst ys) :: ledNR w T9 l nr nd io d pl t1 u1 t2 u2 t3 cc rest k ul up) → LCg.Off3 I C D (ledNR w T9 l nr nd io d pl t1 u1 t2 u2 t3 cc rest k ul up) →
      wpAny (model pr w) A (eval elt (compEnvC scope cl C env)) (ElemQ h₀ L m s l (fun k ul up => ledNR w T9 l nr nd io d pl t1 u1 t2 u2 t3 cc rest k ul up) I oI C oC D (LCg.lst ys) k) E' { s with heap := h, toks := tk })
    (fin : ∀ ys k ul up, SV ys (readN n l).1 → ys.length = n → k ≤ l.length → l.drop k = (readN n l).2 → Fin ys (ledNR w T9 l nr nd io d pl t1 u1 t2 u2 t3 cc rest k ul up)) :
    LCg.CompRest pr w A h₀ L m env elt x scope cl s (fun _ => True) P Fin n 0 [] (ledNR w T9 l nr nd io d pl t1 u1 t2 u2 t3 cc rest 0 ul0 up0) := by
  have off : ∀ {I C D : Addr} {k k' : Nat} {ul up ul' up' : Tok}, LCg.Off3 I C D (ledNR w T9 l nr nd io d pl t1 u1 t2 u2 t3 cc rest k ul up) → LCg.Off3 I C D (ledNR w T9 l nr nd io d pl t1 u1 t2 u2 t3 cc rest k' ul' up') := fun o => o
  refine comp_ind (fun j i ys news => ∃ k ul up ws, news = ledNR w T9 l nr nd io d pl t1 u1 t2 u2 t3 cc rest k ul up ∧ k ≤ l.length ∧ SV ys ws ∧ ys.length + j = n ∧ (ws ++ (readN j (l.drop k)).1, (readN j (l.drop k)).2) = readN n l) ?_ ?_ n 0 [] _ ⟨0, ul0, up0, [], rfl, Nat.zero_le _, trivial, by simp, by simp⟩
  · rintro i ys news ⟨k, ul, up, ws, rfl, hk, hsv, hl, he⟩
    have e1 := congrArg Prod.fst he
    have e2 := congrArg Prod.snd he
    simp only [readN, List.append_nil] at e1 e2
    exact fin ys k ul up (e1 ▸ hsv) (by omega) hk e2
  · rintro j i ys news ⟨k, ul, up, ws, rfl, hk, hsv, hl, he⟩ v I oI C oC D m₂ h tk E' a1 a2 a3 a4 a5 a6 a7
    refine wpAny_mono (elem k ul up ys v I oI C oC D m₂ h tk E' hk a2 a3 a4 a5 a6) (fun y s₂ q => ?_) fun _ _ z => z
    obtain ⟨t', k', ul', up', h', tk', rfl, q1, q2, rfl, q3, q4⟩ := q
    refine ⟨h', tk', _, rfl, q3, q4, off a6, trivial, k', ul', up', ws ++ [(nt (l.drop k)).1], rfl, q1, hsv.snoc, by simp only [List.length_append, List.length_cons, List.length_nil]; omega, ?_⟩
    rw [← he, q2]
    simp [readN]
end
/- N1 -/
section
set_option maxRecDepth 100000
set_option maxHeartbeats 0
set_option rowWalk.seconds 0
local macro_rules | `(tactic| walk_at "call ref") => `(tactic| (k_here; (with_reducible show wpAny _ _ (call (Value.ref 722) _) _ _ _); k_dflt ((show wpAny _ _ (call (Value.ref 722) [Value.str _ _]) _ _ _); refine' wpAny_le (lex_io ?B ?F ?X ?N ?T ?hx ?_) ?h1 ?h2 ?h3 ?h4 ?h5; (case h1 => exact rfl); (case h3 => exact rfl); (case h4 => exact rfl); (case h2 => exact Nat.le_of_ble_eq_true rfl); (case h5 => exact Nat.le_of_ble_eq_true rfl); (case B => k_asm); (case F => k_asm); (case X => k_asm); (case N => k_asm); (case T => k_asm); (case hx => assumption); k_whole; (refine stop_of ?_))))
local macro_rules | `(tactic| walk_at "exec Assign cons ListComp") => `(tactic| refine stop_of ?_)
local macro_rules | `(tactic| walk_at "CompSrc") => `(tactic| refine stop_of ?_)
local macro_rules | `(tactic| walk_at "call ref") => `(tactic| (k_here; (with_reducible show wpAny _ _ (call (Value.ref 762) _) _ _ _); k_dflt ((show wpAny _ _ (call (Value.ref 762) [Value.ref _]) _ _ _); refine' wpAny_le (gn_c3 ?B ?F ?X ?N ?T ?hx ?hal ?hk ?n1 ?n2 ?n3 ?n4 ?n5 ?n6 ?n7 ?hr ?hr2 ?q1 ?q2 ?q3 ?_) ?h1 ?h2 ?h3 ?h4 ?h5; (case h1 => exact rfl); (case h3 => exact rfl); (case h4 => exact rfl); (case h2 => exact Nat.le_of_ble_eq_true rfl); (case h5 => exact Nat.le_of_ble_eq_true rfl); (case B => k_asm); (case F => k_asm); (case X => k_asm); (case N => k_asm); (case T => k_asm); (case hx => assumption); (case hal => assumption); (case hk => assumption); (case n1 => assumption); (case n2 => assumption); (case n3 => assumption); (case n4 => assumption); (case n5 => assumption); (case n6 => assumption); (case n7 => assumption); (case hr => assumption); (case hr2 => assumption); (case q1 => assumption); (case q2 => assumption); (case q3 => assumption); (refine stop_of ?_))))
theorem allLt_le {a b : Nat} (h : a ≤ b) : ∀ {l : List (Addr × Obj)}, AllLt a l → AllLt b l
  | [], _ => trivial
  | _ :: _, hl => ⟨Nat.lt_of_lt_of_le hl.1 h, allLt_le h hl.2⟩
theorem low9 {ld lx d ce : Nat} {rest : List (Addr × Obj)} (h : ce < ld ∧ AllLt ld rest) (h1 : ld < lx) (h2 : lx < d) : ld < d ∧ lx < d ∧ ce < d ∧ AllLt d rest :=
  ⟨Nat.lt_trans h1 h2, h2, Nat.lt_trans h.1 (Nat.lt_trans h1 h2), allLt_le (Nat.le_of_lt (Nat.lt_trans h1 h2)) h.2⟩
theorem rd_c {w : World} {mean : ExcName → Option Value} {mg mb : Str → Option Value} {gd : Option (List Code)} {cn : Str} {nm : List (Str × NameKind)} {gn co : Bool} {mo : List (Str × Const)} {a : Addr} {ccd : Value} {cl : List (Str × Addr)} {outer : List Env} {A₀ : Around} {base h₀ : Heap} {L : Addr} {m : Str → Option Value} {s : Shared} {Q E : Value → Shared → Prop}
   {l : List Nat} {n : Nat} {t u : Tok} {rest : List (Addr × Obj)}
   (B : Below A₀ base outer h₀) (F : Fr h₀ L s.heap m) (X : (Mine.hd.heap_1 w.params).In h₀) (N : News h₀ L s.heap (rest)) (T : Top vq (looseW vq vl) mean mg mb h₀)
   (hx : l.length ≤ 400) (hal : ∀ c ∈ l, alph c) (hn : n ≤ 400)
   (r : ∀ S2 S1 h' tk u vs c k, SV vs (readN (n + 2) l).1 → k ≤ l.length → l.drop k = (readN (n + 2) l).2 → Fr h₀ L h' m → News h₀ L h' ((S2, listOf #[.ref S1, .int (lnAt l k) u] 0) :: (S1, listOf vs.toArray c) :: rest) → Q (.ref S2) { s with heap := h', toks := tk }) :
   wpAny (model pr w) (ktrTop 500 3000 gd cn ⟨.function, nm, gn, co, mo⟩ L a ccd cl outer) (call (.ref 807) [.str ⟨l.toArray⟩ t, .int (n : Int) u]) Q E s := by
  w_on
  have hfill : PySem.Challenge.rw_nq0227_01 = PySem.Challenge.rw_nq0227_01 ∧ Mine.hd.heap_1 = Mine.hd.heap_1 := by
    k_fill
    exact ⟨rfl, rfl⟩
  clear hfill
  refine wpAny_call ?_
  k_dflt k_enter
  have hxl : (⟨l.toArray⟩ : Str).length ≤ 1000 := by show l.toArray.size ≤ _; simp; omega
  k_steps
  unfold Stop
  rename ∀ p ∈ rest, p.1 < _ => lr
  have lr2 : ∀ q ∈ rest, q.1 ≠ _ + 1 := fun q hq => Nat.ne_of_lt (Nat.lt_succ_of_lt (lr q hq))
  intro lx ld io d pb fs h1 tk1 T1 te1 us1 ul1 ut1 t11 t21 t31 u31 F1 N1 lr9 a1 a2 a3 a4 a5
  k_lt lr9
  k_lt2 a1
  k_lt2 a2
  k_lt2 a3
  k_lt2 a4
  k_lt2 a5
  (try k_sweep)
  have ld9 := low9 lr9 a1 a2
  k_steps
  unfold Stop
  k_dflt (refine LCg.Assign_ListComp_U (F₀ := by k_asm) (by rfl) (by with_unfolding_all rfl) (by with_unfolding_all rfl) (by decide) (by rfl) (by decide) (by rfl) (by rfl) (by rfl) ?_)
  k_steps
  unfold Stop
  rename News _ _ _ _ => N1
  rename Fr _ _ _ _ => F1
  rename IsRange _ _ _ _ _ _ _ _ => R1
  rename _ ∧ _ ∧ _ ∧ _ ∧ _ ∧ _ ∧ _ ∧ AllLt _ rest => lnd
  obtain ⟨N2, ⟨n1, n2, n3, n4, n5, n6, n7⟩, hr, hr2⟩ := nr_ready N1 lnd ld9
  clear N1 lnd ld9
  refine LCg.CompSrc.range (n := n + 2) (by rfl) F1 N2 R1 ?sm ?sz ?ln ?rest
  case sm => exact rg_small hn
  case sz => exact rg_size
  case ln => exact rg_line hn
  case rest =>
    intro g5
    refine comp_read ?elem ?fin
    case elem =>
      intro k ul up ys v I oI C oC D m₂ h tk E' hk hC hxx F5 N5 off
      clear N2 F1 R1
      dsimp only [ledNR] at N5
      have w1 : @Ne Nat I _ ∧ @Ne Nat I _ := ⟨fun e => off.2.2.2.1.1 e.symm, fun e => off.2.1.1 e.symm⟩
      have w2 : @Ne Nat C _ ∧ @Ne Nat C _ := ⟨fun e => off.2.2.2.1.2.1 e.symm, fun e => off.2.1.2.1 e.symm⟩
      have w3 : @Ne Nat D _ ∧ @Ne Nat D _ := ⟨fun e => off.2.2.2.1.2.2 e.symm, fun e => off.2.1.2.2 e.symm⟩
      clear off
      k_steps
      unfold Stop
      intro wd rs hw h5 tk5 k5 ul5 up5 t5 z1 z2 z3 F6 N6
      show ElemQ _ _ _ _ _ _ _ _ _ _ _ _ _ _ _
      exact ⟨t5, k5, ul5, up5, _, _, by rw [hw], z1, z2.trans (by rw [hw]), rfl, F6, N6⟩
    case fin =>
      intro ys k ul up hsv hlen hk he
      unfold LCg.FinA
      intro D h tk F5 N5 off
      clear N2 F1 R1
      dsimp only [ledNR] at N5
      simp only [LCg.Off1] at off
      k_steps
      rename News h₀ _ _ _ => nn
      dsimp only at nn
      exact r _ D _ _ _ ys ys.length k hsv hk he (by k_asm) (news_cut6 nn)
end
/- M0 -/
section
set_option maxRecDepth 100000
set_option maxHeartbeats 4000000
noncomputable def FixQ (h₀ : Heap) (L : Addr) (m : Str → Option Value) (s : Shared) (led : List (Addr × Obj)) (G : Value → Prop) (y : Value) (s₂ : Shared) : Prop :=
  G y ∧ ∃ h' tk', s₂ = { s with heap := h', toks := tk' } ∧ Fr h₀ L h' m ∧ News h₀ L h' led
theorem comp_fix {prog : Program} {w : World} {A : Around} {s : Shared} {h₀ : Heap} {L : Addr} {m : Str → Option Value} {env : Env} {elt : Expr} {x : Str} {scope : Scope} {cl : List (Str × Addr)} {S : List (Addr × Obj) → Prop} {P : Nat → Value → Prop} {Fin : List Value → List (Addr × Obj) → Prop} {n : Nat} {news : List (Addr × Obj)}
    (G : Value → Prop) (hS : S news)
    (elem : ∀ i v ys I oI C oC D m₂ h tk (E' : Value → Shared → Prop), i < n → P i v → LCg.NsObj oC m₂ → m₂ x = some v → Fr h₀ L h m → News h₀ L h ((I, oI) :: (C, oC) :: (D, LCg.lst ys) :: news) → LCg.Off3 I C D news → ((@Ne Nat I C) ∧ (@Ne Nat I D) ∧ (@Ne Nat C D)) →
      wpAny (model prog w) A (eval elt (compEnvC scope cl C env)) (FixQ h₀ L m s ((I, oI) :: (C, oC) :: (D, LCg.lst ys) :: news) G) E' { s with heap := h, toks := tk })
    (fin : ∀ ys, ys.length = n → (∀ y ∈ ys, G y) → Fin ys news) : LCg.CompRest prog w A h₀ L m env elt x scope cl s S P Fin n 0 [] news := by
  refine comp_ind (fun j i ys nw => nw = news ∧ i + j = n ∧ ys.length = i ∧ ∀ y ∈ ys, G y) ?_ ?_ n 0 [] news ⟨rfl, by omega, rfl, fun _ h => nomatch h⟩
  · rintro i ys nw ⟨rfl, h1, h2, h3⟩
    exact fin ys (by omega) h3
  · rintro j i ys nw ⟨rfl, h1, h2, h3⟩ v I oI C oC D m₂ h tk E' a1 a2 a3 a4 a5 a6 a7
    refine wpAny_mono (elem i v ys I oI C oC D m₂ h tk E' (by omega) a1 a2 a3 a4 a5 a6 a7) (fun y s₂ q => ?_) fun _ _ z => z
    obtain ⟨hg, h', tk', rfl, F', N'⟩ := q
    refine ⟨h', tk', nw, rfl, F', N', a6, hS, rfl, by omega, by simp [h2], fun y' hy => ?_⟩
    rcases List.mem_append.mp hy with hy | hy
    · exact h3 y' hy
    · rw [List.mem_singleton.mp hy]; exact hg
theorem ints_of : ∀ {ys : List Value}, (∀ y ∈ ys, ∃ z t, y = .int z t) → ∃ zs, IntsAre ys zs
  | [], _ => ⟨[], .nil⟩
  | y :: ys, h => by
    obtain ⟨z, t, rfl⟩ := h y (.head _)
    obtain ⟨zs, h1⟩ := ints_of (ys := ys) fun y hy => h y (.tail _ hy)
    exact ⟨z :: zs, .cons z t h1⟩
theorem ints_get : ∀ {vs : List Value} {ns : List Int}, IntsAre vs ns → ∀ v ∈ vs, ∃ z t, v = .int z t
  | _, _, .nil, _, h => nomatch h
  | _, _, .cons z t r, v, h => by
    rcases List.mem_cons.mp h with rfl | h
    · exact ⟨z, t, rfl⟩
    · exact ints_get r v h
theorem item_alph (q : Int) : ∃ c, Txt.item (Str.ofString "a \n\"'\\b#") (q.fmod 8) = ⟨#[c]⟩ ∧ alph c := by
  have h1 : 0 ≤ q.fmod 8 := Int.fmod_nonneg_of_pos q (by decide)
  have h2 : q.fmod 8 < 8 := Int.fmod_lt_of_pos q (by decide)
  generalize q.fmod 8 = r at *
  have h : r = 0 ∨ r = 1 ∨ r = 2 ∨ r = 3 ∨ r = 4 ∨ r = 5 ∨ r = 6 ∨ r = 7 := by omega
  rcases h with rfl | rfl | rfl | rfl | rfl | rfl | rfl | rfl
  · exact ⟨97, by decide +kernel, by unfold alph; decide⟩
  · exact ⟨32, by decide +kernel, by unfold alph; decide⟩
  · exact ⟨10, by decide +kernel, by unfold alph; decide⟩
  · exact ⟨34, by decide +kernel, by unfold alph; decide⟩
  · exact ⟨39, by decide +kernel, by unfold alph; decide⟩
  · exact ⟨92, by decide +kernel, by unfold alph; decide⟩
  · exact ⟨98, by decide +kernel, by unfold alph; decide⟩
  · exact ⟨35, by decide +kernel, by unfold alph; decide⟩
theorem snoc_of {α : Type} {n : Nat} {ys : List α} (h : ys.length = n + 1) : ∃ y r, ys = y :: r ∧ r.length = n := by
  cases ys with
  | nil => cases h
  | cons y r => exact ⟨y, r, rfl, Nat.succ.inj h⟩
theorem six_of {ys : List Value} (h : ys.length = 6) (ha : ∀ y ∈ ys, ∃ c t, y = .str ⟨#[c]⟩ t ∧ alph c) : ∃ c0 c1 c2 c3 c4 c5 t0 t1 t2 t3 t4 t5, ys = [.str ⟨#[c0]⟩ t0, .str ⟨#[c1]⟩ t1, .str ⟨#[c2]⟩ t2, .str ⟨#[c3]⟩ t3, .str ⟨#[c4]⟩ t4, .str ⟨#[c5]⟩ t5] ∧ ∀ c ∈ [c0, c1, c2, c3, c4, c5], alph c := by
  obtain ⟨y0, r0, rfl, h0⟩ := snoc_of h
  obtain ⟨y1, r1, rfl, h1⟩ := snoc_of h0
  obtain ⟨y2, r2, rfl, h2⟩ := snoc_of h1
  obtain ⟨y3, r3, rfl, h3⟩ := snoc_of h2
  obtain ⟨y4, r4, rfl, h4⟩ := snoc_of h3
  obtain ⟨y5, r5, rfl, h5⟩ := snoc_of h4
  obtain rfl := List.length_eq_zero_iff.mp h5
  obtain ⟨c0, t0, rfl, a0⟩ := ha y0 (.head _)
  obtain ⟨c1, t1, rfl, a1⟩ := ha y1 (.tail _ (.head _))
  obtain ⟨c2, t2, rfl, a2⟩ := ha y2 (.tail _ (.tail _ (.head _)))
  obtain ⟨c3, t3, rfl, a3⟩ := ha y3 (.tail _ (.tail _ (.tail _ (.head _))))
  obtain ⟨c4, t4, rfl, a4⟩ := ha y4 (.tail _ (.tail _ (.tail _ (.tail _ (.head _)))))
  obtain ⟨c5, t5, rfl, a5⟩ := ha y5 (.tail _ (.tail _ (.tail _ (.tail _ (.tail _ (.head _))))))
  refine ⟨c0, c1, c2, c3, c4, c5, t0, t1, t2, t3, t4, t5, rfl, fun c hc => ?_⟩
  simp only [List.mem_cons, List.not_mem_nil, or_false] at hc
  rcases hc with rfl | rfl | rfl | rfl | rfl | rfl <;> assumption
theorem item_alph2 (q : Int) (t : Tok) : ∃ c t', Value.str (Txt.item (Str.ofString "a \n\"'\\b#") (q.fmod 8)) t = .str ⟨#[c]⟩ t' ∧ alph c := by
  obtain ⟨c, e, a⟩ := item_alph q
  exact ⟨c, t, by rw [e], a⟩
theorem join_six (c0 c1 c2 c3 c4 c5 : Nat) : Txt.join (Str.ofString "") [(⟨#[c0]⟩ : Str), ⟨#[c1]⟩, ⟨#[c2]⟩, ⟨#[c3]⟩, ⟨#[c4]⟩, ⟨#[c5]⟩] = ⟨[c0, c1, c2, c3, c4, c5].toArray⟩ := by
  rw [show Str.ofString "" = (⟨#[]⟩ : Str) from by decide +kernel]
  rfl
end
/- M1 -/
section
set_option maxRecDepth 100000
set_option maxHeartbeats 0
set_option rowWalk.seconds 0
local macro_rules | `(tactic| walk_at "eval ListComp") => `(tactic| refine stop_of ?_)
local macro_rules | `(tactic| walk_at "CompSrc") => `(tactic| refine stop_of ?_)
local macro_rules | `(tactic| walk_at "subscriptTail") => `(tactic| ((with_reducible show wpAny _ _ (subscriptTail _ (Expr.Slice _ _ _ _) _ _) _ _ _); refine stop_of ?_))
local macro_rules | `(tactic| walk_at "subscriptTail Name Slice ref ref") => `(tactic| refine stop_of ?_)
theorem sx_c {w : World} {mean : ExcName → Option Value} {mg mb : Str → Option Value} {gd : Option (List Code)} {cn : Str} {nm : List (Str × NameKind)} {gn co : Bool} {mo : List (Str × Const)} {a : Addr} {ccd : Value} {cl : List (Str × Addr)} {outer : List Env} {A₀ : Around} {base h₀ : Heap} {L : Addr} {m : Str → Option Value} {s : Shared} {Q E : Value → Shared → Prop}
   {S : Addr} {vs : List Value} {ns : List Int} {kk st : Int} {t1 t2 : Tok} {rest : List (Addr × Obj)}
   (B : Below A₀ base outer h₀) (F : Fr h₀ L s.heap m) (X : (Mine.hd.heap_1 w.params).In h₀) (N : News h₀ L s.heap (rest)) (T : Top vq (looseW vq vl) mean mg mb h₀)
   (hs : h₀.IsList S vs.toArray) (hi : IntsAre vs ns) (hv : vs.length ≤ 63) (hk0 : 0 ≤ kk ∧ kk ≤ 1)
   (r : ∀ six : List Nat, (∀ c ∈ six, alph c) → six.length = 6 → ∀ h' tk t', Fr h₀ L h' m → News h₀ L h' rest → Q (.str ⟨six.toArray⟩ t') { s with heap := h', toks := tk }) :
   wpAny (model pr w) (ktrTop 600 4000 gd cn ⟨.function, nm, gn, co, mo⟩ L a ccd cl outer) (call (.ref 781) [.ref S, .int kk t1, .int st t2]) Q E s := by
  w_on
  have hfill : PySem.Challenge.rw_nq0227_01 = PySem.Challenge.rw_nq0227_01 ∧ Mine.hd.heap_1 = Mine.hd.heap_1 := by
    k_fill
    exact ⟨rfl, rfl⟩
  clear hfill
  refine wpAny_call ?_
  k_dflt k_enter
  k_steps
  unfold Stop
  rename Fr h₀ L _ m => FG
  k_dflt (refine LCg.ListComp_U (F₀ := by k_asm) (by with_unfolding_all rfl) (by decide) (by rfl) (by decide) (by rfl) ?_)
  k_steps
  unfold Stop
  rename Fr _ _ _ _ => F1
  rename News _ _ _ _ => N1
  have hl2 := F1.lst (FG.lst hs)
  have z500 : (500 : Nat) ≤ sizeLine := by decide +kernel
  have hz9 : vs.toArray.size ≤ sizeLine := by simp only [List.size_toArray]; omega
  refine slice_list3 F1 N1 hl2 (lo := some kk) (hi := some 63) (st := some 2) (by constructor) (by constructor) (by constructor) (by decide) ?_ (by with_unfolding_all rfl) (by intro _; with_unfolding_all rfl) hz9
  intro h3 F3 N3
  clear N1 F1
  have hpk := hi.pick (some kk) (some 63) (some 2)
  refine LCg.CompSrc.ledger (by rfl) F3 N3 (.head _) ?ln ?cr
  case ln => exact Nat.le_trans (slicePick_size_le _ _ _ _) hz9
  case cr =>
    intro g5
    refine comp_fix (fun y => ∃ z t, y = .int z t) ?hS ?elem ?fin
    case hS => exact .inr ⟨_, .head _, rfl, _, rfl⟩
    case elem =>
      intro i v ys I oI C oC D m₂ h tk E' hlt hP hC hxx F5 N5 off nes
      clear N3 F3
      obtain ⟨z9, t9, rfl⟩ : ∃ z t, v = .int z t := ints_get hpk v (by simpa using Array.mem_of_getElem? hP)
      k_steps
      exact ⟨⟨_, _, rfl⟩, _, _, rfl, (by k_asm), (by k_asm)⟩
    case fin =>
      intro ys hlen hall
      obtain ⟨zs, hzs⟩ := ints_of hall
      have hyl : ys.length ≤ 63 := by
        have e := slicePick_size_le vs.toArray (some kk) (some 63) (some 2)
        simp only [List.size_toArray] at e
        omega
      unfold LCg.FinE
      intro D h tk F5 N5 off
      clear N3 F3
      rename ∀ p ∈ rest, p.1 < _ => lr
      have lr2 : ∀ q ∈ rest, q.1 ≠ _ + 1 := fun q hq => Nat.ne_of_lt (Nat.lt_succ_of_lt (lr q hq))
      clear off
      k_steps
      rename News _ _ _ _ => nn
      have nn2 := news_tl (news_tl nn)
      clear nn
      k_steps
      unfold Stop
      k_dflt (refine LCg.ListComp_U (F₀ := by k_asm) (by with_unfolding_all rfl) (by decide) (by rfl) (by decide) (by rfl) ?_)
      k_steps
      unfold Stop
      rename IsRange _ _ _ _ _ _ _ _ => R1
      rename News _ _ _ _ => N6
      rename Fr _ _ _ _ => F6
      refine LCg.CompSrc.range (n := 6) (by rfl) F6 N6 R1 (by decide) (by decide) (by omega) ?_
      intro g6
      refine comp_fix (fun y => ∃ c t, y = .str ⟨#[c]⟩ t ∧ alph c) trivial ?elem2 ?fin2
      case elem2 =>
        intro i v ys8 I oI C oC D8 m₂ h8 tk8 E' hlt hP hC hxx F8 N8 off8 nes8
        clear N6 F6 R1
        obtain ⟨t9, rfl⟩ := hP
        have hi6 : i = 0 ∨ i = 1 ∨ i = 2 ∨ i = 3 ∨ i = 4 ∨ i = 5 := by omega
        rcases hi6 with rfl | rfl | rfl | rfl | rfl | rfl <;> k_steps
        all_goals exact ⟨item_alph2 _ _, _, _, rfl, (by k_asm), (by k_asm)⟩
      case fin2 =>
        intro ys8 hlen8 hall8
        obtain ⟨c0, c1, c2, c3, c4, c5, t0, t1', t2', t3, t4, t5, rfl, hal⟩ := six_of hlen8 hall8
        unfold LCg.FinE
        intro D8 h8 tk8 F8 N8 off8
        clear N6 F6 R1 off8 hall8 hlen8
        k_steps
        show wpAny _ _ (call (.builtin "str.join") [Value.str _ _, Value.ref _]) _ _ _
        refine join_listW (News.isList N8 (.head _)) (ys := [⟨#[c0]⟩, ⟨#[c1]⟩, ⟨#[c2]⟩, ⟨#[c3]⟩, ⟨#[c4]⟩, ⟨#[c5]⟩]) (.cons _ _ (.cons _ _ (.cons _ _ (.cons _ _ (.cons _ _ (.cons _ _ .nil)))))) (by decide) (by show (1 + (1 + (1 + (1 + (1 + (1 + 0))))) + 6) ≤ 1048576; decide) ?_
        intro t9 k9
        rw [join_six]
        have nn3 := news_tl N8
        clear N8
        k_steps
        rename News h₀ _ _ _ => nn
        exact r [c0, c1, c2, c3, c4, c5] hal rfl _ _ _ (by k_asm) (by first | exact nn | exact news_tl nn)
end
/- P0 -/
section
set_option maxRecDepth 100000
set_option maxHeartbeats 4000000
theorem ints_len63 {vs : List Value} {ns : List Int} (h : IntsAre vs ns) (hc : ¬ ((63 : Nat) : Int) < (ns.length : Int)) : vs.length ≤ 63 := by
  have := h.length
  omega
theorem add_ll {prog : Program} {w : World} {A : Around} {E : Value → Shared → Prop} {s : Shared} {l1 l2 : List Nat} {t u : Tok} {Q : Value → Shared → Prop} (h1 : l1.length ≤ 400) (h2 : l2.length ≤ 400) (h : ∀ t' tk, Q (.str ⟨(l1 ++ l2).toArray⟩ t') { s with toks := tk }) :
    wpAny (model prog w) A (binaryOp .Add (.str ⟨l1.toArray⟩ t) (.str ⟨l2.toArray⟩ u)) Q E s := by
  have e : (⟨l1.toArray⟩ : Str) ++ ⟨l2.toArray⟩ = ⟨(l1 ++ l2).toArray⟩ := str_ext (by rw [str_app])
  have z : (1000 : Nat) ≤ sizeLine := by decide +kernel
  refine PyProof.Rows.add_str (fun t' tk => e ▸ h t' tk) ?_
  show l1.toArray.size + l2.toArray.size ≤ _
  simp only [List.size_toArray]
  omega
/-- the data of a list of texts -/
noncomputable def wdata (ws : List (List Nat)) : List PyData := ws.map fun w => .str ⟨w.toArray⟩
theorem SV.reads {h : Heap} : ∀ {vs : List Value} {ws : List (List Nat)}, SV vs ws → ReadsAll h vs (wdata ws) []
  | [], [], _ => .nil
  | _ :: _, _ :: _, ⟨⟨t, e⟩, r⟩ => by
    subst e
    exact readsAll_cons_val (.str _ _) (SV.reads r)
theorem strOk_alph {w : List Nat} (h : ∀ c ∈ w, alph c) : PyData.strOk ⟨w.toArray⟩ = true := by
  unfold PyData.strOk
  show w.toArray.all _ = true
  simp only [List.all_toArray, List.all_eq_true, decide_eq_true_eq]
  intro c hc
  have := alphLt (h c hc)
  omega
theorem wdata_lay : ∀ ws : List (List Nat), (∀ w ∈ ws, ∀ c ∈ w, alph c) → PyData.canLayAll0 (wdata ws) = true ∧ PyData.depthAll (wdata ws) ≤ 1
  | [], _ => by simp [wdata, PyData.canLayAll0, PyData.depthAll]
  | w :: ws, h => by
    have := wdata_lay ws fun w hw => h w (.tail _ hw)
    have hw := strOk_alph (h w (.head _))
    simp only [wdata, List.map_cons, PyData.canLayAll0, PyData.depthAll, PyData.canLay0, PyData.depth] at this ⊢
    refine ⟨by simp [this.1, hw], ?_⟩
    have := this.2
    omega
theorem both_reads {h : Heap} {S2 S1 : Addr} {vs : List Value} {ws : List (List Nat)} {k : Int} {u : Tok} {n c : Nat} (h2 : h.get? S2 = some (listOf #[.ref S1, .int k u] n)) (h1 : h.get? S1 = some (listOf vs.toArray c)) (sv : SV vs ws) :
    ∃ as, Reads h (.ref S2) (.list [.list (wdata ws), .int k]) as :=
  ⟨_, reads_list_at h2 rfl rfl (.cons (reads_list_at h1 rfl rfl (by simpa using SV.reads sv)) (readsAll_cons_val (.int _ _) .nil))⟩
theorem both_shaped {ws : List (List Nat)} (hw : ∀ w ∈ ws, ∀ c ∈ w, alph c) (k : Int) : SeqAt.shaped (.list [.list (wdata ws), .int k]) = true := by
  have := wdata_lay ws hw
  have h2 := this.2
  simp only [SeqAt.shaped, PyData.canLay0, PyData.canLayAll0, PyData.depth, PyData.depthAll, this.1, Bool.and_true, Bool.true_and]
  simp
  omega
theorem eqv_refl_w : ∀ ws : List (List Nat), PyData.eqvAll (wdata ws) (wdata ws) = true
  | [] => by simp [wdata, PyData.eqvAll]
  | w :: ws => by
    have := eqv_refl_w ws
    simp only [wdata, List.map_cons, PyData.eqvAll, PyData.eqv] at this ⊢
    simp [this]
theorem both_eqv (ws : List (List Nat)) (k : Int) : PyData.eqv (.list [.list (wdata ws), .int k]) (.list [.list (wdata ws), .int k]) = true := by
  simp [PyData.eqv, PyData.eqvAll, eqv_refl_w]
section
variable {prog : Program} {w : World} {A : Around} {E : Value → Shared → Prop} {s : Shared} {Q : Value → Shared → Prop} {h₀ : Heap} {L : Addr} {news : List (Addr × Obj)} {a b a1 b1 : Addr} {vs vs' : List Value} {ws : List (List Nat)} {k : Int} {u u' : Tok} {n n' c c' : Nat}
theorem ne_same (N : News h₀ L s.heap news) (ma : (a, listOf #[.ref a1, .int k u] n) ∈ news) (ma1 : (a1, listOf vs.toArray c) ∈ news) (mb : (b, listOf #[.ref b1, .int k u'] n') ∈ news) (mb1 : (b1, listOf vs'.toArray c') ∈ news) (sv : SV vs ws) (sv' : SV vs' ws) (hw : ∀ w ∈ ws, ∀ c ∈ w, alph c) (hu : A.units + 64 < cLine) (h : Q (.bool false) s) :
    wpAny (model prog w) A (compareOp .NotEq (.ref a) (.ref b)) Q E s := by
  obtain ⟨as, ra⟩ := both_reads (N.get ma) (N.get ma1) sv
  obtain ⟨bs, rb⟩ := both_reads (N.get mb) (N.get mb1) sv'
  refine ne_dataH ra rb (both_shaped hw k) (both_shaped hw k) hu ?_
  rw [both_eqv]
  exact h
theorem eq_same (N : News h₀ L s.heap news) (ma : (a, listOf #[.ref a1, .int k u] n) ∈ news) (ma1 : (a1, listOf vs.toArray c) ∈ news) (mb : (b, listOf #[.ref b1, .int k u'] n') ∈ news) (mb1 : (b1, listOf vs'.toArray c') ∈ news) (sv : SV vs ws) (sv' : SV vs' ws) (hw : ∀ w ∈ ws, ∀ c ∈ w, alph c) (hu : A.units + 64 < cLine) (h : Q (.bool true) s) :
    wpAny (model prog w) A (compareOp .Eq (.ref a) (.ref b)) Q E s := by
  obtain ⟨as, ra⟩ := both_reads (N.get ma) (N.get ma1) sv
  obtain ⟨bs, rb⟩ := both_reads (N.get mb) (N.get mb1) sv'
  refine eq_dataH ra rb (both_shaped hw k) (both_shaped hw k) hu ?_
  rw [both_eqv]
  exact h
end
theorem du_c2 {w : World} {mean : ExcName → Option Value} {mg mb : Str → Option Value} {gd : Option (List Code)} {cn : Str} {nm : List (Str × NameKind)} {gn co : Bool} {mo : List (Str × Const)} {a : Addr} {ccd : Value} {cl : List (Str × Addr)} {outer : List Env} {A₀ : Around} {base h₀ : Heap} {L : Addr} {m : Str → Option Value} {s : Shared} {Q E : Value → Shared → Prop}
   {l : List Nat} {t : Tok} {S : Addr} {vs : List Value} {c : Nat} {news : List (Addr × Obj)}
   (B : Below A₀ base outer h₀) (F : Fr h₀ L s.heap m) (X : (Mine.hd.heap_1 w.params).In h₀) (N : News h₀ L s.heap news) (T : Top vq (looseW vq vl) mean mg mb h₀)
   (hm : (S, listOf vs.toArray c) ∈ news) (hx : l.length ≤ 400) (hv : vs.length ≤ 400)
   (r : ∀ S2 S1 h' tk u u1 u2, Fr h₀ L h' m → News h₀ L h' ((S2, listOf #[.ref S1, .int (((l.count 10 : Nat) : Int) + 1) u] 0) :: (S1, listOf (vs ++ [Value.str (Str.ofString "") u1, Value.str (Str.ofString "") u2]).toArray 0) :: news) → Q (.ref S2) { s with heap := h', toks := tk }) :
   wpAny (model pr w) (ktrTop 600 4000 gd cn ⟨.function, nm, gn, co, mo⟩ L a ccd cl outer) (call (.ref 814) [.str ⟨l.toArray⟩ t, .ref S]) Q E s := by
  have N2 : News h₀ L s.heap ((S, listOf vs.toArray c) :: news) := fun p hp => by
    rcases List.mem_cons.mp hp with rfl | hp
    · exact N _ hm
    · exact N p hp
  exact du_c B F X N2 T hx hv fun S2 S1 h' tk u u1 u2 F' N' => r S2 S1 h' tk u u1 u2 F' (news_d3 N')
theorem SV.two : ∀ {vs : List Value} {ws : List (List Nat)} {u1 u2 : Tok}, SV vs ws → SV (vs ++ [Value.str (Str.ofString "") u1, Value.str (Str.ofString "") u2]) (ws ++ [[], []])
  | [], [], u1, u2, _ => ⟨⟨u1, by rw [e00]⟩, ⟨u2, by rw [e00]⟩, trivial⟩
  | _ :: _, _ :: _, _, _, h => ⟨h.1, SV.two h.2⟩
theorem lnAt_all (l : List Nat) : lnAt l l.length = ((l.count 10 : Nat) : Int) + 1 := by
  unfold lnAt
  rw [List.take_length]
  omega
end
/- PLw -/
section
/-- in quotation marks: split of the shell's writing gives what netrc reads -/
theorem sh_q : ∀ (r : List Nat) (es : Nat) (q h : Bool) (tok : List Nat), ∃ b, rd 34 es q tok (sh 2 h r) = .word (nq h tok r).1 (sh 0 false (nq h tok r).2) b
  | [], es, q, h, tok => ⟨true, by cases h <;> simp [sh, rd, nq]⟩
  | c :: r, es, q, true, tok => by
    have ih := sh_q r
    by_cases h34 : c = 34
    · subst h34
      obtain ⟨b, e⟩ := ih 34 true false (tok ++ [34])
      exact ⟨b, by simpa [sh, rd, nq] using e⟩
    · by_cases h92 : c = 92
      · subst h92
        obtain ⟨b, e⟩ := ih 34 true false (tok ++ [92])
        exact ⟨b, by simpa [sh, rd, nq] using e⟩
      · obtain ⟨b, e⟩ := ih es true false (tok ++ [c])
        exact ⟨b, by simpa [sh, rd, nq, h34, h92] using e⟩
  | c :: r, es, q, false, tok => by
    have ih := sh_q r
    by_cases h34 : c = 34
    · subst h34
      exact ⟨false, by simp [sh, rd, nq, wsp]⟩
    · by_cases h92 : c = 92
      · subst h92
        obtain ⟨b, e⟩ := ih es q true tok
        exact ⟨b, by simpa [sh, rd, nq] using e⟩
      · obtain ⟨b, e⟩ := ih es true false (tok ++ [c])
        exact ⟨b, by simpa [sh, rd, nq, h34, h92] using e⟩
/-- in a bare word -/
theorem sh_b : ∀ (r : List Nat) (es : Nat) (q h : Bool) (tok : List Nat), tok ≠ [] → ∃ b, rd 97 es q tok (sh 1 h r) = .word (nb h tok r).1 (sh 0 false (nb h tok r).2) b
  | [], es, q, h, tok, ht => ⟨true, by cases h <;> simp [sh, rd, nb, ht]⟩
  | c :: r, es, q, true, tok, ht => by
    obtain ⟨b, e⟩ := sh_b r 97 q false (tok ++ [c]) (by simp)
    exact ⟨b, by simpa [sh, rd, nb, wsp] using e⟩
  | c :: r, es, q, false, tok, ht => by
    have ih := sh_b r
    by_cases h92 : c = 92
    · subst h92
      obtain ⟨b, e⟩ := ih es q true tok ht
      exact ⟨b, by simpa [sh, rd, nb, wsp] using e⟩
    · by_cases hw : wsp c = true
      · exact ⟨false, by simp [sh, rd, nb, h92, hw, ht]; simp [wsp]⟩
      · obtain ⟨b, e⟩ := ih 97 q false (tok ++ [c]) (by simp)
        exact ⟨b, by simpa [sh, rd, nb, h92, hw, show wsp 92 = false from rfl] using e⟩
/-- one word -/
theorem sh_one : ∀ t : List Nat, (rd 32 32 false [] (sh 0 false t) = .eof ∧ nt t = ([], [])) ∨ ∃ b, rd 32 32 false [] (sh 0 false t) = .word (nt t).1 (sh 0 false (nt t).2) b
  | [] => .inl ⟨by simp [sh, rd], rfl⟩
  | c :: r => by
    by_cases h92 : c = 92
    · subst h92
      cases r with
      | nil => exact .inl ⟨by simp [sh, rd], by simp [nt, nb, wsp]⟩
      | cons c r =>
        obtain ⟨b, e⟩ := sh_b r 97 false false [c] (by simp)
        exact .inr ⟨b, by simpa [sh, rd, nt, nb, wsp] using e⟩
    · by_cases hw : wsp c = true
      · have ih := sh_one r
        simpa [sh, rd, nt, h92, hw, show wsp 32 = true from rfl] using ih
      · by_cases h34 : c = 34
        · subst h34
          obtain ⟨b, e⟩ := sh_q r 32 false false []
          exact .inr ⟨b, by simpa [sh, rd, nt, nb, wsp] using e⟩
        · obtain ⟨b, e⟩ := sh_b r 97 false false [c] (by simp)
          exact .inr ⟨b, by simpa [sh, rd, nt, nb, h92, hw, h34, show wsp 92 = false from rfl] using e⟩
theorem rd_mem : ∀ (r : List Nat) {st es : Nat} {q : Bool} {tok wd rs : List Nat} {b : Bool}, rd st es q tok r = .word wd rs b → (∀ c ∈ tok, alph c) → (∀ c ∈ r, alph c) → (∀ c ∈ wd, alph c) ∧ ∀ c ∈ rs, alph c
  | [], st, es, q, tok, wd, rs, b, h, ht, hr => by
    simp only [rd] at h
    repeat' split at h
    all_goals first | (cases h; done) | (cases h; exact ⟨ht, hr⟩)
  | d :: r, st, es, q, tok, wd, rs, b, h, ht, hr => by
    have hd := hr d (.head _)
    have hr' : ∀ c ∈ r, alph c := fun c hc => hr c (.tail _ hc)
    have h1 : ∀ c ∈ tok ++ [d], alph c := by
      intro c hc; rcases List.mem_append.mp hc with h | h
      · exact ht c h
      · rw [List.mem_singleton.mp h]; exact hd
    have h2 : ∀ c ∈ tok ++ [92, d], alph c := by
      intro c hc; rcases List.mem_append.mp hc with h | h
      · exact ht c h
      · simp at h; rcases h with rfl | rfl
        · exact alph92
        · exact hd
    have h3 : ∀ c ∈ [d], alph c := by
      intro c hc; rw [List.mem_singleton.mp hc]; exact hd
    have ih := fun {st es q tok} (h : rd st es q tok r = .word wd rs b) ht => rd_mem r h ht hr'
    simp only [rd] at h
    repeat' split at h
    all_goals first | exact ih h ht | exact ih h h1 | exact ih h h2 | exact ih h h3 | (cases h; exact ⟨ht, hr'⟩)
theorem sh_ok' : ∀ (t : List Nat) (k : Int) (b : Bool), (∀ c ∈ t, alph c) → (∀ c ∈ sh k b t, alph c) ∧ (sh k b t).length ≤ 2 * t.length + 1
  | [], k, b, _ => by
    simp only [sh]
    split
    · exact ⟨fun c hc => by rw [List.mem_singleton.mp hc]; simp [alph], by simp⟩
    · exact ⟨fun c hc => by simp at hc, by simp⟩
  | d :: t, k, b, h => by
    have hd := h d (.head _)
    have ht : ∀ c ∈ t, alph c := fun c hc => h c (.tail _ hc)
    have ih := fun k b => sh_ok' t k b ht
    have a34 : alph 34 := by simp [alph]
    have a32 : alph 32 := by simp [alph]
    have p1 : ∀ {x : Nat} {l : List Nat}, alph x → ((∀ c ∈ l, alph c) ∧ l.length ≤ 2 * t.length + 1) → (∀ c ∈ x :: l, alph c) ∧ (x :: l).length ≤ 2 * (d :: t).length + 1 := fun hx hl => ⟨fun c hc => (List.mem_cons.mp hc).elim (fun e => e ▸ hx) (hl.1 c), by have := hl.2; simp; omega⟩
    have p2 : ∀ {x y : Nat} {l : List Nat}, alph x → alph y → ((∀ c ∈ l, alph c) ∧ l.length ≤ 2 * t.length + 1) → (∀ c ∈ x :: y :: l, alph c) ∧ (x :: y :: l).length ≤ 2 * (d :: t).length + 1 := fun hx hy hl => ⟨fun c hc => (List.mem_cons.mp hc).elim (fun e => e ▸ hx) fun hc => (List.mem_cons.mp hc).elim (fun e => e ▸ hy) (hl.1 c), by have := hl.2; simp; omega⟩
    simp only [sh]
    split
    · have := ih k true; exact ⟨this.1, by have := this.2; simp; omega⟩
    split
    · exact p2 a34 a32 (ih _ _)
    split
    · split
      · exact p2 alph92 hd (ih _ _)
      · exact p1 hd (ih _ _)
    split
    · exact p1 a32 (ih _ _)
    split
    · exact p1 a34 (ih _ _)
    · exact p2 alph92 hd (ih _ _)
theorem sh_ok {t : List Nat} (h : ∀ c ∈ t, alph c) : (∀ c ∈ sh 0 false t, alph c) ∧ (sh 0 false t).length ≤ 2 * t.length + 1 := sh_ok' t 0 false h
theorem esc1_ok {c : Nat} (h : alph c) : (∀ d ∈ esc1 c, alph d) ∧ (esc1 c).length ≤ 2 := by
  unfold esc1
  split
  · exact ⟨fun d hd => by simp at hd; rcases hd with rfl | rfl <;> first | exact alph92 | exact h, by simp⟩
  · exact ⟨fun d hd => by simp at hd; subst hd; exact h, by simp⟩
theorem esc_ok : ∀ {l : List Nat}, (∀ c ∈ l, alph c) → (∀ d ∈ esc l, alph d) ∧ (esc l).length ≤ 2 * l.length
  | [], _ => by simp [esc]
  | c :: l, h => by
    have h1 := esc1_ok (h c (.head _))
    have h2 := esc_ok (l := l) fun c hc => h c (.tail _ hc)
    have e : esc (c :: l) = esc1 c ++ esc l := by simp [esc]
    rw [e]
    refine ⟨fun d hd => (List.mem_append.mp hd).elim (h1.1 d) (h2.1 d), ?_⟩
    have := h1.2; have := h2.2
    simp only [List.length_append, List.length_cons]; omega
theorem tn_ok' : ∀ (t : List Nat) (k : Int) (b : Bool), (∀ c ∈ t, alph c) → (∀ c ∈ (tn k b t).1, alph c) ∧ (tn k b t).1.length ≤ 5 * t.length + 1
  | [], k, b, _ => by
    simp only [tn]
    have a34 : alph 34 := by simp [alph]
    repeat' split
    all_goals first | exact ⟨fun c hc => by rw [List.mem_singleton.mp hc]; exact a34, by simp⟩ | exact ⟨fun c hc => by simp at hc, by simp⟩
  | d :: t, k, b, h => by
    have hd := h d (.head _)
    have ht : ∀ c ∈ t, alph c := fun c hc => h c (.tail _ hc)
    have ih := fun k b => tn_ok' t k b ht
    have a34 : alph 34 := by simp [alph]
    have a32 : alph 32 := by simp [alph]
    have p0 : ∀ {a : List Nat} {b : List Nat × String}, ((∀ c ∈ a, alph c) ∧ a.length ≤ 5) → ((∀ c ∈ b.1, alph c) ∧ b.1.length ≤ 5 * t.length + 1) → (∀ c ∈ (pre a b).1, alph c) ∧ (pre a b).1.length ≤ 5 * (d :: t).length + 1 := fun {a b} ha hb => ⟨fun c hc => (List.mem_append.mp (show c ∈ a ++ b.1 from hc)).elim (ha.1 c) (hb.1 c), by show (a ++ b.1).length ≤ _; have := ha.2; have := hb.2; simp only [List.length_append, List.length_cons]; omega⟩
    have q1 : ∀ k : Int, (∀ c ∈ (if k = 0 then [34] else [] : List Nat), alph c) ∧ (if k = 0 then [34] else [] : List Nat).length ≤ 1 := by
      intro k; split
      · exact ⟨fun c hc => by rw [List.mem_singleton.mp hc]; exact a34, by simp⟩
      · exact ⟨fun c hc => by simp at hc, by simp⟩
    have q2 : ∀ {a b : List Nat}, ((∀ c ∈ a, alph c) ∧ a.length ≤ 1) → ((∀ c ∈ b, alph c) ∧ b.length ≤ 4) → (∀ c ∈ a ++ b, alph c) ∧ (a ++ b).length ≤ 5 := fun ha hb => ⟨fun c hc => (List.mem_append.mp hc).elim (ha.1 c) (hb.1 c), by have := ha.2; have := hb.2; simp only [List.length_append]; omega⟩
    have e1 : (∀ c ∈ esc [d], alph c) ∧ (esc [d]).length ≤ 4 := by
      have := esc_ok (l := [d]) fun c hc => by rw [List.mem_singleton.mp hc]; exact hd
      exact ⟨this.1, by have := this.2; simp at this; omega⟩
    have e2 : (∀ c ∈ esc [92, d], alph c) ∧ (esc [92, d]).length ≤ 4 := by
      have := esc_ok (l := [92, d]) fun c hc => by simp at hc; rcases hc with rfl | rfl <;> first | exact alph92 | exact hd
      exact ⟨this.1, by have := this.2; simp at this; omega⟩
    simp only [tn]
    split
    · refine p0 (q2 (q1 k) ?_) (ih _ _)
      split
      · exact e2
      · exact e1
    split
    · have := ih k true; exact ⟨this.1, by have := this.2; simp only [List.length_cons]; omega⟩
    split
    · have := ih 1 false; exact ⟨this.1, by have := this.2; simp only [List.length_cons]; omega⟩
    split
    · exact p0 ⟨e1.1, by have := e1.2; omega⟩ (ih _ _)
    split
    · refine p0 ?_ (ih _ _)
      split
      · exact ⟨fun c hc => by simp at hc; rcases hc with rfl | rfl <;> first | exact a34 | exact a32, by simp⟩
      · exact ⟨fun c hc => by simp at hc, by simp⟩
    split
    · exact p0 ⟨(q1 k).1, by have := (q1 k).2; omega⟩ (ih _ _)
    · exact p0 (q2 (q1 k) e1) (ih _ _)
theorem tn_ok {t : List Nat} (h : ∀ c ∈ t, alph c) : (∀ c ∈ (tn 0 false t).1, alph c) ∧ (tn 0 false t).1.length ≤ 5 * t.length + 1 := tn_ok' t 0 false h
theorem PL1' : ∀ (n : Nat) (t : List Nat), (sh 0 false t).length < n → (∀ c ∈ t, alph c) → ∃ ws, sp n (sh 0 false t) = .ok ws ∧ readN (ws.length + 2) t = (ws ++ [[], []], []) ∧ ∀ w ∈ ws, ∀ c ∈ w, alph c
  | 0, t, hn, _ => absurd hn (Nat.not_lt_zero _)
  | n + 1, t, hn, ha => by
    rcases sh_one t with ⟨e, e2⟩ | ⟨b, e⟩
    · exact ⟨[], by simp only [sp, e], by simp [readN, e2, nt], by simp⟩
    · have hlt := rd_lt e
      have hm := rd_mem _ e (by simp) (sh_ok ha).1
      obtain ⟨ws, h1, h2, h3⟩ := PL1' n (nt t).2 (by omega) (nt_alph ha)
      refine ⟨(nt t).1 :: ws, by simp only [sp, e, h1], ?_, ?_⟩
      · show readN (ws.length + 2 + 1) t = _
        rw [readN, h2]
        rfl
      · intro w hw
        rcases List.mem_cons.mp hw with rfl | hw
        · exact hm.1
        · exact h3 w hw
where
  nt_alph {t : List Nat} (h : ∀ c ∈ t, alph c) : ∀ c ∈ (nt t).2, alph c := by
    have hq : ∀ (r : List Nat) (b : Bool) (tok : List Nat) (c : Nat), c ∈ (nq b tok r).2 → c ∈ r := by
      intro r
      induction r with
      | nil => intro b tok c hc; simp [nq] at hc
      | cons d r ih =>
        intro b tok c hc
        cases b <;> simp only [nq] at hc
        · repeat' split at hc
          all_goals first | exact .tail _ hc | exact .tail _ (ih _ _ _ hc)
        · exact .tail _ (ih _ _ _ hc)
    have hb : ∀ (r : List Nat) (b : Bool) (tok : List Nat) (c : Nat), c ∈ (nb b tok r).2 → c ∈ r := by
      intro r
      induction r with
      | nil => intro b tok c hc; simp [nb] at hc
      | cons d r ih =>
        intro b tok c hc
        cases b <;> simp only [nb] at hc
        · repeat' split at hc
          all_goals first | exact .tail _ hc | exact .tail _ (ih _ _ _ hc)
        · exact .tail _ (ih _ _ _ hc)
    induction t with
    | nil => intro c hc; simp [nt] at hc
    | cons d r ih =>
      intro c hc
      simp only [nt] at hc
      repeat' split at hc
      all_goals first | exact ih (fun c hc => h c (.tail _ hc)) c hc | exact h c (.tail _ (hq _ _ _ _ hc)) | exact h c (.tail _ (hb _ _ _ _ hc))
theorem PL1 {t : List Nat} (h : ∀ c ∈ t, alph c) : ∃ ws, sp ((sh 0 false t).length + 1) (sh 0 false t) = .ok ws ∧ readN (ws.length + 2) t = (ws ++ [[], []], []) ∧ ∀ w ∈ ws, ∀ c ∈ w, alph c := PL1' _ t (Nat.lt_succ_self _) h
/-- what the writing for netrc gives from here, against split's reading -/
noncomputable def Meet (tok : List Nat) : RT → List Nat × String → Prop
  | .word wd rs _, T => ∃ e x, wd = tok ++ e ∧ T = pre (esc e ++ 34 :: x) (tn 0 false rs) ∧ (x = [32] ∨ x = [] ∧ rs = [])
  | .eof, _ => False
  | .err m, T => T.2 = m
theorem esc_app (a b : List Nat) : esc (a ++ b) = esc a ++ esc b := by simp [esc]
theorem Meet.more {tok a : List Nat} {R : RT} {T : List Nat × String} (h : Meet (tok ++ a) R T) : Meet tok R (pre (esc a) T) := by
  cases R with
  | word wd rs b =>
    obtain ⟨e, x, h1, h2, h3⟩ := h
    refine ⟨a ++ e, x, by simp [h1], ?_, h3⟩
    rw [h2, pre_pre, esc_app, List.append_assoc]
  | eof => exact h
  | err m => exact h
theorem Meet.nil {tok : List Nat} {R : RT} {T : List Nat × String} (h : Meet tok R T) : Meet tok R (pre [] T) := by
  simpa [pre] using h
inductive Rel : Nat → Nat → Bool → List Nat → Int → Bool → Prop
  | bare {es q tok} : (tok ≠ [] ∨ q = true) → Rel 97 es q tok 1 false
  | sq {es q tok} : Rel 39 es q tok 2 false
  | dq {es q tok} : Rel 34 es q tok 3 false
  | eb {q tok} : Rel 92 97 q tok 1 true
  | ed {q tok} : Rel 92 34 q tok 3 true
theorem tn_in : ∀ (r : List Nat) {st es : Nat} {q : Bool} {tok : List Nat} {k : Int} {b : Bool}, Rel st es q tok k b → Meet tok (rd st es q tok r) (tn k b r)
  | [], _, _, _, _, _, _, .bare (q := q) (tok := tok) h => by
    have : ¬ (tok = [] ∧ q = false) := by rintro ⟨a, b⟩; rcases h with h | h <;> simp_all
    simp [rd, tn, Meet, pre, this, esc]
  | [], _, _, _, _, _, _, .sq => by simp [rd, tn, Meet]
  | [], _, _, _, _, _, _, .dq => by simp [rd, tn, Meet]
  | [], _, _, _, _, _, _, .eb => by simp [rd, tn, Meet]
  | [], _, _, _, _, _, _, .ed => by simp [rd, tn, Meet]
  | c :: r, _, _, _, _, _, _, .bare (es := es) (q := q) (tok := tok) h => by
    have hh : ¬ (tok = [] ∧ q = false) := by rintro ⟨a, b⟩; rcases h with h | h <;> simp_all
    by_cases h92 : c = 92
    · subst h92
      have := tn_in r (.eb (q := q) (tok := tok))
      simpa [rd, tn, wsp] using this
    · by_cases hw : wsp c = true
      · have e1 : rd 97 es q tok (c :: r) = .word tok r false := by simp [rd, hw, hh]
        have e2 : tn 1 false (c :: r) = pre [34, 32] (tn 0 false r) := by simp [tn, h92, hw]
        rw [e1, e2]
        exact ⟨[], [32], by simp, by simp [esc], .inl rfl⟩
      · by_cases h39 : c = 39
        · subst h39
          have := tn_in r (.sq (es := es) (q := q) (tok := tok))
          simpa [rd, tn, wsp, pre] using this
        · by_cases h34 : c = 34
          · subst h34
            have := tn_in r (.dq (es := es) (q := q) (tok := tok))
            simpa [rd, tn, wsp, pre] using this
          · have := (tn_in r (.bare (es := es) (q := q) (tok := tok ++ [c]) (.inl (by simp)))).more
            simpa [rd, tn, h92, hw, h39, h34] using this
  | c :: r, _, _, _, _, _, _, .sq (es := es) (q := q) (tok := tok) => by
    by_cases h39 : c = 39
    · subst h39
      have := tn_in r (.bare (es := es) (q := true) (tok := tok) (.inr rfl))
      simpa [rd, tn] using this
    · have := (tn_in r (.sq (es := es) (q := true) (tok := tok ++ [c]))).more
      simpa [rd, tn, h39] using this
  | c :: r, _, _, _, _, _, _, .dq (es := es) (q := q) (tok := tok) => by
    by_cases h34 : c = 34
    · subst h34
      have := tn_in r (.bare (es := es) (q := true) (tok := tok) (.inr rfl))
      simpa [rd, tn] using this
    · by_cases h92 : c = 92
      · subst h92
        have := tn_in r (.ed (q := true) (tok := tok))
        simpa [rd, tn] using this
      · have := (tn_in r (.dq (es := es) (q := true) (tok := tok ++ [c]))).more
        simpa [rd, tn, h34, h92] using this
  | c :: r, _, _, _, _, _, _, .eb (q := q) (tok := tok) => by
    have := (tn_in r (.bare (es := 97) (q := q) (tok := tok ++ [c]) (.inl (by simp)))).more
    simpa [rd, tn] using this
  | c :: r, _, _, _, _, _, _, .ed (q := q) (tok := tok) => by
    by_cases h : c ≠ 92 ∧ c ≠ 34
    · have := (tn_in r (.dq (es := 34) (q := q) (tok := tok ++ [92, c]))).more
      simpa [rd, tn, h.1, h.2] using this
    · have := (tn_in r (.dq (es := 34) (q := q) (tok := tok ++ [c]))).more
      by_cases h92 : c = 92
      · subst h92
        simpa [rd, tn] using this
      · by_cases h34 : c = 34
        · subst h34
          simpa [rd, tn] using this
        · exact absurd ⟨h92, h34⟩ h
/-- the same at a word's start -/
noncomputable def Meet0 : RT → List Nat × String → Prop
  | .word wd rs _, T => ∃ x, T = pre (34 :: esc wd ++ 34 :: x) (tn 0 false rs) ∧ (x = [32] ∨ x = [] ∧ rs = [])
  | .eof, T => T = ([], "")
  | .err m, T => T.2 = m
theorem Meet.start {tok : List Nat} {R : RT} {T : List Nat × String} (h : Meet tok R T) : Meet0 R (pre (34 :: esc tok) T) := by
  cases R with
  | word wd rs b =>
    obtain ⟨e, x, h1, h2, h3⟩ := h
    refine ⟨x, ?_, h3⟩
    rw [h2, pre_pre, h1, esc_app]
    simp
  | eof => exact h.elim
  | err m => exact h
theorem tn_start : ∀ (r : List Nat) (es : Nat), Meet0 (rd 32 es false [] r) (tn 0 false r)
  | [], es => by simp [rd, tn, Meet0]
  | c :: r, es => by
    by_cases h92 : c = 92
    · subst h92
      cases r with
      | nil => simp [rd, tn, Meet0, wsp]
      | cons c r =>
        have := (tn_in r (.bare (es := 97) (q := false) (tok := [c]) (.inl (by simp)))).start
        simpa [rd, tn, wsp] using this
    · by_cases hw : wsp c = true
      · have := tn_start r es
        simpa [rd, tn, h92, hw, pre] using this
      · by_cases h39 : c = 39
        · subst h39
          have := (tn_in r (.sq (es := es) (q := false) (tok := []))).start
          simpa [rd, tn, wsp, esc] using this
        · by_cases h34 : c = 34
          · subst h34
            have := (tn_in r (.dq (es := es) (q := false) (tok := []))).start
            simpa [rd, tn, wsp, esc] using this
          · have := (tn_in r (.bare (es := es) (q := false) (tok := [c]) (.inl (by simp)))).start
            simpa [rd, tn, h92, hw, h39, h34] using this
theorem nq_esc : ∀ (wd tok y : List Nat), nq false tok (esc wd ++ 34 :: y) = (tok ++ wd, y)
  | [], tok, y => by simp [esc, nq]
  | c :: wd, tok, y => by
    have ih := nq_esc wd (tok ++ [c]) y
    have e : esc (c :: wd) = esc1 c ++ esc wd := by simp [esc]
    rw [e]
    by_cases h : c = 34 ∨ c = 92
    · have e1 : esc1 c = [92, c] := by simp [esc1, h]
      rw [e1]
      simpa [nq] using ih
    · have e1 : esc1 c = [c] := by simp [esc1, h]
      have h1 : c ≠ 34 := fun x => h (.inl x)
      have h2 : c ≠ 92 := fun x => h (.inr x)
      rw [e1]
      simpa [nq, h1, h2] using ih
theorem nt_esc (wd y : List Nat) : nt (34 :: (esc wd ++ 34 :: y)) = (wd, y) := by
  have := nq_esc wd [] y
  simpa [nt, wsp] using this
theorem readN_blank (n : Nat) (y : List Nat) : readN (n + 1) (32 :: y) = readN (n + 1) y := by
  have : nt (32 :: y) = nt y := by simp [nt, wsp]
  simp only [readN, this]
theorem PL2' : ∀ (n : Nat) (t : List Nat) (ws : List (List Nat)), t.length < n → (∀ c ∈ t, alph c) → sp n t = .ok ws → (tn 0 false t).2 = "" ∧ readN (ws.length + 2) (tn 0 false t).1 = (ws ++ [[], []], []) ∧ ∀ w ∈ ws, ∀ c ∈ w, alph c
  | 0, t, ws, hn, _, _ => absurd hn (Nat.not_lt_zero _)
  | n + 1, t, ws, hn, ha, hs => by
    have hm := tn_start t 32
    simp only [sp] at hs
    split at hs
    · rename_i e
      rw [e] at hm
      cases hs
      have hm' : tn 0 false t = ([], "") := hm
      exact ⟨by rw [hm'], by rw [hm']; simp [readN, nt], by simp⟩
    · rename_i wd rs b e
      rw [e] at hm
      have hlt := rd_lt e
      have hmm := rd_mem _ e (by simp) ha
      split at hs
      · rename_i ws' e'
        cases hs
        obtain ⟨h1, h2, h3⟩ := PL2' n rs ws' (by omega) hmm.2 e'
        obtain ⟨x, hx, hx2⟩ := hm
        rw [hx]
        refine ⟨h1, ?_, ?_⟩
        · have e1 : (pre (34 :: esc wd ++ 34 :: x) (tn 0 false rs)).1 = 34 :: (esc wd ++ 34 :: (x ++ (tn 0 false rs).1)) := by simp [pre]
          have e2 : readN (ws'.length + 2) (x ++ (tn 0 false rs).1) = (ws' ++ [[], []], []) := by
            rcases hx2 with rfl | ⟨rfl, _⟩
            · exact (readN_blank _ _).trans h2
            · exact h2
          rw [e1]
          show readN (ws'.length + 2 + 1) _ = _
          have e3 := nt_esc wd (x ++ (tn 0 false rs).1)
          have : readN (ws'.length + 2 + 1) (34 :: (esc wd ++ 34 :: (x ++ (tn 0 false rs).1))) = (wd :: (readN (ws'.length + 2) (x ++ (tn 0 false rs).1)).1, (readN (ws'.length + 2) (x ++ (tn 0 false rs).1)).2) := by
            rw [readN, e3]
          rw [this, e2]
          rfl
        · intro w hw
          rcases List.mem_cons.mp hw with rfl | hw
          · exact hmm.1
          · exact h3 w hw
      · cases hs
    · cases hs
theorem PL2 {t : List Nat} {ws : List (List Nat)} (h : ∀ c ∈ t, alph c) (hs : sp (t.length + 1) t = .ok ws) : (tn 0 false t).2 = "" ∧ readN (ws.length + 2) (tn 0 false t).1 = (ws ++ [[], []], []) ∧ ∀ w ∈ ws, ∀ c ∈ w, alph c := PL2' _ t ws (Nat.lt_succ_self _) h hs
theorem rd_msg : ∀ (r : List Nat) {st es : Nat} {q : Bool} {tok : List Nat} {m : String}, rd st es q tok r = .err m → m = "No escaped character" ∨ m = "No closing quotation"
  | [], st, es, q, tok, m, h => by
    simp only [rd] at h
    repeat' split at h
    all_goals first | (cases h; done) | (cases h; exact .inl rfl) | (cases h; exact .inr rfl)
  | d :: r, st, es, q, tok, m, h => by
    have ih := @rd_msg r
    simp only [rd] at h
    repeat' split at h
    all_goals first | exact ih h | (cases h; done)
theorem PL3' : ∀ (n : Nat) (t : List Nat) (msg : String), t.length < n → sp n t = .error msg → (tn 0 false t).2 = msg ∧ (msg = "No escaped character" ∨ msg = "No closing quotation")
  | 0, t, ws, hn, _ => absurd hn (Nat.not_lt_zero _)
  | n + 1, t, msg, hn, hs => by
    have hm := tn_start t 32
    simp only [sp] at hs
    split at hs
    · cases hs
    · rename_i wd rs b e
      rw [e] at hm
      have hlt := rd_lt e
      split at hs
      · cases hs
      · rename_i m' e'
        cases hs
        obtain ⟨h1, h2⟩ := PL3' n rs msg (by omega) e'
        obtain ⟨x, hx, _⟩ := hm
        rw [hx]
        exact ⟨h1, h2⟩
    · rename_i m' e
      cases hs
      rw [e] at hm
      exact ⟨hm, rd_msg _ e⟩
theorem PL3 {t : List Nat} {msg : String} (_h : ∀ c ∈ t, alph c) (hs : sp (t.length + 1) t = .error msg) : (tn 0 false t).2 = msg ∧ (msg = "No escaped character" ∨ msg = "No closing quotation") := PL3' _ t msg (Nat.lt_succ_self _) hs
end
/- P05 -/
section
set_option maxRecDepth 1000000
set_option maxHeartbeats 0
theorem nm_ok : namesOk vq (looseW vq vl) (namesW vq vl) = true := by
  rw [PySem.W.Fast.te17448422675489707002, PySem.W.Fast.te821141287760084731]
  kernel_rfl
theorem im_ok : importsNone vq = true := by
  rw [PySem.W.Fast.te2458874890965802552]
  kernel_rfl
end
/- P1 -/
section
set_option maxRecDepth 100000
set_option maxHeartbeats 0
set_option rowWalk.seconds 0
local macro_rules | `(tactic| k_qdec) => `(tactic| first | exact nm_ok | exact im_ok)
theorem len_sv {prog : Program} {w : World} {A : Around} {E : Value → Shared → Prop} {s : Shared} {Q : Value → Shared → Prop} {h₀ : Heap} {L : Addr} {news : List (Addr × Obj)} {D : Addr} {vs : List Value} {ws : List (List Nat)} {c : Nat} (N : News h₀ L s.heap news) (hm : (D, listOf vs.toArray c) ∈ news) (sv : SV vs ws) (hl : vs.length ≤ 400) (h : Q (.int ((ws.length : Nat) : Int) (s.toks + 1)) { s with toks := s.toks + 1 + 1 }) :
    wpAny (model prog w) A (call (.builtin "len") [.ref D]) Q E s :=
  KM.len_K N hm (by rw [List.size_toArray]; exact SV.len sv) (by have := SV.len sv; omega) h
theorem rd_fin {l : List Nat} {k n : Nat} {ws : List (List Nat)} (h : readN (n + 2) l = (ws, [])) (kl : k ≤ l.length) (dr : l.drop k = (readN (n + 2) l).2) : lnAt l k = ((l.count 10 : Nat) : Int) + 1 := by
  rw [h] at dr
  have : l.length ≤ k := List.drop_eq_nil_iff.mp dr
  obtain rfl : k = l.length := by omega
  exact lnAt_all l
theorem two_alph {ws : List (List Nat)} (h : ∀ w ∈ ws, ∀ c ∈ w, alph c) : ∀ w ∈ ws ++ [[], []], ∀ c ∈ w, alph c := by
  intro w hw
  rcases List.mem_append.mp hw with hw | hw
  · exact h w hw
  · intro c hc
    rcases List.mem_cons.mp hw with rfl | hw
    · cases hc
    · rcases List.mem_cons.mp hw with rfl | hw
      · cases hc
      · cases hw
local macro_rules | `(tactic| walk_at "call ref") => `(tactic| (k_here; (with_reducible show wpAny _ _ (call (Value.ref 781) _) _ _ _); k_dflt ((show wpAny _ _ (call (Value.ref 781) [Value.ref _, Value.int _ _, Value.int _ _]) _ _ _); refine' wpAny_le (sx_c ?B ?F ?X ?N ?T ?hs ?hi ?hv ?hk0 ?_) ?h1 ?h2 ?h3 ?h4 ?h5; (case h1 => exact rfl); (case h3 => exact rfl); (case h4 => exact rfl); (case h2 => exact Nat.le_of_ble_eq_true rfl); (case h5 => exact Nat.le_of_ble_eq_true rfl); (case B => k_asm); (case F => k_asm); (case X => k_asm); (case N => k_asm); (case T => k_asm); (case hs => assumption); (case hi => assumption); (case hv => assumption); (case hk0 => decide); all_goals (refine stop_of ?_))))
local macro_rules | `(tactic| walk_at "call ref") => `(tactic| (k_here; (with_reducible show wpAny _ _ (call (Value.ref 788) _) _ _ _); k_dflt ((show wpAny _ _ (call (Value.ref 788) [Value.str _ _]) _ _ _); refine' wpAny_le (ts_c ?B ?F ?X ?N ?T ?hx ?hal ?_) ?h1 ?h2 ?h3 ?h4 ?h5; (case h1 => exact rfl); (case h3 => exact rfl); (case h4 => exact rfl); (case h2 => exact Nat.le_of_ble_eq_true rfl); (case h5 => exact Nat.le_of_ble_eq_true rfl); (case B => k_asm); (case F => k_asm); (case X => k_asm); (case N => k_asm); (case T => k_asm); (case hx => assumption); (case hal => assumption); all_goals (refine stop_of ?_))))
local macro_rules | `(tactic| walk_at "call ref") => `(tactic| (k_here; (with_reducible show wpAny _ _ (call (Value.ref 802) _) _ _ _); k_dflt ((show wpAny _ _ (call (Value.ref 802) [Value.str _ _]) _ _ _); refine' wpAny_le (ls_c ?B ?F ?X ?N ?T ?XB ?TB ?hx ?hal ?_ ?_) ?h1 ?h2 ?h3 ?h4 ?h5; (case h1 => exact rfl); (case h3 => exact rfl); (case h4 => exact rfl); (case h2 => exact Nat.le_of_ble_eq_true rfl); (case h5 => exact Nat.le_of_ble_eq_true rfl); (case B => k_asm); (case F => k_asm); (case X => k_asm); (case N => k_asm); (case T => k_asm); (case XB => assumption); (case TB => assumption); (case hx => assumption); (case hal => assumption); all_goals (refine stop_of ?_))))
local macro_rules | `(tactic| walk_at "call ref") => `(tactic| (k_here; (with_reducible show wpAny _ _ (call (Value.ref 807) _) _ _ _); k_dflt ((show wpAny _ _ (call (Value.ref 807) [Value.str _ _, Value.int _ _]) _ _ _); refine' wpAny_le (rd_c ?B ?F ?X ?N ?T ?hx ?hal ?hn ?_) ?h1 ?h2 ?h3 ?h4 ?h5; (case h1 => exact rfl); (case h3 => exact rfl); (case h4 => exact rfl); (case h2 => exact Nat.le_of_ble_eq_true rfl); (case h5 => exact Nat.le_of_ble_eq_true rfl); (case B => k_asm); (case F => k_asm); (case X => k_asm); (case N => k_asm); (case T => k_asm); (case hx => assumption); (case hal => assumption); (case hn => assumption); all_goals (refine stop_of ?_))))
local macro_rules | `(tactic| walk_at "call ref") => `(tactic| (k_here; (with_reducible show wpAny _ _ (call (Value.ref 814) _) _ _ _); k_dflt ((show wpAny _ _ (call (Value.ref 814) [Value.str _ _, Value.ref _]) _ _ _); refine' wpAny_le (du_c2 ?B ?F ?X ?N ?T ?hm ?hx ?hv ?_) ?h1 ?h2 ?h3 ?h4 ?h5; (case h1 => exact rfl); (case h3 => exact rfl); (case h4 => exact rfl); (case h2 => exact Nat.le_of_ble_eq_true rfl); (case h5 => exact Nat.le_of_ble_eq_true rfl); (case B => k_asm); (case F => k_asm); (case X => k_asm); (case N => k_asm); (case T => k_asm); (case hm => k_mem); (case hx => assumption); (case hv => assumption); all_goals (refine stop_of ?_))))
local macro_rules | `(tactic| walk_at "call ref") => `(tactic| (k_here; (with_reducible show wpAny _ _ (call (Value.ref 795) _) _ _ _); k_dflt ((show wpAny _ _ (call (Value.ref 795) [Value.str _ _]) _ _ _); refine' wpAny_le (tn_c ?B ?F ?X ?N ?T ?hx ?hal ?_) ?h1 ?h2 ?h3 ?h4 ?h5; (case h1 => exact rfl); (case h3 => exact rfl); (case h4 => exact rfl); (case h2 => exact Nat.le_of_ble_eq_true rfl); (case h5 => exact Nat.le_of_ble_eq_true rfl); (case B => k_asm); (case F => k_asm); (case X => k_asm); (case N => k_asm); (case T => k_asm); (case hx => assumption); (case hal => assumption); all_goals (refine stop_of ?_))))
local macro_rules | `(tactic| walk_at "binaryOp Add str str") => `(tactic| ((with_reducible show wpAny _ _ (binaryOp Operator.Add (Value.str (Str.mk (List.toArray _)) _) (Value.str (Str.mk (List.toArray _)) _)) _ _ _); k_dflt (refine add_ll (by omega) (by omega) ?_; intro t' tk')))
local macro_rules | `(tactic| walk_at "eval Call") => `(tactic| ((with_reducible show wpAny _ _ (eval (Expr.Call (Expr.Name _ _) _ [] _) _) _ _ _); refine Call_ ?_))
local macro_rules | `(tactic| walk_at "compareOp NotEq ref ref") => `(tactic| refine stop_of ?_)
local macro_rules | `(tactic| walk_at "compareOp Eq ref ref") => `(tactic| refine stop_of ?_)
local macro_rules | `(tactic| walk_at "call builtin:len") => `(tactic| (k_here; (with_reducible show wpAny _ _ (call (Value.builtin "len") [Value.ref _]) _ _ _); k_dflt (refine' len_sv ?N ?hm ?sv ?hl ?_; (case N => k_asm); (case hm => k_mem); (case sv => assumption); (case hl => assumption))))
theorem fin_law : PySem.Challenge.rw_nq0227_01.Holds := Mine.hd (by
  w_on
  k_go0
  rename IntsAre _ _ => hI
  rename ¬ _ < _ => hc63
  have hvl := ints_len63 hI hc63
  k_steps
  unfold Stop
  intro six1 hs1 hl1 h1 tk1 u1 F1 N1
  (try k_sweep)
  k_steps
  unfold Stop
  intro six2 hs2 hl2 h2 tk2 u2 F2 N2
  (try k_sweep)
  have h12 : (six1 ++ six2).length = 12 := by simp only [List.length_append]; omega
  have hxt : (six1 ++ six2).length ≤ 200 := by omega
  have hxt4 : (six1 ++ six2).length ≤ 400 := by omega
  have hat : ∀ c ∈ six1 ++ six2, alph c := fun c hc => (List.mem_append.mp hc).elim (hs1 c) (hs2 c)
  obtain ⟨has, hls⟩ := sh_ok hat
  have hxs : (sh 0 false (six1 ++ six2)).length ≤ 200 := by omega
  have hxs4 : (sh 0 false (six1 ++ six2)).length ≤ 400 := by omega
  obtain ⟨ws, pl1, pl1r, pl1a⟩ := PL1 hat
  k_steps
  unfold Stop
  intro h3 tk3 u3 F3 N3
  (try k_sweep)
  k_steps
  · unfold Stop
    intro ws' hws S1 h4 tk4 vs4 c4 F4 N4 sv4 len4 lt4
    rw [pl1] at hws
    cases hws
    (try k_sweep)
    have lenw : ws.length ≤ 400 := by have := SV.len sv4; omega
    k_steps
    unfold Stop
    intro S2a S3a h5a tk5a u5a vs5a c5a k5a sv5a kl5a dr5a F5a N5a
    (try k_sweep)
    rw [rd_fin pl1r kl5a dr5a] at N5a
    rw [pl1r] at sv5a
    k_steps
    unfold Stop
    intro S4a S5a h6a tk6a u6a u7a u8a F6a N6a
    (try k_sweep)
    k_steps
    unfold Stop
    refine ne_same N6a (by k_mem) (by k_mem) (by k_mem) (by k_mem) sv5a (SV.two sv4) (two_alph pl1a) (by first | ke_room | exact Nat.le_of_ble_eq_true rfl) ?_
    k_steps
    unfold Stop
    intro S6 h7 tk7 u9 u10 n7 F7 N7
    (try k_sweep)
    obtain ⟨_, pl2r, _⟩ := PL2 has pl1
    obtain ⟨hag, hlg⟩ := tn_ok has
    have hxg : (tn 0 false (sh 0 false (six1 ++ six2))).1.length ≤ 400 := by omega
    k_steps
    unfold Stop
    intro S2b S3b h5b tk5b u5b vs5b c5b k5b sv5b kl5b dr5b F5b N5b
    (try k_sweep)
    rw [rd_fin pl2r kl5b dr5b] at N5b
    rw [pl2r] at sv5b
    k_steps
    unfold Stop
    intro S4b S5b h6b tk6b u6b u7b u8b F6b N6b
    (try k_sweep)
    k_steps
    unfold Stop
    refine ne_same N6b (by k_mem) (by k_mem) (by k_mem) (by k_mem) sv5b (SV.two sv4) (two_alph pl1a) (by first | ke_room | exact Nat.le_of_ble_eq_true rfl) ?_
    k_steps
    unfold Stop
    intro S8 h8 tk8 u11 u12 n8 F8 N8
    (try k_sweep)
    obtain ⟨hao, hlo⟩ := tn_ok hat
    have hxo : (tn 0 false (six1 ++ six2)).1.length ≤ 400 := by omega
    k_steps
    · unfold Stop
      intro ws2 hws2 S9 h9 tk9 vs9 c9 F9 N9 sv9 len9 lt9
      (try k_sweep)
      obtain ⟨e2, pl3r, pl3a⟩ := PL2 hat hws2
      rw [e2] at N9
      have lenw2 : ws2.length ≤ 400 := by have := SV.len sv9; omega
      k_steps
      unfold Stop
      intro S2c S3c h5c tk5c u5c vs5c c5c k5c sv5c kl5c dr5c F5c N5c
      (try k_sweep)
      rw [rd_fin pl3r kl5c dr5c] at N5c
      rw [pl3r] at sv5c
      k_steps
      unfold Stop
      intro S4c S5c h6c tk6c u6c u7c u8c F6c N6c
      (try k_sweep)
      k_steps
      unfold Stop
      refine eq_same N6c (by k_mem) (by k_mem) (by k_mem) (by k_mem) sv5c (SV.two sv9) (two_alph pl3a) (by first | ke_room | exact Nat.le_of_ble_eq_true rfl) ?_
      k_steps
    · unfold Stop
      intro msg hmsg h9 tk9 u13 F9 N9
      (try k_sweep)
      obtain ⟨e3, e4⟩ := PL3 hat hmsg
      rw [e3] at N9
      rcases e4 with e4 | e4 <;> subst e4 <;> k_steps
  · unfold Stop
    intro msg hm
    rw [pl1] at hm
    cases hm
)
end
end Mine
theorem PySem.Challenge.cw_nq0227_01_holds : PySem.Challenge.rw_nq0227_01.Holds :=
  Mine.fin_law
