import PyProof.Rows.All
import Wide.All
import OpenK.AllK
import Wide.FinOn
import KE.LcTurns
import KE.KLcTest
import KE.KLcPair
import KE.KPairTest
import KE.KEqDat
import PyProof.StrLaws
import PyProof.StrLawsTight
import Lean
import PySem.Challenge.RW_xe0013_01
set_option Elab.async false
set_option linter.all false
set_option compiler.extract_closed false
section
open PySem PySem.W PyProof.Rows
namespace Mine
section
local macro_rules | `(tactic| o_head $_) => `(tactic| assumption)
set_option maxRecDepth 100000 in
set_option maxHeartbeats 8000000 in
/-- lays the objects of the top: top.heap_1 -/
theorem top (h : PySem.Challenge.rw_xe0013_01.row.Holds) : PySem.Challenge.rw_xe0013_01.row.Holds := by k_head
end
/-- hides a big goal while a fact is taken apart -/
theorem shut {G : Prop} (h : ∀ X : Prop, (G → X) → X) : G := h G id
/-- the statements of the text that the head keeps -/
def view : Program := { PySem.Challenge.pw_xe0013_01 with main := { PySem.Challenge.pw_xe0013_01.main with body := (((PySem.Challenge.pw_xe0013_01.main.body.eraseIdx 14).eraseIdx 7).eraseIdx 5).eraseIdx 1 } }
abbrev objs : List Addr := [2, 3, 32, 36, 37, 38, 40, 41, 43, 44, 52, 54, 55, 57, 58, 59, 61, 62, 64, 65, 66, 68, 69, 71, 72, 73, 75, 76, 78, 79, 80, 81, 82, 83, 84, 90, 91, 92, 99, 100, 101, 102, 105, 112, 114, 115, 117, 118, 119, 120, 121, 124, 131, 132, 133, 136, 138, 139, 141, 142, 143, 145, 146, 148, 149, 150, 153, 154, 155, 157, 158, 160, 161, 162, 164, 165, 167, 168, 169, 171, 172, 174, 175, 176, 178, 179, 181, 182, 183, 186, 187, 188, 191, 192, 193, 196, 197, 198, 201, 202]
theorem objs_eq (P : Params) : objs = (top.heap_1 P).map (·.1) := by kernel_rfl
end Mine
end
section
open PySem PySem.W PyProof.Rows PySem.Calls
set_option maxRecDepth 100000
namespace Mine
theorem pa_pat : PlainAttrs "re.Pattern" :=
  ⟨⟨"object.__getattribute__", by rw [typeLookup_type, builtinLookup_eq_fast]; kernel_rfl, by decide +kernel⟩, by rw [typeLookup_type, builtinLookup_eq_fast]; kernel_rfl⟩
theorem pa_mat : PlainAttrs "re.Match" :=
  ⟨⟨"object.__getattribute__", by rw [typeLookup_type, builtinLookup_eq_fast]; kernel_rfl, by decide +kernel⟩, by rw [typeLookup_type, builtinLookup_eq_fast]; kernel_rfl⟩
theorem slot_search : Slot "re.Pattern" "search" "re.Pattern.search" :=
  .of (owner := "re.Pattern") (n := "search") (by rw [typeLookup_type, builtinLookup_eq_fast]; kernel_rfl) (by decide +kernel) (by decide +kernel) (by decide +kernel)
    (by first | exact .inl (by decide +kernel) | exact .inr (by decide +kernel)) (by rw [isSubtype_type]; kernel_rfl)
theorem type_search : typeOf (.builtin "re.Pattern.search") = pure (.type "method_descriptor") := by show builtinType _ = _; rw [builtinType_eq_fast]; kernel_rfl
theorem entry_search : entryFor table "re.Pattern.search" = some Builtin.«re.Pattern.search» := entryFor_of_tree (by kernel_rfl)
theorem args_search (a b : Value) : argsOk "re.Pattern.search" ⟨[a, b], []⟩ := by unfold argsOk; kernel_rfl
theorem slot_sub : Slot "re.Pattern" "sub" "re.Pattern.sub" :=
  .of (owner := "re.Pattern") (n := "sub") (by rw [typeLookup_type, builtinLookup_eq_fast]; kernel_rfl) (by decide +kernel) (by decide +kernel) (by decide +kernel)
    (by first | exact .inl (by decide +kernel) | exact .inr (by decide +kernel)) (by rw [isSubtype_type]; kernel_rfl)
theorem type_sub : typeOf (.builtin "re.Pattern.sub") = pure (.type "method_descriptor") := by show builtinType _ = _; rw [builtinType_eq_fast]; kernel_rfl
theorem entry_sub : entryFor table "re.Pattern.sub" = some Builtin.«re.Pattern.sub» := entryFor_of_tree (by kernel_rfl)
theorem entry_sub_loop : entryFor table "re.Pattern.sub.loop" = some Builtin.«re.Pattern.sub.loop» := entryFor_of_tree (by kernel_rfl)
theorem args_sub (a b c : Value) : argsOk "re.Pattern.sub" ⟨[a, b, c], []⟩ := by unfold argsOk; kernel_rfl
theorem slot_group : Slot "re.Match" "group" "re.Match.group" :=
  .of (owner := "re.Match") (n := "group") (by rw [typeLookup_type, builtinLookup_eq_fast]; kernel_rfl) (by decide +kernel) (by decide +kernel) (by decide +kernel)
    (by first | exact .inl (by decide +kernel) | exact .inr (by decide +kernel)) (by rw [isSubtype_type]; kernel_rfl)
theorem type_group : typeOf (.builtin "re.Match.group") = pure (.type "method_descriptor") := by show builtinType _ = _; rw [builtinType_eq_fast]; kernel_rfl
theorem entry_group : entryFor table "re.Match.group" = some Builtin.«re.Match.group» := entryFor_of_tree (by kernel_rfl)
theorem args_group (a b : Value) : argsOk "re.Match.group" ⟨[a, b], []⟩ := by unfold argsOk; kernel_rfl
theorem mat_noBool : typeLookup (.type "re.Match") "__bool__" = pure none := by rw [typeLookup_type, builtinLookup_eq_fast]; kernel_rfl
theorem mat_noLen : typeLookup (.type "re.Match") "__len__" = pure none := by rw [typeLookup_type, builtinLookup_eq_fast]; kernel_rfl
theorem str_noCall : typeLookup (.type "str") "__call__" = pure none := by rw [typeLookup_type, builtinLookup_eq_fast]; kernel_rfl
end Mine
end
section
open PySem PySem.W PyProof.Rows PySem.Calls PySem.Builtin.Re
set_option maxRecDepth 100000
namespace Mine
theorem runFor_add (a b : Nat) : ∀ m : Sre.M, m.runFor (a + b) = (m.runFor a).runFor b := by
  induction a with
  | zero => intro m; rw [Nat.zero_add]; rfl
  | succ a ih =>
    intro m
    rw [Nat.succ_add]
    show (if m.outcome.isSome then m else Sre.M.runFor (a + b) m.step) = Sre.M.runFor b (if m.outcome.isSome then m else Sre.M.runFor a m.step)
    by_cases h : m.outcome.isSome = true
    · rw [if_pos h, if_pos h]
      cases b with
      | zero => rfl
      | succ b => show m = if m.outcome.isSome then m else _; rw [if_pos h]
    · rw [if_neg h, if_neg h]; exact ih _
theorem runFor_done {m : Sre.M} (h : m.outcome.isSome = true) : ∀ n, m.runFor n = m
  | 0 => rfl
  | n + 1 => by show (if m.outcome.isSome then m else _) = m; rw [if_pos h]
section
variable {prog : Program} {w : World} {A : Around} {E : Value → Shared → Prop} {s : Shared}
theorem reDrive_ok {Q : Sre.M → Shared → Prop} {m' : Sre.M} (hd : m'.outcome.isSome = true) (hQ : Q m' s) : ∀ (j n : Nat) (m : Sre.M), j < n → m.runFor (4 * j) = m' → wpAny (model prog w) A (reDrive n m) Q E s := by
  intro j
  induction j with
  | zero =>
    intro n m hn hm
    obtain ⟨n, rfl⟩ : ∃ k, n = k + 1 := ⟨n - 1, by lia⟩
    have hm' : m = m' := hm
    subst hm'
    unfold reDrive
    dsimp only
    rw [runFor_done hd, if_pos hd]
    exact wpAny_pure hQ
  | succ j ih =>
    intro n m hn hm
    obtain ⟨n, rfl⟩ : ∃ k, n = k + 1 := ⟨n - 1, by lia⟩
    have e : m.runFor (4 * (j + 1)) = (m.runFor reTurnSteps).runFor (4 * j) := by
      rw [show 4 * (j + 1) = reTurnSteps + 4 * j from by unfold reTurnSteps; lia]; exact runFor_add _ _ _
    rw [e] at hm
    unfold reDrive
    dsimp only
    by_cases h : (m.runFor reTurnSteps).outcome.isSome = true
    · rw [if_pos h]
      rw [runFor_done h] at hm
      subst hm
      exact wpAny_pure hQ
    · rw [if_neg h]
      exact wpAny_bind (wpAny_rule (ih n _ (by lia) hm))
theorem forIn_unit {Q : PUnit → Shared → Prop} (body : Nat → PUnit → Sem (ForInStep PUnit)) (hb : ∀ i (Q' : ForInStep PUnit → Shared → Prop), Q' (.yield ⟨⟩) s → wpAny (model prog w) A (body i ⟨⟩) Q' E s) (hQ : Q ⟨⟩ s) : ∀ l : List Nat,
    wpAny (model prog w) A (forIn l PUnit.unit body) Q E s
  | [] => by simp only [List.forIn_nil]; exact wpAny_pure hQ
  | i :: l => by
    simp only [List.forIn_cons]
    exact wpAny_bind (hb i _ (forIn_unit body hb hQ l))
theorem reRun_hit {Q : Option Sre.M → Shared → Prop} {m m' : Sre.M} (j : Nat) (hj : j < 2 ^ 64) (hm : m.runFor (4 * j) = m') (hd : m'.outcome = some .matched) (hQ : Q (some m') s) :
    wpAny (model prog w) A (reRunToEnd m) Q E s := by
  unfold reRunToEnd
  refine wpAny_bind (reDrive_ok (by rw [hd]; rfl) ?_ j _ m hj hm)
  refine wpAny_bind (forIn_unit _ (fun i Q' h => by split <;> first | exact wpAny_bind (wpAny_rule (wpAny_pure h)) | exact wpAny_bind (wpAny_pure (wpAny_pure h)) | exact wpAny_pure h) ?_ _)
  rw [hd]
  exact wpAny_pure hQ
theorem reRun_miss {Q : Option Sre.M → Shared → Prop} {m m' : Sre.M} (j : Nat) (hj : j < 2 ^ 64) (hm : m.runFor (4 * j) = m') (hd : m'.outcome = some .failed) (hQ : Q none s) :
    wpAny (model prog w) A (reRunToEnd m) Q E s := by
  unfold reRunToEnd
  refine wpAny_bind (reDrive_ok (by rw [hd]; rfl) ?_ j _ m hj hm)
  refine wpAny_bind (forIn_unit _ (fun i Q' h => by split <;> first | exact wpAny_bind (wpAny_rule (wpAny_pure h)) | exact wpAny_bind (wpAny_pure (wpAny_pure h)) | exact wpAny_pure h) ?_ _)
  rw [hd]
  exact wpAny_pure hQ
end
end Mine
end
section
open PySem PySem.W PyProof.Rows PySem.Calls PySem.Builtin.Re
set_option maxRecDepth 100000
namespace Mine
section
variable {prog : Program} {w : World} {A : Around} {E : Value → Shared → Prop} {s : Shared}
theorem fieldsOf_at {a : Addr} {o : Obj} {vs : Array Value} {Q : Array Value → Shared → Prop} (ho : s.heap.get? a = some o) (hd : o.data = .fields vs) (h : Q vs s) : wpAny (model prog w) A (fieldsOf (.ref a)) Q E s := by
  unfold fieldsOf
  refine wpAny_bind (wpAny_load ho ?_)
  rw [hd]
  exact wpAny_pure h
theorem rawItems_at {a : Addr} {o : Obj} {xs : Array Value} {n : Nat} {Q : Array Int → Shared → Prop} (ho : s.heap.get? a = some o) (hd : o.data = .seq xs n) (h : Q (xs.map reRawOf) s) : wpAny (model prog w) A (reRawItems (.ref a)) Q E s := by
  unfold reRawItems seqItems?
  refine wpAny_bind (wpAny_bind (wpAny_load ho ?_))
  rw [hd]
  exact wpAny_pure (wpAny_pure h)
theorem textOf_str {x : Str} {t : Tok} {Q : Array Nat × Nat → Shared → Prop} (h : Q (x.cps, 0) s) : wpAny (model prog w) A (reTextOf (.str x t)) Q E s := by
  unfold reTextOf asStr?
  exact wpAny_bind (wpAny_pure (wpAny_pure h))
theorem reTarget_str {id f : String} {pt ps : Addr} {op os : Obj} {fs xs : Array Value} {n : Nat} {x : Str} {t : Tok} {Q : ReTarget → Shared → Prop}
    (hn : reNamed id f ["string", "pos", "endpos"] 1 [.str x t] [] = pure [some (.str x t), none, none])
    (ho : s.heap.get? pt = some op) (hd : op.data = .fields fs) (h5 : fs.getD 5 .none = .ref ps) (h6 : reRawNat (fs.getD 6 .none) = 0)
    (hs : s.heap.get? ps = some os) (hds : os.data = .seq xs n) (hx : x.length < 2 ^ 62)
    (h : Q { pattern := .ref pt, string := .str x t, code := (xs.map reRawOf).map (·.toNat), text := x.cps, kind := 0, groups := reRawNat (fs.getD 2 .none), pos := 0, lim := x.cps.size } s) :
    wpAny (model prog w) A (reTarget id f ⟨[.ref pt, .str x t], []⟩) Q E s := by
  unfold reTarget
  dsimp only
  rw [hn]
  refine wpAny_bind (wpAny_pure ?_)
  dsimp only
  refine wpAny_bind (wpAny_pure ?_)
  refine wpAny_bind (wpAny_pure ?_)
  refine wpAny_bind (fieldsOf_at ho hd ?_)
  refine wpAny_bind (textOf_str ?_)
  dsimp only
  rw [h6, h5]
  simp only [show ((0 : Nat) == 0) = true from rfl, show ((0 : Nat) == 1) = false from rfl, Bool.and_false, Bool.false_and, Bool.false_eq_true, if_false]
  refine wpAny_bind ?_
  refine wpAny_mono (Q := fun _ s' => s' = s) (by unfold reNoCollectionInside; exact wpAny_pure rfl) (fun u s' e => ?_) fun _ _ x => x
  subst e
  refine wpAny_bind (rawItems_at hs hds ?_)
  refine wpAny_pure ?_
  have e1 : min (Int.toNat 0) x.cps.size = 0 := by simp
  have e2 : min (Int.toNat (2 ^ 63 - 1)) x.cps.size = x.cps.size := by
    have : x.length = x.cps.size := rfl
    rw [Nat.min_eq_right]; lia
  rw [e1, e2]
  exact h
theorem named_search (v : Value) : reNamed "re.Pattern.search" "search" ["string", "pos", "endpos"] 1 [v] [] = pure [some v, none, none] := by rfl
end
end Mine
end
section
open PySem PySem.W PyProof.Rows PySem.Calls PySem.Builtin.Re
set_option maxRecDepth 100000
namespace Mine
def spanOf (m : Sre.M) (g : Nat) : List Value :=
  match if ((2 * g + 1 : Nat) : Int) ≤ m.lastmark then (m.marks.getD (2 * g) none, m.marks.getD (2 * g + 1) none) else (none, none) with
    | (some b, some e) => [rawInt b, rawInt e]
    | _ => [rawInt (-1), rawInt (-1)]
def spansOf (groups : Nat) (m : Sre.M) : List Value := (List.range groups).flatMap (spanOf m)
def spansBad (groups : Nat) (m : Sre.M) : Bool := (List.range groups).any (fun g => match m.marks.getD (2 * g) none, m.marks.getD (2 * g + 1) none with | some b, some e => ((2 * g + 1 : Nat) : Int) ≤ m.lastmark && e < b | _, _ => false)
/-- the match's spans as a tuple -/
abbrev spanObj (groups : Nat) (m : Sre.M) : Obj := { cls := .type "tuple", data := .seq (rawInt m.start :: rawInt m.handed :: spansOf groups m).toArray }
abbrev matchObj (pattern string : Value) (pos lim : Nat) (li : Int) (T : Addr) : Obj := { cls := .type "re.Match", data := .fields #[string, pattern, rawInt pos, rawInt lim, rawInt li, .ref T] }
section
variable {prog : Program} {w : World} {A : Around} {E : Value → Shared → Prop} {s : Shared} {h₀ : Heap} {L : Addr} {mm : Str → Option Value} {news : List (Addr × Obj)}
theorem newMatch_ {pattern string : Value} {groups pos lim : Nat} {m : Sre.M} {Q : Value → Shared → Prop} (hb : spansBad groups m = false) (hz : (spansOf groups m).length ≤ 1000) (F : Fr h₀ L s.heap mm) (N : News h₀ L s.heap news)
    (h : ∀ T M h', Fr h₀ L h' mm → News h₀ L h' ((M, matchObj pattern string pos lim m.lastindex T) :: (T, spanObj groups m) :: news) → (∀ p ∈ news, p.1 < T) → T < M → Q (.ref M) { s with heap := h' }) :
    wpAny (model prog w) A (reNewMatch pattern string groups pos lim m) Q E s := by
  unfold reNewMatch
  show wpAny _ _ (if spansBad groups m = true then _ else _) Q E s
  rw [hb, if_neg Bool.false_ne_true]
  refine wpAny_bind (newTuple_N F N (fun h₁ F₁ N₁ => ?_) (by
    have : (rawInt m.start :: rawInt m.handed :: spansOf groups m).length ≤ 1002 := by simp only [List.length_cons]; lia
    exact Nat.le_trans this (by decide)))
  refine wpAny_newObj_type ?_ (by size_fits)
  exact h s.heap.objs.size h₁.objs.size _ (F₁.push _) (N₁.push F₁ _) (fun p hp => Heap.lt_size (N p hp).1) (Heap.lt_size (N₁ _ (.head _)).1)
theorem answer_hit {tg : ReTarget} {m m' : Sre.M} {Q : Fin → Shared → Prop} (j : Nat) (hj : j < 2 ^ 64) (hm : m.runFor (4 * j) = m') (hd : m'.outcome = some .matched) (hb : spansBad tg.groups m' = false) (hz : (spansOf tg.groups m').length ≤ 1000) (F : Fr h₀ L s.heap mm) (N : News h₀ L s.heap news)
    (h : ∀ T M h', Fr h₀ L h' mm → News h₀ L h' ((M, matchObj tg.pattern tg.string tg.pos tg.lim m'.lastindex T) :: (T, spanObj tg.groups m') :: news) → (∀ p ∈ news, p.1 < T) → T < M → Q (.done (.ret (.ref M))) { s with heap := h' }) :
    wpAny (model prog w) A (reAnswer tg m) Q E s := by
  unfold reAnswer
  refine wpAny_bind (reRun_hit j hj hm hd ?_)
  dsimp only
  refine wpAny_bind (newMatch_ hb hz F N fun T M h' F' N' l1 l2 => wpAny_pure (h T M h' F' N' l1 l2))
theorem answer_miss {tg : ReTarget} {m m' : Sre.M} {Q : Fin → Shared → Prop} (j : Nat) (hj : j < 2 ^ 64) (hm : m.runFor (4 * j) = m') (hd : m'.outcome = some .failed) (h : Q (.done (.ret .none)) s) :
    wpAny (model prog w) A (reAnswer tg m) Q E s := by
  unfold reAnswer
  exact wpAny_bind (reRun_miss j hj hm hd (wpAny_pure h))
section
variable {pt ps : Addr} {op os : Obj} {fs xs : Array Value} {n : Nat} {x : Str} {t : Tok} {code : Array Nat} {G : Nat} {m' : Sre.M} {Q : Value → Shared → Prop}
theorem search_hit (hp : op.cls = .type "re.Pattern") (ho : s.heap.get? pt = some op) (hd : op.data = .fields fs) (h5 : fs.getD 5 .none = .ref ps) (h6 : reRawNat (fs.getD 6 .none) = 0) (h2 : reRawNat (fs.getD 2 .none) = G)
    (hs : s.heap.get? ps = some os) (hds : os.data = .seq xs n) (hc : (xs.map reRawOf).map (·.toNat) = code) (hx : x.length < 2 ^ 62)
    (j : Nat) (hj : j < 2 ^ 64) (hm : (Sre.forSearch code x.cps G 0 x.cps.size false).runFor (4 * j) = m') (hd' : m'.outcome = some .matched) (hb : spansBad G m' = false) (hz : (spansOf G m').length ≤ 1000) (F : Fr h₀ L s.heap mm) (N : News h₀ L s.heap news)
    (h : ∀ T M h', Fr h₀ L h' mm → News h₀ L h' ((M, matchObj (.ref pt) (.str x t) 0 x.cps.size m'.lastindex T) :: (T, spanObj G m') :: news) → (∀ p ∈ news, p.1 < T) → T < M → Q (.ref M) { s with heap := h' }) :
    wpAny (model prog w) A (call (.builtin "re.Pattern.search") [.ref pt, .str x t]) Q E s := by
  refine wpAny_call_entry slot_search ⟨_, ho, hp⟩ entry_search ?_ (args_search _ _)
  unfold Builtin.«re.Pattern.search»
  subst hc h2
  refine wpAny_bind (reTarget_str (named_search _) ho hd h5 h6 hs hds hx ?_)
  refine answer_hit j hj hm hd' hb hz F N fun T M h' F' N' l1 l2 => ⟨_, rfl, h T M h' F' N' l1 l2⟩
theorem search_miss (hp : op.cls = .type "re.Pattern") (ho : s.heap.get? pt = some op) (hd : op.data = .fields fs) (h5 : fs.getD 5 .none = .ref ps) (h6 : reRawNat (fs.getD 6 .none) = 0) (h2 : reRawNat (fs.getD 2 .none) = G)
    (hs : s.heap.get? ps = some os) (hds : os.data = .seq xs n) (hc : (xs.map reRawOf).map (·.toNat) = code) (hx : x.length < 2 ^ 62)
    (j : Nat) (hj : j < 2 ^ 64) (hm : (Sre.forSearch code x.cps G 0 x.cps.size false).runFor (4 * j) = m') (hd' : m'.outcome = some .failed) (h : Q .none s) :
    wpAny (model prog w) A (call (.builtin "re.Pattern.search") [.ref pt, .str x t]) Q E s := by
  refine wpAny_call_entry slot_search ⟨_, ho, hp⟩ entry_search ?_ (args_search _ _)
  unfold Builtin.«re.Pattern.search»
  subst hc h2
  refine wpAny_bind (reTarget_str (named_search _) ho hd h5 h6 hs hds hx ?_)
  exact answer_miss j hj hm hd' ⟨_, rfl, h⟩
end
theorem group_at {M T : Addr} {oM oT : Obj} {fs xs : Array Value} {n : Nat} {x : Str} {t tk : Tok} {g : Nat} {b e : Nat} {Q : Value → Shared → Prop}
    (hc : oM.cls = .type "re.Match") (ho : s.heap.get? M = some oM) (hd : oM.data = .fields fs) (h0 : fs.getD 0 .none = .str x t) (h5 : fs.getD 5 .none = .ref T)
    (hT : s.heap.get? T = some oT) (hdT : oT.data = .seq xs n) (hg : 2 * g + 1 < xs.size) (hb : (xs.map reRawOf).getD (2 * g) (-1) = b) (he : (xs.map reRawOf).getD (2 * g + 1) (-1) = e) (hx : x.length ≤ 1000000)
    (h : Q (.str ⟨x.cps.extract b e⟩ s.toks) { s with toks := s.toks + 1 }) :
    wpAny (model prog w) A (call (.builtin "re.Match.group") [.ref M, .int g tk]) Q E s := by
  refine wpAny_call_entry slot_group ⟨_, ho, hc⟩ entry_group ?_ (args_group _ _)
  unfold Builtin.«re.Match.group»
  refine wpAny_bind (m := noKeywords _ _) (wpAny_pure ?_)
  unfold reFound
  refine wpAny_bind (wpAny_bind (fieldsOf_at ho hd ?_))
  rw [h5]
  refine wpAny_bind (rawItems_at hT hdT (wpAny_pure ?_))
  dsimp only
  have key : wpAny (model prog w) A.in1 (reGroupNumber { fields := fs, spans := xs.map reRawOf } (.int g tk)) (fun i s' => i = g ∧ s' = s) E s := by
    unfold reGroupNumber
    refine wpAny_bind (m := asInt? _) (wpAny_pure ?_)
    dsimp only
    rw [if_pos (show (some (g : Int)).isSome = true from rfl)]
    refine wpAny_bind (m := asIndex _) (wpAny_pure ?_)
    have hlt : (decide ((g : Int) < 0) || decide (2 * (g : Int) ≥ ((xs.map reRawOf).size : Int))) = false := by
      rw [Array.size_map]
      simp only [Bool.or_eq_false_iff, decide_eq_false_iff_not]
      lia
    rw [hlt, if_neg Bool.false_ne_true]
    exact wpAny_pure ⟨rfl, rfl⟩
  refine wpAny_bind (wpAny_mono key (fun i s' e' => ?_) fun _ _ x => x)
  obtain ⟨rfl, rfl⟩ := e'
  unfold reGroupText
  rw [hb, he]
  dsimp only
  have hn : (decide ((b : Int) < 0) || decide ((e : Int) < 0)) = false := by
    simp only [Bool.or_eq_false_iff, decide_eq_false_iff_not]
    lia
  rw [hn, h0, if_neg Bool.false_ne_true]
  refine wpAny_bind (wpAny_bind (textOf_str ?_))
  dsimp only
  unfold reSlice
  simp only [show ((0 : Nat) == 0) = true from rfl, if_true, Int.toNat_natCast]
  refine wpAny_mkStr (wpAny_pure ⟨_, rfl, h⟩) ?_
  have : (⟨x.cps.extract b e⟩ : Str).length ≤ x.length := by
    show (x.cps.extract b e).size ≤ x.cps.size
    rw [Array.size_extract]; lia
  exact Nat.le_trans this (Nat.le_trans hx (by decide))
theorem group_none {M T : Addr} {oM oT : Obj} {fs xs : Array Value} {n : Nat} {tk : Tok} {g : Nat} {Q : Value → Shared → Prop}
    (hc : oM.cls = .type "re.Match") (ho : s.heap.get? M = some oM) (hd : oM.data = .fields fs) (h5 : fs.getD 5 .none = .ref T)
    (hT : s.heap.get? T = some oT) (hdT : oT.data = .seq xs n) (hg : 2 * g + 1 < xs.size) (hb : (xs.map reRawOf).getD (2 * g) (-1) = -1)
    (h : Q .none s) :
    wpAny (model prog w) A (call (.builtin "re.Match.group") [.ref M, .int g tk]) Q E s := by
  refine wpAny_call_entry slot_group ⟨_, ho, hc⟩ entry_group ?_ (args_group _ _)
  unfold Builtin.«re.Match.group»
  refine wpAny_bind (m := noKeywords _ _) (wpAny_pure ?_)
  unfold reFound
  refine wpAny_bind (wpAny_bind (fieldsOf_at ho hd ?_))
  rw [h5]
  refine wpAny_bind (rawItems_at hT hdT (wpAny_pure ?_))
  dsimp only
  have key : wpAny (model prog w) A.in1 (reGroupNumber { fields := fs, spans := xs.map reRawOf } (.int g tk)) (fun i s' => i = g ∧ s' = s) E s := by
    unfold reGroupNumber
    refine wpAny_bind (m := asInt? _) (wpAny_pure ?_)
    dsimp only
    rw [if_pos (show (some (g : Int)).isSome = true from rfl)]
    refine wpAny_bind (m := asIndex _) (wpAny_pure ?_)
    have hlt : (decide ((g : Int) < 0) || decide (2 * (g : Int) ≥ ((xs.map reRawOf).size : Int))) = false := by
      rw [Array.size_map]
      simp only [Bool.or_eq_false_iff, decide_eq_false_iff_not]
      lia
    rw [hlt, if_neg Bool.false_ne_true]
    exact wpAny_pure ⟨rfl, rfl⟩
  refine wpAny_bind (wpAny_mono key (fun i s' e' => ?_) fun _ _ x => x)
  obtain ⟨rfl, rfl⟩ := e'
  unfold reGroupText
  rw [hb]
  exact wpAny_pure ⟨_, rfl, h⟩
theorem truthy_match {M : Addr} {oM : Obj} {Q : Bool → Shared → Prop} (ho : s.heap.get? M = some oM) (hc : oM.cls = .type "re.Match") (h : Q true s) : wpAny (model prog w) A (truthy (.ref M)) Q E s := by
  have hT : s.TypeIs (.ref M) "re.Match" := ⟨_, ho, hc⟩
  unfold truthy
  refine wpAny_bind (wpAny_callSpecial?_none hT mat_noBool ?_)
  refine wpAny_bind (wpAny_specialOf hT mat_noLen ?_)
  exact wpAny_pure h
theorem method_pat {pt : Addr} {op : Obj} {name : Str} {id : String} {pl : Sem Bool} {Q : Value × List Value → Shared → Prop} (ho : s.heap.get? pt = some op) (hc : op.cls = .type "re.Pattern") (hdn : op.dict = none) (slot : Slot "re.Pattern" name id) (hty : typeOf (.builtin id) = pure (.type "method_descriptor"))
    (h : Q (.builtin id, [.ref pt]) s) : wpAny (model prog w) A (getMethod (.ref pt) name pl) Q E s :=
  getMethod_builtin (T := "re.Pattern") ⟨_, ho, hc⟩ pa_pat slot hty (fun a e => by cases e; exact ⟨_, ho, hdn⟩) h
theorem method_mat {pt : Addr} {op : Obj} {name : Str} {id : String} {pl : Sem Bool} {Q : Value × List Value → Shared → Prop} (ho : s.heap.get? pt = some op) (hc : op.cls = .type "re.Match") (hdn : op.dict = none) (slot : Slot "re.Match" name id) (hty : typeOf (.builtin id) = pure (.type "method_descriptor"))
    (h : Q (.builtin id, [.ref pt]) s) : wpAny (model prog w) A (getMethod (.ref pt) name pl) Q E s :=
  getMethod_builtin (T := "re.Match") ⟨_, ho, hc⟩ pa_mat slot hty (fun a e => by cases e; exact ⟨_, ho, hdn⟩) h
end
end Mine
end
section
open PySem PySem.Sre
set_option maxRecDepth 100000
namespace Mine
def eolCode : Array Nat := #[14, 9, 4, 1, 2, 16, 10, 16, 13, 0, 7, 7, 16, 13, 16, 10, 15, 18, 5, 16, 10, 15, 13, 11, 16, 13, 5, 5, 0, 16, 10, 1, 15, 2, 0, 1]
theorem run1 (n : Nat) (m : M) (h : m.outcome = none) : m.runFor (n + 1) = m.step.runFor n := by
  show (if m.outcome.isSome then m else M.runFor n m.step) = _
  rw [h]; rfl
theorem step_exec (m : M) (h1 : m.outcome = none) (h2 : m.answer = none) (h4 : m.pc < m.code.size) : m.step = m.exec := by
  unfold M.step
  rw [h1, if_neg (by decide)]
  obtain ⟨code', text, lim, start, lastStart, wholeText, mustAdvance, pc, pos, handed, outermost, marks, lastmark, lastindex, loops, inner, frames, weight, answer, seen, outcome⟩ := m
  cases h2
  exact if_pos h4
theorem step_res (m : M) (yes : Bool) (f : Sre.Frame) (rest : List Sre.Frame) (h1 : m.outcome = none) (h2 : m.answer = some yes) (h3 : m.frames = f :: rest) :
    m.step = M.resume { m with answer := none, frames := rest, weight := m.weight - (1 + f.kept.marks.size), pc := f.pc, pos := f.pos, outermost := f.outermost } f yes := by
  unfold M.step
  rw [h1, if_neg (by decide)]
  obtain ⟨code', text, lim, start, lastStart, wholeText, mustAdvance, pc, pos, handed, outermost, marks, lastmark, lastindex, loops, inner, frames, weight, answer, seen, outcome⟩ := m
  cases h2
  cases h3
  rfl
theorem step_end (m : M) (yes : Bool) (h1 : m.outcome = none) (h2 : m.answer = some yes) (h3 : m.frames = []) :
    m.step = { m with outcome := some (if yes then .matched else .failed) } := by
  unfold M.step
  rw [h1, if_neg (by decide)]
  obtain ⟨code', text, lim, start, lastStart, wholeText, mustAdvance, pc, pos, handed, outermost, marks, lastmark, lastindex, loops, inner, frames, weight, answer, seen, outcome⟩ := m
  cases h2
  cases h3
  rfl
theorem exec_lit (m : M) (v : Nat) (h3 : m.word 0 = 16) (hv : m.word 1 = v) (hp : m.pos < m.lim) (hc : m.text.getD m.pos 0 = v) :
    m.exec = { m with seen := m.seen.add 16, pc := m.pc + 2, pos := m.pos + 1 } := by
  unfold M.exec
  rw [h3]
  have hw : m.code.getD m.pc 0 = 16 := h3
  have hv' : m.code.getD (m.pc + 1) 0 = v := hv
  refine (if_neg (Nat.not_le.mpr hp)).trans ?_
  have e : accepts m.code m.pc (m.text.getD m.pos 0) (m.seen.add 16) = .ok (true, m.seen.add 16) := by
    unfold accepts
    rw [hw, hc]
    show Except.ok (v == m.code.getD (m.pc + 1) 0, _) = _
    rw [hv', beq_self_eq_true]
  have e2 : itemWidth m.code m.pc = 2 := by unfold itemWidth; rw [hw]; rfl
  show (match accepts m.code m.pc (m.text.getD m.pos 0) (m.seen.add 16) with
    | .error why => _
    | .ok (false, seen) => _
    | .ok (true, seen) => { m with seen := seen, pc := m.pc + itemWidth m.code m.pc, pos := m.pos + 1 }) = _
  rw [e, e2]
theorem exec_litno (m : M) (v : Nat) (h3 : m.word 0 = 16) (hv : m.word 1 = v) (hc : m.lim ≤ m.pos ∨ m.text.getD m.pos 0 ≠ v) :
    m.exec = { m with seen := m.seen.add 16, answer := some false } := by
  unfold M.exec
  rw [h3]
  have hw : m.code.getD m.pc 0 = 16 := h3
  have hv' : m.code.getD (m.pc + 1) 0 = v := hv
  by_cases hp : m.lim ≤ m.pos
  · exact (if_pos hp).trans rfl
  · refine (if_neg hp).trans ?_
    have hc' : m.text.getD m.pos 0 ≠ v := hc.resolve_left hp
    have e : accepts m.code m.pc (m.text.getD m.pos 0) (m.seen.add 16) = .ok (false, m.seen.add 16) := by
      unfold accepts
      rw [hw]
      show Except.ok (m.text.getD m.pos 0 == m.code.getD (m.pc + 1) 0, _) = _
      rw [hv', beq_eq_false_iff_ne.mpr hc']
    show (match accepts m.code m.pc (m.text.getD m.pos 0) (m.seen.add 16) with
      | .error why => _
      | .ok (false, seen) => M.say { m with seen := seen } false
      | .ok (true, seen) => _) = _
    rw [e]
    rfl
theorem exec_jump (m : M) (h3 : m.word 0 = 15) : m.exec = { m with seen := m.seen.add 15, pc := m.pc + 1 + m.word 1 } := by
  unfold M.exec
  rw [h3]
  rfl
theorem exec_success (m : M) (h3 : m.word 0 = 1) (hw : m.wholeText = false) (hm : m.mustAdvance = false) : m.exec = { m with seen := m.seen.add 1, handed := m.pos, answer := some true } := by
  unfold M.exec
  rw [h3]
  refine (if_neg ?_).trans rfl
  show ¬ ((m.outermost && ((m.wholeText && _) || (m.mustAdvance && _))) = true)
  rw [hw, hm]
  simp
section
variable (t : Array Nat) (n p : Nat) (f : Bool)
abbrev frS : Sre.Frame := { wait := .nextStart, pc := 10, pos := p, outermost := f }
abbrev frB (k : Nat) : Sre.Frame := { wait := .nextBranch, pc := k, pos := p, outermost := f }
abbrev frN : Sre.Frame := { wait := .lookNot, pc := 26, pos := p + 1, outermost := f }
def mk (pc pos handed : Nat) (fr : List Sre.Frame) (wt : Nat) (ans : Option Bool) (o : Bool) (sn : Seen) : M :=
  { code := eolCode, text := t, lim := n, start := p, lastStart := n, pc, pos, handed, outermost := o, marks := #[], frames := fr, weight := wt, answer := ans, seen := sn }
end
section
variable {t : Array Nat} {n p : Nat} {f : Bool}
theorem go (k : Nat) (m : M) {m1 m' : M} (h1 : m.outcome = none) (h : m.step = m1) (h2 : m1.runFor k = m') : m.runFor (k + 1) = m' := by
  rw [run1 _ _ h1, h]; exact h2
theorem s_branch (sn : Seen) : (mk t n p 10 p p [frS p f] 1 none f sn).step = mk t n p 12 p p [frB p f 11, frS p f] 2 none f (sn.add 7) := by
  rw [step_exec _ rfl rfl (by show 10 < eolCode.size; decide)]; rfl
theorem s_next11 (pc pos hd : Nat) (o : Bool) (sn : Seen) : (mk t n p pc pos hd [frB p f 11, frS p f] 2 (some false) o sn).step = mk t n p 19 p p [frB p f 18, frS p f] 2 none f sn := by
  rw [step_res _ _ _ _ rfl rfl rfl]; rfl
theorem s_next18 (pc pos hd : Nat) (o : Bool) (sn : Seen) : (mk t n p pc pos hd [frB p f 18, frS p f] 2 (some false) o sn).step = mk t n p 24 p p [frB p f 23, frS p f] 2 none f sn := by
  rw [step_res _ _ _ _ rfl rfl rfl]; rfl
theorem s_lit (pc v pos hd : Nat) (fr : List Sre.Frame) (wt : Nat) (o : Bool) (sn : Seen) (h0 : pc < eolCode.size) (h1 : eolCode.getD pc 0 = 16) (h2 : eolCode.getD (pc + 1) 0 = v) (hp : pos < n) (hc : t.getD pos 0 = v) :
    (mk t n p pc pos hd fr wt none o sn).step = mk t n p (pc + 2) (pos + 1) hd fr wt none o (sn.add 16) := by
  rw [step_exec _ rfl rfl h0, exec_lit (mk t n p pc pos hd fr wt none o sn) v h1 h2 hp hc]; rfl
theorem s_litno (pc v pos hd : Nat) (fr : List Sre.Frame) (wt : Nat) (o : Bool) (sn : Seen) (h0 : pc < eolCode.size) (h1 : eolCode.getD pc 0 = 16) (h2 : eolCode.getD (pc + 1) 0 = v) (hc : n ≤ pos ∨ t.getD pos 0 ≠ v) :
    (mk t n p pc pos hd fr wt none o sn).step = mk t n p pc pos hd fr wt (some false) o (sn.add 16) := by
  rw [step_exec _ rfl rfl h0, exec_litno (mk t n p pc pos hd fr wt none o sn) v h1 h2 hc]; rfl
theorem s_jump (pc d pos hd : Nat) (fr : List Sre.Frame) (wt : Nat) (o : Bool) (sn : Seen) (h0 : pc < eolCode.size) (h1 : eolCode.getD pc 0 = 15) (h2 : pc + 1 + eolCode.getD (pc + 1) 0 = d) :
    (mk t n p pc pos hd fr wt none o sn).step = mk t n p d pos hd fr wt none o (sn.add 15) := by
  rw [step_exec _ rfl rfl h0, exec_jump (mk t n p pc pos hd fr wt none o sn) h1]
  subst h2; rfl
theorem s_ok (pos hd : Nat) (fr : List Sre.Frame) (wt : Nat) (o : Bool) (sn : Seen) :
    (mk t n p 35 pos hd fr wt none o sn).step = mk t n p 35 pos pos fr wt (some true) o (sn.add 1) := by
  rw [step_exec _ rfl rfl (by show 35 < eolCode.size; decide), exec_success _ rfl rfl rfl]; rfl
theorem s_yesB (k pc pos hd : Nat) (o : Bool) (sn : Seen) : (mk t n p pc pos hd [frB p f k, frS p f] 2 (some true) o sn).step = mk t n p k p hd [frS p f] 1 (some true) f sn := by
  rw [step_res _ _ _ _ rfl rfl rfl]; rfl
theorem s_yesS (pc pos hd : Nat) (o : Bool) (sn : Seen) : (mk t n p pc pos hd [frS p f] 1 (some true) o sn).step = mk t n p 10 p hd [] 0 (some true) f sn := by
  rw [step_res _ _ _ _ rfl rfl rfl]; rfl
theorem s_fin (pc pos hd : Nat) (o : Bool) (sn : Seen) : (mk t n p pc pos hd [] 0 (some true) o sn).step = { mk t n p pc pos hd [] 0 (some true) o sn with outcome := some .matched } := step_end (mk t n p pc pos hd [] 0 (some true) o sn) true rfl rfl rfl
theorem s_assert (hd : Nat) (sn : Seen) : (mk t n p 26 (p + 1) hd [frB p f 23, frS p f] 2 none f sn).step = mk t n p 29 (p + 1) (p + 1) [frN p f, frB p f 23, frS p f] 3 none false (sn.add 5) := by
  rw [step_exec _ rfl rfl (by show 26 < eolCode.size; decide)]; rfl
theorem s_noN (pc pos hd : Nat) (o : Bool) (sn : Seen) : (mk t n p pc pos hd [frN p f, frB p f 23, frS p f] 3 (some false) o sn).step = mk t n p 32 (p + 1) hd [frB p f 23, frS p f] 2 none f sn := by
  rw [step_res _ _ _ _ rfl rfl rfl]; rfl
/-- found at p, up to e -/
def Found (m : M) (p e : Nat) : Prop := m.outcome = some .matched ∧ m.start = p ∧ m.handed = e
theorem found_end (k pos hd : Nat) (sn : Seen) (j : Nat) : ∃ m' : M, (mk t n p 35 pos hd [frB p f k, frS p f] 2 none f sn).runFor (j + 1 + 1 + 1 + 1) = m' ∧ Found m' p pos := by
  refine ⟨_, rfl, ?_⟩
  rw [go _ _ rfl (s_ok _ _ _ _ _ _) (go _ _ rfl (s_yesB _ _ _ _ _ _) (go _ _ rfl (s_yesS _ _ _ _ _) (go _ _ rfl (s_fin _ _ _ _ _) rfl)))]
  have : ∀ j (m : M), m.outcome.isSome = true → m.runFor j = m := fun j m h => by
    cases j with
    | zero => rfl
    | succ j => show (if m.outcome.isSome then m else _) = m; rw [if_pos h]
  rw [this j _ rfl]
  exact ⟨rfl, rfl, rfl⟩
theorem run_lf (sn : Seen) (hp : p < n) (h : t.getD p 0 = 10) : ∃ m' : M, (mk t n p 10 p p [frS p f] 1 none f sn).runFor 40 = m' ∧ Found m' p (p + 1) := by
  obtain ⟨m', e, hm⟩ := found_end (t := t) (n := n) (p := p) (f := f) 18 (p + 1) p (((((sn.add 7).add 16)).add 16).add 15) 31
  refine ⟨m', ?_, hm⟩
  exact go _ _ rfl (s_branch sn) (go _ _ rfl (s_litno 12 13 _ _ _ _ _ _ (by decide) (by decide) (by decide) (.inr (by rw [h]; decide))) (go _ _ rfl (s_next11 _ _ _ _ _) (go _ _ rfl (s_lit 19 10 _ _ _ _ _ _ (by decide) (by decide) (by decide) hp h) (go _ _ rfl (s_jump 21 35 _ _ _ _ _ _ (by decide) (by decide) (by decide)) e))))
theorem run_crlf (sn : Seen) (hp : p + 1 < n) (h : t.getD p 0 = 13) (h' : t.getD (p + 1) 0 = 10) : ∃ m' : M, (mk t n p 10 p p [frS p f] 1 none f sn).runFor 40 = m' ∧ Found m' p (p + 2) := by
  obtain ⟨m', e, hm⟩ := found_end (t := t) (n := n) (p := p) (f := f) 11 (p + 1 + 1) p ((((sn.add 7).add 16).add 16).add 15) 32
  refine ⟨m', ?_, hm⟩
  exact go _ _ rfl (s_branch sn) (go _ _ rfl (s_lit 12 13 _ _ _ _ _ _ (by decide) (by decide) (by decide) (by lia) h) (go _ _ rfl (s_lit 14 10 _ _ _ _ _ _ (by decide) (by decide) (by decide) hp h') (go _ _ rfl (s_jump 16 35 _ _ _ _ _ _ (by decide) (by decide) (by decide)) e)))
theorem run_cr (sn : Seen) (hp : p < n) (h : t.getD p 0 = 13) (h' : n ≤ p + 1 ∨ t.getD (p + 1) 0 ≠ 10) : ∃ m' : M, (mk t n p 10 p p [frS p f] 1 none f sn).runFor 40 = m' ∧ Found m' p (p + 1) := by
  obtain ⟨m', e, hm⟩ := found_end (t := t) (n := n) (p := p) (f := f) 23 (p + 1) (p + 1) (((((((((sn.add 7).add 16).add 16)).add 16).add 16).add 5).add 16).add 15) 25
  refine ⟨m', ?_, hm⟩
  exact go _ _ rfl (s_branch sn) (go _ _ rfl (s_lit 12 13 _ _ _ _ _ _ (by decide) (by decide) (by decide) hp h) (go _ _ rfl (s_litno 14 10 _ _ _ _ _ _ (by decide) (by decide) (by decide) h')
    (go _ _ rfl (s_next11 _ _ _ _ _) (go _ _ rfl (s_litno 19 10 _ _ _ _ _ _ (by decide) (by decide) (by decide) (.inr (by rw [h]; decide)))
    (go _ _ rfl (s_next18 _ _ _ _ _) (go _ _ rfl (s_lit 24 13 _ _ _ _ _ _ (by decide) (by decide) (by decide) hp h) (go _ _ rfl (s_assert _ _)
    (go _ _ rfl (s_litno 29 10 _ _ _ _ _ _ (by decide) (by decide) (by decide) h') (go _ _ rfl (s_noN _ _ _ _ _) (go _ _ rfl (s_jump 32 35 _ _ _ _ _ _ (by decide) (by decide) (by decide)) e))))))))))
/-- no end of a line in the first k signs behind s -/
def Clean (t : Array Nat) (s e : Nat) : Prop := ∀ j, s ≤ j → j < e → t.getD j 0 ≠ 10 ∧ t.getD j 0 ≠ 13
theorem inSet_no {c : Nat} (h1 : c ≠ 10) (h2 : c ≠ 13) (sn : Seen) : ∃ sn', inSet eolCode c eolCode.size 5 true sn = .ok (false, sn') := by
  have e1 : (c == 10) = false := beq_eq_false_iff_ne.mpr h1
  have e2 : (c == 13) = false := beq_eq_false_iff_ne.mpr h2
  refine ⟨((sn.add 16).add 16).add 0, ?_⟩
  show (if (c == 10) = true then _ else (if (c == 13) = true then _ else _)) = _
  rw [e1, e2]
  rfl
theorem inSet_yes {c : Nat} (h : c = 10 ∨ c = 13) (sn : Seen) : ∃ sn', inSet eolCode c eolCode.size 5 true sn = .ok (true, sn') := by
  rcases h with rfl | rfl
  · exact ⟨_, rfl⟩
  · exact ⟨_, rfl⟩
theorem admitted_at (m : M) (hc : m.code = eolCode) (ht : m.text = t) (hn : m.lim = n) (hpn : p < n) (hp : t.getD p 0 = 10 ∨ t.getD p 0 = 13) : ∀ fuel s sn, p - s < fuel → s ≤ p → Clean t s p → ∃ sn', M.admitted m fuel s sn = .ok (some p, sn')
  | 0, s, sn, h, _, _ => by lia
  | fuel + 1, s, sn, h, hs, hcl => by
    unfold M.admitted
    rw [hc, ht, hn, if_neg (by lia)]
    by_cases e : s = p
    · subst e
      obtain ⟨sn', h'⟩ := inSet_yes hp sn
      rw [h']
      exact ⟨_, rfl⟩
    · have := hcl s (Nat.le_refl _) (by lia)
      obtain ⟨sn', h'⟩ := inSet_no this.1 this.2 sn
      rw [h']
      exact admitted_at m hc ht hn hpn hp fuel (s + 1) sn' (by lia) (by lia) fun j a b => hcl j (by lia) b
theorem admitted_none (m : M) (hc : m.code = eolCode) (ht : m.text = t) (hn : m.lim = n) : ∀ fuel s sn, Clean t s n → ∃ sn', M.admitted m fuel s sn = .ok (none, sn')
  | 0, s, sn, _ => ⟨_, rfl⟩
  | fuel + 1, s, sn, hcl => by
    unfold M.admitted
    rw [hc, ht, hn]
    by_cases e : s ≥ n
    · rw [if_pos e]; exact ⟨_, rfl⟩
    · rw [if_neg e]
      have := hcl s (Nat.le_refl _) (by lia)
      obtain ⟨sn', h'⟩ := inSet_no this.1 this.2 sn
      rw [h']
      exact admitted_none m hc ht hn fuel (s + 1) sn' fun j a b => hcl j (by lia) b
abbrev srch (t : Array Nat) (n s : Nat) : M := { code := eolCode, text := t, lim := n, start := s, lastStart := n, pc := 10, pos := s, handed := s, marks := #[], seen := ({} : Seen).add 14 }
theorem forSearch_eol (s : Nat) (hs : s < n) : Sre.forSearch eolCode t 0 s n false = (srch t n s).attemptFrom s true := by
  unfold Sre.forSearch
  refine (if_neg ?_).trans rfl
  show ¬ ((decide (s > n) || decide (n - s < 1)) = true)
  simp only [Bool.or_eq_true, decide_eq_true_eq]; lia
theorem search_at (s : Nat) (hs : s ≤ p) (hpn : p < n) (hp : t.getD p 0 = 10 ∨ t.getD p 0 = 13) (hcl : Clean t s p) : ∃ sn, Sre.forSearch eolCode t 0 s n false = mk t n p 10 p p [frS p true] 1 none true sn := by
  rw [forSearch_eol s (by lia)]
  obtain ⟨sn', h'⟩ := admitted_at (srch t n s) rfl rfl rfl hpn hp (n + 1 - s) s (({} : Seen).add 14) (by lia) hs hcl
  refine ⟨sn', ?_⟩
  unfold M.attemptFrom
  rw [show M.hasFirstSet (srch t n s) = true from rfl]
  show (match M.admitted (srch t n s) (n + 1 - s) s (({} : Seen).add 14) with | .ok (some s, seen) => _ | .ok (none, seen) => _ | .error why => _) = _
  rw [h']
  rfl
theorem search_none (s : Nat) (hcl : Clean t s n) : ∃ m' : M, (Sre.forSearch eolCode t 0 s n false).runFor (4 * 10) = m' ∧ m'.outcome = some .failed := by
  refine ⟨_, rfl, ?_⟩
  by_cases hs : s < n
  · rw [forSearch_eol s hs]
    obtain ⟨sn', h'⟩ := admitted_none (srch t n s) rfl rfl rfl (n + 1 - s) s (({} : Seen).add 14) hcl
    have e : (srch t n s).attemptFrom s true = { srch t n s with seen := sn', answer := some false } := by
      unfold M.attemptFrom
      rw [show M.hasFirstSet (srch t n s) = true from rfl]
      show (match M.admitted (srch t n s) (n + 1 - s) s (({} : Seen).add 14) with | .ok (some s, seen) => _ | .ok (none, seen) => _ | .error why => _) = _
      rw [h']
      rfl
    rw [e]
    rfl
  · have e : Sre.forSearch eolCode t 0 s n false = { srch t n s with lastStart := 0, answer := some false } := by
      unfold Sre.forSearch
      refine (if_pos ?_).trans rfl
      show (decide (s > n) || decide (n - s < 1)) = true
      simp only [Bool.or_eq_true, decide_eq_true_eq]; lia
    rw [e]
    rfl
/-- what stands at p is an end of a line, e signs long -/
def EolAt (t : Array Nat) (n p : Nat) (e : Nat) : Prop :=
  (t.getD p 0 = 10 ∧ e = 1) ∨ (t.getD p 0 = 13 ∧ t.getD (p + 1) 0 = 10 ∧ p + 1 < n ∧ e = 2) ∨ (t.getD p 0 = 13 ∧ (n ≤ p + 1 ∨ t.getD (p + 1) 0 ≠ 10) ∧ e = 1)
theorem search_found (s e : Nat) (hs : s ≤ p) (hpn : p < n) (hp : EolAt t n p e) (hcl : Clean t s p) : ∃ m' : M, (Sre.forSearch eolCode t 0 s n false).runFor (4 * 10) = m' ∧ Found m' p (p + e) := by
  have h1 : t.getD p 0 = 10 ∨ t.getD p 0 = 13 := by rcases hp with h | h | h <;> simp [h.1]
  obtain ⟨sn, h⟩ := search_at s hs hpn h1 hcl
  rw [h]
  rcases hp with ⟨a, rfl⟩ | ⟨a, b, c, rfl⟩ | ⟨a, b, rfl⟩
  · exact run_lf sn hpn a
  · exact run_crlf sn c a b
  · exact run_cr sn hpn a b
end
end Mine
end
section
open PySem PySem.W PyProof.Rows PySem.Calls PySem.Builtin.Re
set_option maxRecDepth 100000
namespace Mine
def isEol (e : List Nat) : Prop := e = [10] ∨ e = [13] ∨ e = [13, 10]
def cleanW (w : List Nat) : Prop := w ≠ [] ∧ ∀ c ∈ w, c ≠ 10 ∧ c ≠ 13
noncomputable def segCps : List (List Nat × List Nat) → List Nat
  | [] => []
  | p :: r => p.1 ++ (p.2 ++ segCps r)
def Segs (l : List (List Nat × List Nat)) : Prop := ∀ p ∈ l, cleanW p.1 ∧ isEol p.2
theorem getD_app (a b : List Nat) (j : Nat) : (a ++ b).toArray.getD (a.length + j) 0 = b.toArray.getD j 0 := by
  have e : ∀ (l : List Nat) p, l.toArray.getD p 0 = l.getD p 0 := fun l p => by simp
  rw [e, e]
  simp [List.getD_eq_getElem?_getD, List.getElem?_append_right]
theorem getD_left (a b : List Nat) (j : Nat) (h : j < a.length) : (a ++ b).toArray.getD j 0 = a.toArray.getD j 0 := by
  have e : ∀ (l : List Nat) p, l.toArray.getD p 0 = l.getD p 0 := fun l p => by simp
  rw [e, e]
  simp [List.getD_eq_getElem?_getD, List.getElem?_append_left h]
theorem getD_mem (a : List Nat) (j : Nat) (h : j < a.length) : a.toArray.getD j 0 ∈ a := by
  have e : ∀ (l : List Nat) p, l.toArray.getD p 0 = l.getD p 0 := fun l p => by simp
  rw [e]
  simp [List.getD_eq_getElem?_getD, List.getElem?_eq_getElem h]
theorem seg_search (pre w e : List Nat) (r : List (List Nat × List Nat)) (hw : cleanW w) (he : isEol e) (hr : Segs r) (n : Nat) (hn : (pre ++ (w ++ (e ++ segCps r))).length = n) :
    ∃ m' : Sre.M, (Sre.forSearch eolCode (pre ++ (w ++ (e ++ segCps r))).toArray 0 pre.length n false).runFor (4 * 10) = m' ∧ Found m' (pre.length + w.length) (pre.length + w.length + e.length) := by
  have hl : pre.length + (w.length + (e.length + (segCps r).length)) = n := by rw [← hn]; simp only [List.length_append]
  have hel : 0 < e.length := by rcases he with rfl | rfl | rfl <;> simp
  have at_ : ∀ j, (pre ++ (w ++ (e ++ segCps r))).toArray.getD (pre.length + w.length + j) 0 = (e ++ segCps r).toArray.getD j 0 := fun j => by
    rw [Nat.add_assoc, getD_app, getD_app]
  have hcl : Clean (pre ++ (w ++ (e ++ segCps r))).toArray pre.length (pre.length + w.length) := by
    intro j h1 h2
    obtain ⟨i, rfl⟩ : ∃ i, j = pre.length + i := ⟨j - pre.length, by lia⟩
    rw [getD_app, getD_left _ _ _ (by lia)]
    exact hw.2 _ (getD_mem _ _ (by lia))
  refine search_found pre.length e.length (Nat.le_add_right _ _) (by lia) ?_ hcl
  have a0 := at_ 0
  have a1 := at_ 1
  rw [Nat.add_zero] at a0
  unfold EolAt
  rw [a0, a1]
  have e' : ∀ (l : List Nat) p, l.toArray.getD p 0 = l.getD p 0 := fun l p => by simp
  simp only [e']
  rcases he with rfl | rfl | rfl
  · exact .inl ⟨rfl, rfl⟩
  · refine .inr (.inr ⟨rfl, ?_, rfl⟩)
    cases r with
    | nil => exact .inl (by simp [segCps] at hl; lia)
    | cons p r =>
      right
      have hp := (hr p (.head _)).1
      obtain ⟨c, cs, hc⟩ : ∃ c cs, p.1 = c :: cs := by
        cases h : p.1 with
        | nil => exact absurd h hp.1
        | cons c cs => exact ⟨c, cs, rfl⟩
      have : c ≠ 10 := (hp.2 c (by rw [hc]; exact .head _)).1
      show ([13] ++ (p.1 ++ (p.2 ++ segCps r))).getD 1 0 ≠ 10
      rw [hc]
      exact this
  · refine .inr (.inl ⟨rfl, rfl, ?_, rfl⟩)
    simp only [List.length_cons, List.length_nil] at hl
    lia
theorem seg_none (pre : List Nat) (n : Nat) (hn : pre.length = n) : ∃ m' : Sre.M, (Sre.forSearch eolCode pre.toArray 0 n n false).runFor (4 * 10) = m' ∧ m'.outcome = some .failed :=
  search_none n fun j h1 h2 => by lia
end Mine
end
section
open PySem PySem.W PyProof.Rows PySem.Calls PySem.Builtin.Re
set_option maxRecDepth 100000
namespace Mine
abbrev crlf : Str := ⟨#[13, 10]⟩
noncomputable def wSub : List (List Nat × List Nat) → List Str
  | [] => []
  | p :: r => ⟨p.1.toArray⟩ :: crlf :: wSub r
theorem strsSnoc {vs : List Value} {ys : List Str} (h : StrsAre vs ys) (y : Str) (t : Tok) : StrsAre (vs ++ [.str y t]) (ys ++ [y]) := by
  induction h with
  | nil => exact StrsAre.cons y t .nil
  | cons z u _ ih => exact StrsAre.cons z u ih
theorem strsNil {vs : List Value} {ys : List Str} (h : StrsAre vs ys) (e : vs = []) : ys = [] := by
  cases h with
  | nil => rfl
  | cons => cases e
section
variable {prog : Program} {w : World} {A : Around} {E : Value → Shared → Prop} {s : Shared} {h₀ : Heap} {L : Addr} {mm : Str → Option Value} {news : List (Addr × Obj)}
theorem push_ {lst : Addr} {its : Array Value} {n : Nat} {v : Value} {Q : Unit → Shared → Prop} (F : Fr h₀ L s.heap mm) (N : News h₀ L s.heap ((lst, listOf its n) :: news)) (hne : ∀ p ∈ news, p.1 ≠ lst) (hz : its.size ≤ 10000)
    (h : ∀ h', Fr h₀ L h' mm → News h₀ L h' ((lst, listOf (its.push v) (n + 1)) :: news) → Q () { s with heap := h' }) : wpAny (model prog w) A (updateSeq lst (·.push v)) Q E s := by
  have z := (N _ (.head _)).1
  refine wpAny_updateSeq z rfl ?_ (Nat.le_trans hz (by decide)) (by rw [Array.size_push]; exact Nat.le_trans (Nat.add_le_add_right hz 1) (by decide))
  obtain ⟨F', N'⟩ := news_upd (pre := []) (f := Obj.mapSeq (·.push v)) (o' := listOf (its.push v) (n + 1)) F N (fun _ hp => nomatch hp) hne (by
    show (Obj.mk _ _ (.seq (its.push v) (if (its.push v).size == its.size then n else n + 1)) _) = _
    have : ((its.push v).size == its.size) = false := by rw [Array.size_push]; simp
    rw [this]
    rfl) rfl
  exact h _ F' N'
theorem whole_str {pt ps : Addr} {op os : Obj} {fs xs : Array Value} {n : Nat} {x : Str} {t : Tok} {Q : ReTarget → Shared → Prop}
    (ho : s.heap.get? pt = some op) (hd : op.data = .fields fs) (h5 : fs.getD 5 .none = .ref ps) (h6 : reRawNat (fs.getD 6 .none) = 0)
    (hs : s.heap.get? ps = some os) (hds : os.data = .seq xs n)
    (h : Q { pattern := .ref pt, string := .str x t, code := (xs.map reRawOf).map (·.toNat), text := x.cps, kind := 0, groups := reRawNat (fs.getD 2 .none), pos := 0, lim := x.cps.size } s) :
    wpAny (model prog w) A (reWholeTarget (.ref pt) (.str x t)) Q E s := by
  unfold reWholeTarget
  refine wpAny_bind (fieldsOf_at ho hd ?_)
  refine wpAny_bind (textOf_str ?_)
  dsimp only
  rw [h6, h5]
  simp only [show ((0 : Nat) == 0) = true from rfl, show ((0 : Nat) == 1) = false from rfl, Bool.and_false, Bool.false_and, Bool.false_eq_true, if_false]
  refine wpAny_bind ?_
  refine wpAny_mono (Q := fun _ s' => s' = s) (by unfold reNoCollectionInside; exact wpAny_pure rfl) (fun u s' e => ?_) fun _ _ x => x
  subst e
  exact wpAny_bind (rawItems_at hs hds (wpAny_pure h))
theorem lit_str {x : Str} {t : Tok} {Q : Unit → Shared → Prop} (h : Q () s) : wpAny (model prog w) A (reLiteralCannotBeTurned (.str x t)) Q E s := by
  unfold reLiteralCannotBeTurned asStr?
  exact wpAny_bind (wpAny_pure (wpAny_pure h))
theorem slice_str {x : Array Nat} {b e : Nat} {Q : Value → Shared → Prop} (hx : x.size ≤ 100000) (h : Q (.str ⟨x.extract b e⟩ s.toks) { s with toks := s.toks + 1 }) : wpAny (model prog w) A (reSlice x 0 b e) Q E s := by
  unfold reSlice
  rw [if_pos (show ((0 : Nat) == 0) = true from rfl)]
  refine wpAny_mkStr h ?_
  show (x.extract b e).size ≤ _
  rw [Array.size_extract]
  exact Nat.le_trans (Nat.le_trans (Nat.sub_le _ _) (Nat.le_trans (Nat.min_le_right _ _) hx)) (by decide)
theorem loop_quiet (args : Args) : (Code.builtin "re.Pattern.sub.loop" args).quiet = true := Code.quiet_builtin _ (by decide +kernel)
theorem sub_loop {pt ps lst : Addr} {op os : Obj} {fs xs : Array Value} {n : Nat} {x : Str} {t tc : Tok} {R : Result → Shared → Prop}
    (ho : h₀.get? pt = some op) (hd : op.data = .fields fs) (h5 : fs.getD 5 .none = .ref ps) (h6 : reRawNat (fs.getD 6 .none) = 0) (h2 : reRawNat (fs.getD 2 .none) = 0)
    (hs : h₀.get? ps = some os) (hds : os.data = .seq xs n) (hc : (xs.map reRawOf).map (·.toNat) = eolCode) (hne : ∀ p ∈ news, p.1 ≠ lst) (hxs : x.cps.size ≤ 100000) :
    ∀ (r : List (List Nat × List Nat)) (pre : List Nat) (its : Array Value) (ys : List Str) (cnt : Nat) (k : Int) (s : Shared),
      x.cps = (pre ++ segCps r).toArray → Segs r → Fr h₀ L s.heap mm → News h₀ L s.heap ((lst, listOf its cnt) :: news) → StrsAre its.toList ys → its.size + 2 * r.length ≤ 1000 →
      ((ys ++ wSub r).map (·.length)).sum ≤ 1000000 →
      (∀ h' tk t' its' cnt', Fr h₀ L h' mm → News h₀ L h' ((lst, listOf its' cnt') :: news) → R (.ok (.ret (.str (Str.join ⟨#[]⟩ (ys ++ wSub r)) t'))) { s with heap := h', toks := tk }) →
      codeAny (model prog w) A (.builtin "re.Pattern.sub.loop" ⟨[.ref pt, .str x t, .str crlf tc, rawInt 0, rawInt 0, rawInt k, rawInt (pre.length : Nat), rawInt (pre.length : Nat), .bool false, .ref lst, .bool false], []⟩) R s := by
  intro r
  induction r with
  | nil =>
    intro pre its ys cnt k s hx hr F N hi hz hsum hR
    refine codeAny_builtin entry_sub_loop ?_
    unfold Builtin.«re.Pattern.sub.loop»
    refine wpAny_bind (whole_str (F.keep _ _ ho) hd h5 h6 (F.keep _ _ hs) hds ?_)
    simp only [show (((0 : Int)) == 0) = true from rfl, if_true]
    refine wpAny_bind (lit_str ?_)
    have hx' : x.cps = pre.toArray := by rw [hx]; simp [segCps]
    have hsz : x.cps.size = pre.length := by rw [hx', List.size_toArray]
    rw [show ((0 : Int) != 0 && decide (k ≥ 0)) = false from rfl, if_neg Bool.false_ne_true, hc, h2]
    unfold reNextFound
    rw [Int.toNat_natCast]
    refine shut fun X hX => ?_
    obtain ⟨m', e1, e2⟩ := seg_none pre pre.length rfl
    refine hX ?_
    clear hX X
    refine wpAny_bind (reRun_miss 10 (by decide) (m' := m') (by rw [hsz]; show (Sre.forSearch eolCode x.cps 0 pre.length pre.length false).runFor (4 * 10) = m'; rw [hx']; exact e1) e2 ?_)
    dsimp only
    rw [if_neg (by rw [hsz]; exact Nat.lt_irrefl _)]
    refine wpAny_bind (slice_str hxs ?_)
    have z := (N _ (.head _)).1
    have e0 : (⟨x.cps.extract 0 0⟩ : Str) = ⟨#[]⟩ := by congr 1; simp
    unfold seqItems?
    refine wpAny_bind (wpAny_bind (wpAny_load z (wpAny_pure ?_)))
    rw [e0]
    have hy : ys ++ wSub [] = ys := by simp [wSub]
    rw [hy] at hR hsum
    by_cases he : its.isEmpty = true
    · rw [if_pos (show ((some its).getD #[]).isEmpty = true from he)]
      have : ys = [] := strsNil hi (by simpa using he)
      subst this
      refine wpAny_bind (wpAny_pure ?_)
      rw [if_neg Bool.false_ne_true]
      exact wpAny_pure (hR s.heap _ _ its cnt F N)
    · rw [if_neg (show ¬ ((some its).getD #[]).isEmpty = true from he)]
      rw [show (if ((0 : Nat) == 0) = true then "str.join" else "bytes.join") = "str.join" from rfl]
      refine wpAny_bind (join_list (ys := ys) (items := its) ⟨_, z, rfl, cnt, rfl⟩ hi ?_ fun t' k' => ?_)
      · show _ + ys.length * 0 ≤ _
        lia
      · rw [if_neg Bool.false_ne_true]
        refine wpAny_pure ?_
        have := hR s.heap k' t' its cnt F N
        rw [show Txt.join ⟨#[]⟩ ys = Str.join ⟨#[]⟩ ys from StrLaws.glued_eq_join _ _]
        exact this
  | cons p r ih =>
    intro pre its ys cnt k s hx hr F N hi hz hsum hR
    refine codeAny_builtin entry_sub_loop ?_
    unfold Builtin.«re.Pattern.sub.loop»
    refine wpAny_bind (whole_str (F.keep _ _ ho) hd h5 h6 (F.keep _ _ hs) hds ?_)
    simp only [show (((0 : Int)) == 0) = true from rfl, if_true]
    refine wpAny_bind (lit_str ?_)
    have hp := hr p (.head _)
    have hr' : Segs r := fun q hq => hr q (.tail _ hq)
    have hx' : x.cps = (pre ++ (p.1 ++ (p.2 ++ segCps r))).toArray := hx
    have hsz : x.cps.size = (pre ++ (p.1 ++ (p.2 ++ segCps r))).length := by rw [hx', List.size_toArray]
    rw [show ((0 : Int) != 0 && decide (k ≥ 0)) = false from rfl, if_neg Bool.false_ne_true, hc, h2]
    unfold reNextFound
    rw [Int.toNat_natCast]
    refine shut fun X hX => ?_
    obtain ⟨m', e1, e2, e3, e4⟩ := seg_search pre p.1 p.2 r hp.1 hp.2 hr' _ rfl
    refine hX ?_
    clear hX X
    refine wpAny_bind (reRun_hit 10 (by decide) (m' := m') (by rw [hsz]; show (Sre.forSearch eolCode x.cps 0 pre.length _ false).runFor (4 * 10) = m'; rw [hx']; exact e1) e2 ?_)
    dsimp only
    have hw : 0 < p.1.length := List.length_pos_iff.mpr hp.1.1
    have he : 0 < p.2.length := by rcases hp.2 with h | h | h <;> rw [h] <;> simp
    have ew : (⟨x.cps.extract pre.length (pre.length + p.1.length)⟩ : Str) = ⟨p.1.toArray⟩ := by
      congr 1
      rw [hx']
      apply Array.ext'
      simp [List.extract_eq_take_drop]
    rw [e3, e4, if_pos (by lia)]
    refine wpAny_bind (slice_str hxs ?_)
    rw [ew]
    have hne' : ∀ q ∈ news, q.1 ≠ lst := hne
    simp only [List.length_cons] at hz
    refine wpAny_bind (push_ F N hne' (by lia) fun h1 F1 N1 => ?_)
    refine wpAny_bind (wpAny_pure ?_)
    rw [if_pos (show (Value.str crlf tc != Value.none) = true from rfl)]
    refine wpAny_bind (push_ F1 N1 hne' (by rw [Array.size_push]; lia) fun h2 F2 N2 => ?_)
    refine wpAny_pure ⟨loop_quiet _, ?_⟩
    have em : ((pre.length + p.1.length + p.2.length == pre.length + p.1.length) : Bool) = false := beq_eq_false_iff_ne.mpr (by lia)
    rw [em]
    have el : pre.length + p.1.length + p.2.length = (pre ++ (p.1 ++ p.2)).length := by simp only [List.length_append]; lia
    rw [el]
    refine ih (pre ++ (p.1 ++ p.2)) _ (ys ++ [⟨p.1.toArray⟩] ++ [crlf]) _ (k + 1) _ ?_ hr' F2 N2 ?_ ?_ ?_ ?_
    · rw [hx']; simp
    · simp only [Array.toList_push]
      exact strsSnoc (strsSnoc hi _ _) _ _
    · simp only [Array.size_push]; lia
    · have : ys ++ [⟨p.1.toArray⟩] ++ [crlf] ++ wSub r = ys ++ wSub (p :: r) := by simp [wSub]
      rw [this]; exact hsum
    · intro h' tk t' its' cnt' F' N'
      have : ys ++ [⟨p.1.toArray⟩] ++ [crlf] ++ wSub r = ys ++ wSub (p :: r) := by simp [wSub]
      rw [this]
      exact hR h' tk t' its' cnt' F' N'
end
end Mine
end
section
open PySem PySem.W PyProof.Rows PySem.Calls PySem.Builtin.Re
set_option maxRecDepth 100000
namespace Mine
section
variable {prog : Program} {w : World} {A : Around} {E : Value → Shared → Prop} {s : Shared} {h₀ : Heap} {L : Addr} {mm : Str → Option Value} {news : List (Addr × Obj)}
theorem named_sub (v u : Value) : reNamed "re.Pattern.sub" "sub" ["repl", "string", "count"] 2 [v, u] [] = pure [some v, some u, none] := by rfl
theorem call_sub {pt ps : Addr} {op os : Obj} {fs xs : Array Value} {n : Nat} {x : Str} {t tc : Tok} {Q : Value → Shared → Prop} {r : List (List Nat × List Nat)}
    (hp : op.cls = .type "re.Pattern") (ho : h₀.get? pt = some op) (hd : op.data = .fields fs) (h5 : fs.getD 5 .none = .ref ps) (h6 : reRawNat (fs.getD 6 .none) = 0) (h2 : reRawNat (fs.getD 2 .none) = 0)
    (hs : h₀.get? ps = some os) (hds : os.data = .seq xs n) (hc : (xs.map reRawOf).map (·.toNat) = eolCode) (hx : x.cps = (segCps r).toArray) (hr : Segs r) (hl : r.length ≤ 100) (hxs : x.cps.size ≤ 100000) (hsum : ((wSub r).map (·.length)).sum ≤ 1000000)
    (F : Fr h₀ L s.heap mm) (N : News h₀ L s.heap news)
    (h : ∀ h' tk t' lst its cnt, Fr h₀ L h' mm → News h₀ L h' ((lst, listOf its cnt) :: news) → (∀ p ∈ news, p.1 < lst) → Q (.str (Str.join ⟨#[]⟩ (wSub r)) t') { s with heap := h', toks := tk }) :
    wpAny (model prog w) A (call (.builtin "re.Pattern.sub") [.ref pt, .str crlf tc, .str x t]) Q E s := by
  have hT : s.TypeIs (.ref pt) "re.Pattern" := ⟨_, F.keep _ _ ho, hp⟩
  refine wpAny_call (codeAny_call_builtin slot_sub.plain entry_sub (slot_sub.check _ _ _ _ _ _ _ _ hT (args_sub _ _ _) ?_))
  unfold Builtin.«re.Pattern.sub» reSubstitute
  dsimp only
  rw [named_sub]
  refine wpAny_bind (wpAny_pure ?_)
  dsimp only
  refine wpAny_bind (wpAny_pure ?_)
  refine wpAny_bind (wpAny_specialOf (T := "str") (typeIs_str _ _ _) str_noCall ?_)
  rw [if_neg (show ¬ (none : Option Value).isSome = true from by decide)]
  refine wpAny_bind (m := asStr? _) (wpAny_pure ?_)
  dsimp only
  refine wpAny_bind (wpAny_pure ?_)
  rw [if_neg (show ¬ (none : Option Value).isSome = true from by decide)]
  rw [if_pos (show (!(crlf.cps.contains 92)) = true from by decide +kernel)]
  refine wpAny_bind (wpAny_pure ?_)
  dsimp only
  refine wpAny_bind (wpAny_holding (whole_str (F.keep _ _ ho) hd h5 h6 (F.keep _ _ hs) hds ?_))
  rw [if_neg (show ¬ ((0 : Int) == 1) = true from by decide)]
  refine wpAny_bind (newList_N F N (fun h1 F1 N1 => ?_) (by decide))
  refine wpAny_pure ⟨loop_quiet _, ?_⟩
  have lt : ∀ p ∈ news, p.1 < s.heap.objs.size := fun p hp => Heap.lt_size (N p hp).1
  refine sub_loop ho hd h5 h6 h2 hs hds hc (fun p hp => Nat.ne_of_lt (lt p hp)) hxs r [] #[] [] 0 0 _ (by rw [hx]; rfl) hr F1 N1 .nil (by simp; lia) (by simpa using hsum) ?_
  intro h' tk t' its' cnt' F' N'
  exact h h' tk t' _ its' cnt' F' N' lt
end
end Mine
end
section
open PySem
set_option maxRecDepth 100000
namespace Mine
def tzCode : Array Nat := #[14, 4, 0, 1, 6, 6, 0, 23, 14, 0, 1, 17, 0, 13, 6, 16, 45, 16, 43, 0, 17, 1, 18, 17, 2, 13, 4, 8, 0, 0, 24, 9, 0, 1, 13, 4, 8, 0, 0, 1, 17, 3, 24, 6, 0, 1, 16, 58, 1, 23, 17, 0, 1, 17, 4, 13, 4, 8, 0, 0, 13, 4, 8, 0, 0, 17, 5, 18, 6, 5, 1]
def zSign (r : Nat) : List Nat := match r % 3 with | 0 => [] | 1 => [43] | _ => [45]
def zTens (d r : Nat) : List Nat := if d = 1 ∨ d = 2 then [48 + r / 48 % 2] else []
def zHour (r : Nat) : List Nat := [48 + r / 3 % 4]
def zColon (d : Nat) : List Nat := if d = 0 ∨ d = 2 then [58] else []
def zMin (r : Nat) : List Nat := match r / 12 % 4 with | 0 => [48, 48] | 1 => [51, 48] | 2 => [57, 48] | _ => []
def zName (r : Nat) : List Nat := match r % 4 with | 0 => [90] | 1 => [71, 77, 84] | 2 => [85, 84, 67] | _ => [85, 84]
def zBad (r : Nat) : List Nat := match r % 4 with | 0 => [69, 83, 84] | 1 => [49, 58, 53] | 2 => [43] | _ => [122]
def zcps (z : Nat) : List Nat :=
  if z % 6 = 4 then zName (z / 6) else if z % 6 = 5 then zBad (z / 6)
  else zSign (z / 6) ++ (zTens (z % 6) (z / 6) ++ (zHour (z / 6) ++ (zColon (z % 6) ++ zMin (z / 6))))
def zt (z : Nat) : Str := ⟨(zcps z).toArray⟩
def zHours (z : Nat) : Int := ((z / 18 % 4 : Nat) : Int) + (if z % 6 = 1 ∨ z % 6 = 2 then 10 * ((z / 288 % 2 : Nat) : Int) else 0)
def zMinutes (r : Nat) : Int := match r / 12 % 4 with | 0 => 0 | 1 => 30 | 2 => 90 | _ => 0
def zSecs (z : Nat) : Int := 3600 * zHours z + 60 * zMinutes (z / 6)
def zm (z : Nat) : Option Int :=
  if z % 6 = 4 then some 0 else if z % 6 = 5 then none
  else some (if z / 6 % 3 = 2 then - zSecs z else zSecs z)
/-- the machine's end at a text -/
def tzEnd (z : Nat) : Sre.M := (Sre.forSearch tzCode (zt z).cps 3 0 (zt z).cps.size false).runFor 400
def isMatched (o : Option Sre.Outcome) : Bool := match o with | some .matched => true | _ => false
def isFailed (o : Option Sre.Outcome) : Bool := match o with | some .failed => true | _ => false
end Mine
open Mine
example : isMatched (tzEnd 0).outcome = true := by decide +kernel
example : isMatched (tzEnd 300).outcome = true := by decide +kernel
example : (List.range 30).all (fun z => z % 6 ≥ 4 || isMatched (tzEnd z).outcome) = true := by decide +kernel
end
section
open PySem PySem.Sre
set_option maxRecDepth 100000
namespace Mine
def setT (u : Array Nat) (m : M) : M := { m with text := u }
section
variable (u : Array Nat)
theorem ite_setT {c : Prop} [Decidable c] {a b : M} {x y : M} (h1 : c → x = setT u a) (h2 : ¬ c → y = setT u b) : (if c then x else y) = setT u (if c then a else b) := by
  split
  · exact h1 ‹_›
  · exact h2 ‹_›
theorem say_t (m : M) (b : Bool) : (setT u m).say b = setT u (m.say b) := rfl
theorem stick_t (m : M) (b : String) : (setT u m).stick b = setT u (m.stick b) := rfl
theorem attempt_t (m : M) (f : Sre.Frame) (a b : Nat) (o : Bool) : (setT u m).attempt f a b o = setT u (m.attempt f a b o) := by
  unfold M.attempt
  exact ite_setT u (fun _ => rfl) fun _ => rfl
theorem putBack_t (m : M) (k : Sre.Kept) : (setT u m).putBack k = setT u (m.putBack k) := rfl
theorem alternative_t (m : M) (a : Nat) (k : Sre.Kept) : (setT u m).alternative a k = setT u (m.alternative a k) := by
  unfold M.alternative
  exact ite_setT u (fun _ => rfl) fun _ => attempt_t u m _ _ _ _
theorem afterRun_t (m : M) (w : Wait) (c : Int) (k : Sre.Kept) : (setT u m).afterRun w c k = setT u (m.afterRun w c k) := attempt_t u m _ _ _ _
theorem afterLoop_t (m : M) (w : Wait) (i : Nat) (c : Int) (k : Option Nat → Bool) : (setT u m).afterLoop w i c k = setT u (m.afterLoop w i c k) := attempt_t u { m with inner := (m.loopAt i).outer } _ _ _ _
theorem round_t (m : M) (w : Wait) (i : Nat) (c : Int) (g : Bool) (k : Sre.Kept) : (setT u m).round w i c g k = setT u (m.round w i c g k) := attempt_t u (m.setLoop i fun l => { l with count := c, began := if g then some m.pos else l.began }) _ _ _ _
theorem until_t (m : M) (g : Bool) : (setT u m).until_ g = setT u (m.until_ g) := by
  unfold M.until_
  have e : (setT u m).inner = m.inner := rfl
  rw [e]
  split
  · rfl
  · rename_i i hi
    refine ite_setT u (fun _ => ?_) fun _ => ?_
    · exact round_t u m _ _ _ _ _
    · refine ite_setT u (fun _ => ?_) fun _ => ?_
      · exact afterLoop_t u m _ _ _ _
      · refine ite_setT u (fun _ => ?_) fun _ => ?_
        · exact round_t u m _ _ _ _ _
        · exact afterLoop_t u m _ _ _ _
theorem possessive_t (m : M) (i : Nat) (c : Int) (b : Option Nat) : (setT u m).possessive i c b = setT u (m.possessive i c b) := by
  unfold M.possessive
  refine ite_setT u (fun _ => attempt_t u m _ _ _ _) fun _ => ?_
  exact ite_setT u (fun _ => attempt_t u m _ _ _ _) fun _ => rfl
theorem mark_t (m : M) (i : Nat) : (setT u m).mark i = setT u (m.mark i) := rfl
theorem attemptAt_t (m : M) (s : Nat) (f : Bool) : (setT u m).attemptAt s f = setT u (m.attemptAt s f) := attempt_t u { m with start := s, pos := s, lastmark := -1, lastindex := -1 } _ _ _ _
/-- the machine asks the two texts alike -/
structure Alike (code t u : Array Nat) : Prop where
  acc : ∀ i p seen, accepts code i (t.getD p 0) seen = accepts code i (u.getD p 0) seen
  lf : ∀ p, (t.getD p 0 == 10) = (u.getD p 0 == 10)
  wd : ∀ p, isWord (t.getD p 0) = isWord (u.getD p 0)
  noFirst : ((match ops[code.getD 0 0]? with | some .INFO => true | _ => false) && code.getD 2 0 == 4) = false
  ok : ∀ i op, ops[code.getD i 0]? = some op → (match op with | .GROUPREF | .GROUPREF_IGNORE | .GROUPREF_UNI_IGNORE => false | .AT => decide (code.getD (i + 1) 0 < 10 ∨ 12 ≤ code.getD (i + 1) 0) | _ => true) = true
end
section
variable {code t u : Array Nat} (H : Alike code t u)
include H
theorem run_t (i : Nat) : ∀ n p found seen, run code t i n p found seen = run code u i n p found seen
  | 0, _, _, _ => rfl
  | n + 1, p, found, seen => by
    unfold Sre.run
    rw [H.acc]
    cases accepts code i (u.getD p 0) seen with
    | error e => rfl
    | ok r =>
      obtain ⟨yes, seen'⟩ := r
      show (if yes = true then run code t i n (p + 1) (found + 1) seen' else _) = (if yes = true then run code u i n (p + 1) (found + 1) seen' else _)
      rw [run_t i n]
theorem attemptFrom_t (m : M) (hc : m.code = code) (s : Nat) (f : Bool) : (setT u m).attemptFrom s f = setT u (m.attemptFrom s f) := by
  unfold M.attemptFrom
  have e : (setT u m).hasFirstSet = m.hasFirstSet := rfl
  have e2 : m.hasFirstSet = false := by unfold M.hasFirstSet; rw [hc]; exact H.noFirst
  rw [e, e2]
  exact attemptAt_t u m s f
theorem isAt_t (m : M) (ht : m.text = t) (k : Nat) (hk : k < 10 ∨ 12 ≤ k) : (setT u m).isAt k = m.isAt k := by
  have e0 : ∀ p, (setT u m).text.getD p 0 = u.getD p 0 := fun _ => rfl
  have e1 : ∀ p, m.text.getD p 0 = t.getD p 0 := fun p => by rw [ht]
  have el : (setT u m).lim = m.lim := rfl
  have ep : (setT u m).pos = m.pos := rfl
  unfold M.isAt
  simp only [e0, e1, el, ep, H.lf, H.wd]
  by_cases h12 : 12 ≤ k
  · obtain ⟨j, rfl⟩ : ∃ j, k = j + 12 := ⟨k - 12, by lia⟩
    rfl
  have : k = 0 ∨ k = 1 ∨ k = 2 ∨ k = 3 ∨ k = 4 ∨ k = 5 ∨ k = 6 ∨ k = 7 ∨ k = 8 ∨ k = 9 := by lia
  rcases this with rfl | rfl | rfl | rfl | rfl | rfl | rfl | rfl | rfl | rfl <;> rfl
def atEnd (m : M) (k : Nat) (r : Except String Bool) : M := match r with
  | .error why => m.stick why
  | .ok yes => let m := { m with seen := m.seen.add (43 + k) }; if yes then { m with pc := m.pc + 2 } else m.say false
theorem at_t (m : M) (ht : m.text = t) (k : Nat) (hk : k < 10 ∨ 12 ≤ k) : atEnd (setT u m) k ((setT u m).isAt k) = setT u (atEnd m k (m.isAt k)) := by
  rw [isAt_t H m ht k hk]
  cases m.isAt k with
  | error w => rfl
  | ok yes => exact ite_setT u (fun _ => rfl) fun _ => rfl
def oneEnd (m : M) (r : Except String (Bool × Seen)) : M := match r with
  | .error why => m.stick why
  | .ok (false, seen) => { m with seen }.say false
  | .ok (true, seen) => { m with seen, pc := m.pc + itemWidth m.code m.pc, pos := m.pos + 1 }
theorem one_t (m : M) (hc : m.code = code) (ht : m.text = t) :
    (if m.pos ≥ m.lim then (setT u m).say false else oneEnd (setT u m) (accepts m.code m.pc (u.getD m.pos 0) m.seen)) = setT u (if m.pos ≥ m.lim then m.say false else oneEnd m (accepts m.code m.pc (m.text.getD m.pos 0) m.seen)) := by
  refine ite_setT u (fun _ => rfl) fun _ => ?_
  rw [ht, hc, H.acc]
  cases accepts code m.pc (u.getD m.pos 0) m.seen with
  | error w => rfl
  | ok r => obtain ⟨b, sn⟩ := r; cases b <;> rfl
def takeEnd (m back : M) (pos : Nat) (count : Int) (kept : Sre.Kept) (r : Except String (Bool × Seen)) : M := match r with
    | .error why => m.stick why
    | .ok (false, seen) => { back with seen }.say false
    | .ok (true, seen) => { back with seen, pos := pos + 1 }.afterRun .takeMore (count + 1) kept
theorem take_t (m back : M) (hc : m.code = code) (ht : m.text = t) (pos : Nat) (count : Int) (kept : Sre.Kept) :
    takeEnd (setT u m) (setT u back) pos count kept (accepts m.code (m.pc + 4) (u.getD pos 0) m.seen) = setT u (takeEnd m back pos count kept (accepts m.code (m.pc + 4) (m.text.getD pos 0) m.seen)) := by
  rw [ht, hc, H.acc]
  cases accepts code (m.pc + 4) (u.getD pos 0) m.seen with
  | error w => rfl
  | ok r =>
    obtain ⟨b, sn⟩ := r
    cases b
    · rfl
    · exact afterRun_t u { back with seen := sn, pos := pos + 1 } _ _ _
def repEnd (op : Op) (m : M) (r : Except String (Nat × Seen)) : M :=
    match r with
    | .error why => m.stick why
    | .ok (n, seen) =>
      let m := { m with seen }
      if n < m.word 2 then m.say false else
      let m := { m with pos := m.pos + n }
      match op with
      | .POSSESSIVE_REPEAT_ONE => { m with pc := m.pc + 1 + m.word 1 }
      | _ => m.afterRun (if (match op with | .MIN_REPEAT_ONE => true | _ => false) then .takeMore else .giveBack) n (m.keep m.inner.isSome)
theorem rep_t (op : Op) (m : M) (hc : m.code = code) (ht : m.text = t) :
    (if (m.word 2 : Int) > (m.lim : Int) - m.pos then (setT u m).say false else repEnd op (setT u m) (run m.code u (m.pc + 4) (min (if (match op with | .MIN_REPEAT_ONE => true | _ => false) then m.word 2 else m.word 3) ((m.lim : Int) - m.pos).toNat) m.pos 0 (m.seen.add (m.word 4))))
      = setT u (if (m.word 2 : Int) > (m.lim : Int) - m.pos then m.say false else repEnd op m (run m.code m.text (m.pc + 4) (min (if (match op with | .MIN_REPEAT_ONE => true | _ => false) then m.word 2 else m.word 3) ((m.lim : Int) - m.pos).toNat) m.pos 0 (m.seen.add (m.word 4)))) := by
  refine ite_setT u (fun _ => rfl) fun _ => ?_
  rw [ht, hc, run_t H]
  generalize run code u _ _ _ _ _ = r
  cases r with
  | error w => rfl
  | ok r =>
    obtain ⟨n, sn⟩ := r
    refine ite_setT u (fun _ => rfl) fun _ => ?_
    cases op
    case POSSESSIVE_REPEAT_ONE => rfl
    all_goals exact afterRun_t u { m with seen := sn, pos := m.pos + n } _ _ _
theorem exec_t (m : M) (hc : m.code = code) (ht : m.text = t) : (setT u m).exec = setT u m.exec := by
  unfold M.exec
  have ew : ∀ k, (setT u m).word k = m.word k := fun _ => rfl
  have eat : ∀ p, (setT u m).text.getD p 0 = u.getD p 0 := fun _ => rfl
  have et : ∀ p, m.text.getD p 0 = t.getD p 0 := fun p => by rw [ht]
  rw [ew]
  cases hop : ops[m.word 0]? with
  | none => rfl
  | some op =>
    have hok := H.ok m.pc op (by rw [← hc]; exact hop)
    cases op
    case FAILURE => rfl
    case SUCCESS => exact ite_setT u (fun _ => rfl) fun _ => rfl
    case GROUPREF => cases hok
    case GROUPREF_IGNORE => cases hok
    case GROUPREF_UNI_IGNORE => cases hok
    case AT =>
      have hk : m.word 1 < 10 ∨ 12 ≤ m.word 1 := by unfold M.word; rw [hc]; exact of_decide_eq_true hok
      exact at_t H { m with seen := m.seen.add (m.word 0) } ht (m.word 1) hk
    case JUMP => rfl
    case INFO => rfl
    case MARK => rfl
    case BRANCH => exact alternative_t u { m with seen := m.seen.add (m.word 0) } _ _
    case GROUPREF_LOC_IGNORE => rfl
    case CATEGORY => rfl
    case CHARSET => rfl
    case BIGCHARSET => rfl
    case NEGATE => rfl
    case RANGE => rfl
    case RANGE_UNI_IGNORE => rfl
    case SUBPATTERN => rfl
    case GROUPREF_EXISTS => rfl
    case ASSERT => exact ite_setT u (fun _ => ite_setT u (fun _ => rfl) fun _ => rfl) fun _ => attempt_t u { m with seen := m.seen.add (m.word 0) } _ _ _ _
    case ASSERT_NOT => exact ite_setT u (fun _ => ite_setT u (fun _ => rfl) fun _ => rfl) fun _ => attempt_t u { m with seen := m.seen.add (m.word 0) } _ _ _ _
    case ATOMIC_GROUP => exact attempt_t u { m with seen := m.seen.add (m.word 0) } _ _ _ _
    case MAX_UNTIL => exact until_t u { m with seen := m.seen.add (m.word 0), pc := m.pc + 1 } _
    case MIN_UNTIL => exact until_t u { m with seen := m.seen.add (m.word 0), pc := m.pc + 1 } _
    case POSSESSIVE_REPEAT => exact possessive_t u { m with seen := m.seen.add (m.word 0), loops := m.loops.push { pc := 0, outer := m.inner }, inner := some m.loops.size, handed := m.pos } _ _ _
    case REPEAT => exact attempt_t u { m with seen := m.seen.add (m.word 0), loops := m.loops.push { pc := m.pc, outer := m.inner }, inner := some m.loops.size } _ _ _ _
    case REPEAT_ONE => exact rep_t H .REPEAT_ONE { m with seen := m.seen.add (m.word 0) } hc ht
    case POSSESSIVE_REPEAT_ONE => exact rep_t H .POSSESSIVE_REPEAT_ONE { m with seen := m.seen.add (m.word 0) } hc ht
    case MIN_REPEAT_ONE => exact rep_t H .MIN_REPEAT_ONE { m with seen := m.seen.add (m.word 0) } hc ht
    all_goals exact one_t H { m with seen := m.seen.add (m.word 0) } hc ht
theorem resume_t (m : M) (hc : m.code = code) (ht : m.text = t) (f : Sre.Frame) (yes : Bool) : (setT u m).resume f yes = setT u (m.resume f yes) := by
  have eat : ∀ p, (setT u m).text.getD p 0 = u.getD p 0 := fun _ => rfl
  have et : ∀ p, m.text.getD p 0 = t.getD p 0 := fun p => by rw [ht]
  obtain ⟨wait, pc, pos, outermost, count, kept, loop, began⟩ := f
  unfold M.resume
  cases wait
  case nextStart => exact ite_setT u (fun _ => rfl) fun _ => ite_setT u (fun _ => attemptFrom_t H { m with mustAdvance := false } hc _ _) fun _ => rfl
  case nextBranch => exact ite_setT u (fun _ => rfl) fun _ => alternative_t u (m.putBack kept) _ _
  case giveBack => exact ite_setT u (fun _ => rfl) fun _ => ite_setT u (fun _ => rfl) fun _ => afterRun_t u { m.putBack kept with pos := pos - 1 } _ _ _
  case takeMore => exact ite_setT u (fun _ => rfl) fun _ => ite_setT u (fun _ => rfl) fun _ => ite_setT u (fun _ => rfl) fun _ => take_t H m (m.putBack kept) hc ht pos count kept
  case closeLoop => rfl
  case maxBelow => exact ite_setT u (fun _ => rfl) fun _ => rfl
  case minBelow => exact ite_setT u (fun _ => rfl) fun _ => rfl
  case maxMore => exact ite_setT u (fun _ => rfl) fun _ => afterLoop_t u (((m.setLoop loop fun l => { l with began := began }).putBack kept).setLoop loop fun l => { l with count := count - 1 }) _ _ _ _
  case maxTail => rfl
  case minTail => exact ite_setT u (fun _ => rfl) fun _ => ite_setT u (fun _ => rfl) fun _ => round_t u (({ m with inner := some loop } : M).putBack kept) _ _ _ _ _
  case minMore => exact ite_setT u (fun _ => rfl) fun _ => rfl
  case possBelow => exact ite_setT u (fun _ => possessive_t u m _ _ _) fun _ => rfl
  case possMore => exact ite_setT u (fun _ => possessive_t u m _ _ _) fun _ => possessive_t u { m.putBack kept with handed := pos } _ _ _
  case atomic => exact ite_setT u (fun _ => rfl) fun _ => rfl
  case look => exact ite_setT u (fun _ => rfl) fun _ => rfl
  case lookNot => exact ite_setT u (fun _ => rfl) fun _ => rfl
theorem step_t (m : M) (hc : m.code = code) (ht : m.text = t) : (setT u m).step = setT u m.step := by
  unfold M.step
  refine ite_setT u (fun _ => rfl) fun _ => ?_
  obtain ⟨code', text, lim, start, lastStart, wholeText, mustAdvance, pc, pos, handed, outermost, marks, lastmark, lastindex, loops, inner, frames, weight, answer, seen, outcome⟩ := m
  cases answer with
  | none => exact ite_setT u (fun _ => exec_t H _ hc ht) fun _ => rfl
  | some yes =>
    cases frames with
    | nil => rfl
    | cons f rest => exact resume_t H ⟨code', text, lim, start, lastStart, wholeText, mustAdvance, f.pc, f.pos, handed, f.outermost, marks, lastmark, lastindex, loops, inner, rest, weight - (1 + f.kept.marks.size), none, seen, outcome⟩ hc ht f yes
end
theorem ite_code {c : Prop} [Decidable c] {x y : M} {k : Array Nat} (h1 : c → x.code = k) (h2 : ¬ c → y.code = k) : (if c then x else y).code = k := by
  split
  · exact h1 ‹_›
  · exact h2 ‹_›
theorem attempt_c (m : M) (f : Sre.Frame) (a b : Nat) (o : Bool) : (m.attempt f a b o).code = m.code := ite_code (fun _ => rfl) fun _ => rfl
theorem alternative_c (m : M) (a : Nat) (k : Sre.Kept) : (m.alternative a k).code = m.code := ite_code (fun _ => rfl) fun _ => attempt_c m _ _ _ _
theorem afterRun_c (m : M) (w : Wait) (c : Int) (k : Sre.Kept) : (m.afterRun w c k).code = m.code := attempt_c m _ _ _ _
theorem afterLoop_c (m : M) (w : Wait) (i : Nat) (c : Int) (k : Option Nat → Bool) : (m.afterLoop w i c k).code = m.code := attempt_c { m with inner := (m.loopAt i).outer } _ _ _ _
theorem round_c (m : M) (w : Wait) (i : Nat) (c : Int) (g : Bool) (k : Sre.Kept) : (m.round w i c g k).code = m.code := attempt_c (m.setLoop i fun l => { l with count := c, began := if g then some m.pos else l.began }) _ _ _ _
theorem until_c (m : M) (g : Bool) : (m.until_ g).code = m.code := by
  unfold M.until_
  split
  · rfl
  · refine ite_code (fun _ => round_c m _ _ _ _ _) fun _ => ite_code (fun _ => afterLoop_c m _ _ _ _) fun _ => ite_code (fun _ => round_c m _ _ _ _ _) fun _ => afterLoop_c m _ _ _ _
theorem possessive_c (m : M) (i : Nat) (c : Int) (b : Option Nat) : (m.possessive i c b).code = m.code := ite_code (fun _ => attempt_c m _ _ _ _) fun _ => ite_code (fun _ => attempt_c m _ _ _ _) fun _ => rfl
theorem attemptAt_c (m : M) (s : Nat) (f : Bool) : (m.attemptAt s f).code = m.code := attempt_c { m with start := s, pos := s, lastmark := -1, lastindex := -1 } _ _ _ _
theorem attemptFrom_c (m : M) (s : Nat) (f : Bool) : (m.attemptFrom s f).code = m.code := by
  unfold M.attemptFrom
  refine ite_code (fun _ => attemptAt_c m _ _) fun _ => ?_
  split
  · exact attemptAt_c _ _ _
  · rfl
  · rfl
theorem oneEnd_c (m : M) (r : Except String (Bool × Seen)) : (oneEnd m r).code = m.code := by
  cases r with
  | error w => rfl
  | ok r => obtain ⟨b, sn⟩ := r; cases b <;> rfl
theorem takeEnd_c (m back : M) (pos : Nat) (count : Int) (kept : Sre.Kept) (r : Except String (Bool × Seen)) (hb : back.code = m.code) : (takeEnd m back pos count kept r).code = m.code := by
  cases r with
  | error w => rfl
  | ok r =>
    obtain ⟨b, sn⟩ := r
    cases b
    · exact hb
    · exact (afterRun_c { back with seen := sn, pos := pos + 1 } _ _ _).trans hb
theorem repEnd_c (op : Op) (m : M) (r : Except String (Nat × Seen)) : (repEnd op m r).code = m.code := by
  cases r with
  | error w => rfl
  | ok r =>
    obtain ⟨n, sn⟩ := r
    refine ite_code (fun _ => rfl) fun _ => ?_
    cases op
    case POSSESSIVE_REPEAT_ONE => rfl
    all_goals exact afterRun_c { m with seen := sn, pos := m.pos + n } _ _ _
theorem atEnd_c (m : M) (k : Nat) (r : Except String Bool) : (atEnd m k r).code = m.code := by
  cases r with
  | error w => rfl
  | ok r => exact ite_code (fun _ => rfl) fun _ => rfl
theorem exec_c (m : M) : m.exec.code = m.code := by
  unfold M.exec
  cases hop : ops[m.word 0]? with
  | none => rfl
  | some op =>
    cases op
    case FAILURE => rfl
    case SUCCESS => exact ite_code (fun _ => rfl) fun _ => rfl
    case AT => exact atEnd_c { m with seen := m.seen.add (m.word 0) } (m.word 1) _
    case JUMP => rfl
    case INFO => rfl
    case MARK => rfl
    case BRANCH => exact alternative_c { m with seen := m.seen.add (m.word 0) } _ _
    case GROUPREF =>
      dsimp only
      split
      · rfl
      · exact ite_code (fun _ => rfl) fun _ => ite_code (fun _ => rfl) fun _ => rfl
    case GROUPREF_IGNORE =>
      dsimp only
      split
      · rfl
      · exact ite_code (fun _ => rfl) fun _ => ite_code (fun _ => rfl) fun _ => rfl
    case GROUPREF_UNI_IGNORE =>
      dsimp only
      split
      · rfl
      · exact ite_code (fun _ => rfl) fun _ => ite_code (fun _ => rfl) fun _ => rfl
    case GROUPREF_LOC_IGNORE => rfl
    case CATEGORY => rfl
    case CHARSET => rfl
    case BIGCHARSET => rfl
    case NEGATE => rfl
    case RANGE => rfl
    case RANGE_UNI_IGNORE => rfl
    case SUBPATTERN => rfl
    case GROUPREF_EXISTS => rfl
    case ASSERT => exact ite_code (fun _ => ite_code (fun _ => rfl) fun _ => rfl) fun _ => attempt_c { m with seen := m.seen.add (m.word 0) } _ _ _ _
    case ASSERT_NOT => exact ite_code (fun _ => ite_code (fun _ => rfl) fun _ => rfl) fun _ => attempt_c { m with seen := m.seen.add (m.word 0) } _ _ _ _
    case ATOMIC_GROUP => exact attempt_c { m with seen := m.seen.add (m.word 0) } _ _ _ _
    case MAX_UNTIL => exact until_c { m with seen := m.seen.add (m.word 0), pc := m.pc + 1 } _
    case MIN_UNTIL => exact until_c { m with seen := m.seen.add (m.word 0), pc := m.pc + 1 } _
    case POSSESSIVE_REPEAT => exact possessive_c { m with seen := m.seen.add (m.word 0), loops := m.loops.push { pc := 0, outer := m.inner }, inner := some m.loops.size, handed := m.pos } _ _ _
    case REPEAT => exact attempt_c { m with seen := m.seen.add (m.word 0), loops := m.loops.push { pc := m.pc, outer := m.inner }, inner := some m.loops.size } _ _ _ _
    case REPEAT_ONE => exact ite_code (fun _ => rfl) fun _ => repEnd_c .REPEAT_ONE { m with seen := m.seen.add (m.word 0) } _
    case POSSESSIVE_REPEAT_ONE => exact ite_code (fun _ => rfl) fun _ => repEnd_c .POSSESSIVE_REPEAT_ONE { m with seen := m.seen.add (m.word 0) } _
    case MIN_REPEAT_ONE => exact ite_code (fun _ => rfl) fun _ => repEnd_c .MIN_REPEAT_ONE { m with seen := m.seen.add (m.word 0) } _
    all_goals exact ite_code (fun _ => rfl) fun _ => oneEnd_c { m with seen := m.seen.add (m.word 0) } _
theorem resume_c (m : M) (f : Sre.Frame) (yes : Bool) : (m.resume f yes).code = m.code := by
  obtain ⟨wait, pc, pos, outermost, count, kept, loop, began⟩ := f
  unfold M.resume
  cases wait
  case nextStart => exact ite_code (fun _ => rfl) fun _ => ite_code (fun _ => attemptFrom_c { m with mustAdvance := false } _ _) fun _ => rfl
  case nextBranch => exact ite_code (fun _ => rfl) fun _ => alternative_c (m.putBack kept) _ _
  case giveBack => exact ite_code (fun _ => rfl) fun _ => ite_code (fun _ => rfl) fun _ => afterRun_c { m.putBack kept with pos := pos - 1 } _ _ _
  case takeMore => exact ite_code (fun _ => rfl) fun _ => ite_code (fun _ => rfl) fun _ => ite_code (fun _ => rfl) fun _ => takeEnd_c m (m.putBack kept) pos count kept _ rfl
  case closeLoop => rfl
  case maxBelow => exact ite_code (fun _ => rfl) fun _ => rfl
  case minBelow => exact ite_code (fun _ => rfl) fun _ => rfl
  case maxMore => exact ite_code (fun _ => rfl) fun _ => afterLoop_c (((m.setLoop loop fun l => { l with began := began }).putBack kept).setLoop loop fun l => { l with count := count - 1 }) _ _ _ _
  case maxTail => rfl
  case minTail => exact ite_code (fun _ => rfl) fun _ => ite_code (fun _ => rfl) fun _ => round_c (({ m with inner := some loop } : M).putBack kept) _ _ _ _ _
  case minMore => exact ite_code (fun _ => rfl) fun _ => rfl
  case possBelow => exact ite_code (fun _ => possessive_c m _ _ _) fun _ => rfl
  case possMore => exact ite_code (fun _ => possessive_c m _ _ _) fun _ => possessive_c { m.putBack kept with handed := pos } _ _ _
  case atomic => exact ite_code (fun _ => rfl) fun _ => rfl
  case look => exact ite_code (fun _ => rfl) fun _ => rfl
  case lookNot => exact ite_code (fun _ => rfl) fun _ => rfl
theorem step_c (m : M) : m.step.code = m.code := by
  unfold M.step
  refine ite_code (fun _ => rfl) fun _ => ?_
  obtain ⟨code', text, lim, start, lastStart, wholeText, mustAdvance, pc, pos, handed, outermost, marks, lastmark, lastindex, loops, inner, frames, weight, answer, seen, outcome⟩ := m
  cases answer with
  | none => exact ite_code (fun _ => exec_c _) fun _ => rfl
  | some yes =>
    cases frames with
    | nil => rfl
    | cons f rest => exact resume_c ⟨code', text, lim, start, lastStart, wholeText, mustAdvance, f.pc, f.pos, handed, f.outermost, marks, lastmark, lastindex, loops, inner, rest, weight - (1 + f.kept.marks.size), none, seen, outcome⟩ f yes
section
variable {code t u : Array Nat} (H : Alike code t u)
include H
theorem step_text (m : M) (hc : m.code = code) (ht : m.text = t) : m.step.text = t := by
  have H' : Alike code t t := ⟨fun _ _ _ => rfl, fun _ => rfl, fun _ => rfl, H.noFirst, H.ok⟩
  have e := step_t H' m hc ht
  have e2 : setT t m = m := by cases m; cases ht; rfl
  rw [e2] at e
  rw [e]; rfl
theorem runFor_t : ∀ n (m : M), m.code = code → m.text = t → (setT u m).runFor n = setT u (m.runFor n)
  | 0, _, _, _ => rfl
  | n + 1, m, hc, ht => by
    refine ite_setT u (fun _ => rfl) fun _ => ?_
    rw [step_t H m hc ht]
    exact runFor_t n m.step ((step_c m).trans hc) (step_text H m hc ht)
end
end Mine
end
section
open PySem PySem.Sre
set_option maxRecDepth 100000
namespace Mine
def tzVals : List Nat := [0, 1, 2, 3, 4, 5, 6, 8, 9, 13, 14, 16, 17, 18, 23, 24, 43, 45, 58]
theorem getD_all (P : Nat → Prop) [DecidablePred P] (c : Array Nat) (h : c.toList.all (fun x => decide (P x)) = true) (h0 : P 0) (j : Nat) : P (c.getD j 0) := by
  unfold Array.getD
  split
  · rename_i hj
    have := List.all_eq_true.mp h c[j] (by simp [Array.mem_toList_iff])
    exact of_decide_eq_true this
  · exact h0
theorem tz_vals (j : Nat) : tzCode.getD j 0 ∈ tzVals := getD_all (· ∈ tzVals) tzCode (by decide +kernel) (by decide) j
theorem tz_cat (j : Nat) (h : tzCode.getD j 0 = 8) : tzCode.getD (j + 1) 0 = 0 := by
  by_cases hj : j < 80
  · have : ∀ j < 80, tzCode.getD j 0 = 8 → tzCode.getD (j + 1) 0 = 0 := by decide +kernel
    exact this j hj h
  · have e : tzCode.getD j 0 = 0 := by
      unfold Array.getD
      rw [dif_neg]; exact Nat.not_lt.mpr (Nat.le_trans (by decide) (Nat.le_of_not_lt hj))
    rw [e] at h; cases h
def dig (c : Nat) : Prop := 48 ≤ c ∧ c ≤ 57
theorem tz_out : ∀ v ∈ tzVals, v < 48 ∨ 57 < v := by decide
theorem tz_low : ∀ v ∈ tzVals, v < 2 ^ 16 := by decide
theorem eq_no {c v : Nat} (hc : dig c) (hv : v ∈ tzVals) : (c == v) = false :=
  beq_false_of_ne (fun e => (tz_out v hv).elim (fun h => Nat.not_lt.mpr hc.1 (e ▸ h)) (fun h => Nat.not_lt.mpr hc.2 (e ▸ h)))
theorem dig_mod {c : Nat} (hc : dig c) : 16 ≤ c % 32 := by unfold dig at hc; omega
theorem dig_div {c : Nat} (hc : dig c) : c / 32 = 1 := by unfold dig at hc; omega
theorem dig_lt {c : Nat} (hc : dig c) : c < 256 := Nat.lt_of_le_of_lt hc.2 (by decide)
theorem bit_no {c v : Nat} (hc : dig c) (hv : v ∈ tzVals) : v.testBit (c % 32) = false :=
  Nat.testBit_lt_two_pow (Nat.lt_of_lt_of_le (tz_low v hv) (Nat.pow_le_pow_right (by decide) (dig_mod hc)))
theorem each_cons {P : Nat → Prop} {a : Nat} {l : List Nat} (h : P a) (t : ∀ v ∈ l, P v) : ∀ v ∈ a :: l, P v := List.forall_mem_cons.mpr ⟨h, t⟩
theorem each_nil {P : Nat → Prop} : ∀ v ∈ ([] : List Nat), P v := fun _ h => nomatch h
theorem cat_dig {x : Nat} (hx : dig x) : category 0 x = .ok true := by
  unfold category
  have : isDigit x = true := by unfold isDigit; unfold dig at hx; simp [hx]
  show Except.map (· != (0 % 2 == 1)) (.ok (isDigit x)) = _
  rw [this]; rfl
theorem not_nl {x : Nat} (hx : dig x) : (x != 10) = true := by
  have : (x == 10) = false := beq_false_of_ne (fun e => Nat.not_lt.mpr hx.1 (e ▸ by decide))
  show (!(x == 10)) = true
  rw [this]; rfl
theorem inSet_dig {c c' : Nat} (hc : dig c) (hc' : dig c') : ∀ fuel i yes seen, inSet tzCode c fuel i yes seen = inSet tzCode c' fuel i yes seen
  | 0, _, _, _ => rfl
  | fuel + 1, i, yes, seen => by
    have ih := inSet_dig hc hc' fuel
    have h0 := tz_vals i
    have h1 := tz_vals (i + 1)
    have h8 := tz_cat i
    unfold inSet
    simp only [Nat.add_zero]
    have d1 : c < 256 := dig_lt hc
    have d1' : c' < 256 := dig_lt hc'
    have q : c / 32 = 1 := dig_div hc
    have q' : c' / 32 = 1 := dig_div hc'
    generalize tzCode.getD i 0 = v at h0 h8
    revert h8
    revert v
    show ∀ v ∈ [0, 1, 2, 3, 4, 5, 6, 8, 9, 13, 14, 16, 17, 18, 23, 24, 43, 45, 58], _
    refine each_cons (fun _ => rfl) <| each_cons (fun _ => rfl) <| each_cons (fun _ => rfl) <| each_cons (fun _ => rfl) <| each_cons (fun _ => rfl) <| each_cons (fun _ => rfl) <| each_cons (fun _ => rfl) <|
      each_cons (fun h8 => ?_) <| each_cons (fun _ => ?_) <| each_cons (fun _ => rfl) <| each_cons (fun _ => rfl) <| each_cons (fun _ => ?_) <| each_cons (fun _ => rfl) <| each_cons (fun _ => rfl) <| each_cons (fun _ => rfl) <| each_cons (fun _ => rfl) <| each_cons (fun _ => rfl) <| each_cons (fun _ => rfl) <| each_cons (fun _ => rfl) each_nil
    · have z := h8 rfl
      show (do if ← category (tzCode.getD (i + 1) 0) c then pure (yes, _) else inSet tzCode c fuel (i + 2) yes _) = (do if ← category (tzCode.getD (i + 1) 0) c' then pure (yes, _) else inSet tzCode c' fuel (i + 2) yes _)
      rw [z, cat_dig hc, cat_dig hc']
      rfl
    · show (if (decide (c < 256) && (tzCode.getD (i + (1 + c / 32)) 0).testBit (c % 32)) = true then _ else inSet tzCode c fuel (i + 9) yes _) = (if (decide (c' < 256) && (tzCode.getD (i + (1 + c' / 32)) 0).testBit (c' % 32)) = true then _ else inSet tzCode c' fuel (i + 9) yes _)
      rw [bit_no hc (tz_vals _), bit_no hc' (tz_vals _), Bool.and_false, Bool.and_false, if_neg Bool.false_ne_true, if_neg Bool.false_ne_true]
      exact ih _ _ _
    · show (if (c == tzCode.getD (i + 1) 0) = true then _ else inSet tzCode c fuel (i + 2) yes _) = (if (c' == tzCode.getD (i + 1) 0) = true then _ else inSet tzCode c' fuel (i + 2) yes _)
      rw [eq_no hc h1, eq_no hc' h1, if_neg Bool.false_ne_true, if_neg Bool.false_ne_true]
      exact ih _ _ _
theorem accepts_dig {c c' : Nat} (hc : dig c) (hc' : dig c') (i : Nat) (seen : Seen) : accepts tzCode i c seen = accepts tzCode i c' seen := by
  have h0 := tz_vals i
  have h1 := tz_vals (i + 1)
  unfold accepts
  generalize tzCode.getD i 0 = v at h0
  revert v
  show ∀ v ∈ [0, 1, 2, 3, 4, 5, 6, 8, 9, 13, 14, 16, 17, 18, 23, 24, 43, 45, 58], _
  refine each_cons rfl <| each_cons rfl <| each_cons ?_ <| each_cons rfl <| each_cons rfl <| each_cons rfl <| each_cons rfl <|
    each_cons rfl <| each_cons rfl <| each_cons ?_ <| each_cons rfl <| each_cons ?_ <| each_cons rfl <| each_cons rfl <| each_cons rfl <| each_cons rfl <| each_cons rfl <| each_cons rfl <| each_cons rfl each_nil
  · show Except.ok (c != 10, seen) = Except.ok (c' != 10, seen); rw [not_nl hc, not_nl hc']
  · exact inSet_dig hc hc' _ _ _ _
  · show Except.ok (c == tzCode.getD (i + 1) 0, seen) = Except.ok (c' == tzCode.getD (i + 1) 0, seen)
    rw [eq_no hc h1, eq_no hc' h1]
theorem alike_tz {t u : Array Nat} (h : ∀ p, t.getD p 0 = u.getD p 0 ∨ (dig (t.getD p 0) ∧ dig (u.getD p 0))) : Alike tzCode t u where
  acc := fun i p seen => by
    rcases h p with e | ⟨a, b⟩
    · rw [e]
    · exact accepts_dig a b i seen
  lf := fun p => by
    rcases h p with e | ⟨a, b⟩
    · rw [e]
    · generalize t.getD p 0 = x at a ⊢
      generalize u.getD p 0 = y at b ⊢
      unfold dig at a b
      have e1 : (x == 10) = false := by simp; omega
      have e2 : (y == 10) = false := by simp; omega
      rw [e1, e2]
  wd := fun p => by
    rcases h p with e | ⟨a, b⟩
    · rw [e]
    · generalize t.getD p 0 = x at a ⊢
      generalize u.getD p 0 = y at b ⊢
      unfold dig at a b
      have e1 : isWord x = true := by unfold isWord isDigit; simp [a]
      have e2 : isWord y = true := by unfold isWord isDigit; simp [b]
      rw [e1, e2]
  noFirst := by decide +kernel
  ok := fun i op e => by
    by_cases hi : i < 80
    · have : ∀ i < 80, (match ops[tzCode.getD i 0]? with | some op => (match op with | .GROUPREF | .GROUPREF_IGNORE | .GROUPREF_UNI_IGNORE => false | .AT => decide (tzCode.getD (i + 1) 0 < 10 ∨ 12 ≤ tzCode.getD (i + 1) 0) | _ => true) | none => true) = true := by decide +kernel
      have := this i hi
      rw [e] at this
      exact this
    · have e0 : ∀ j, i ≤ j → tzCode.getD j 0 = 0 := fun j hj => by
        unfold Array.getD
        rw [dif_neg]; exact Nat.not_lt.mpr (Nat.le_trans (Nat.le_trans (by decide) (Nat.le_of_not_lt hi)) hj)
      rw [e0 i (Nat.le_refl _)] at e
      cases e
      rfl
end Mine
end
section
open PySem PySem.Sre PySem.Builtin.Re
set_option maxRecDepth 100000
namespace Mine
/-- pointwise: the same sign or two digits -/
inductive AL : List Nat → List Nat → Prop
  | nil : AL [] []
  | same {a x y} : AL x y → AL (a :: x) (a :: y)
  | dig {a b x y} : dig a → dig b → AL x y → AL (a :: x) (b :: y)
theorem AL.refl : ∀ l, AL l l
  | [] => .nil
  | _ :: l => .same (AL.refl l)
theorem AL.append {a b c d : List Nat} (h : AL a b) (h' : AL c d) : AL (a ++ c) (b ++ d) := by
  induction h with
  | nil => exact h'
  | same _ ih => exact .same ih
  | dig p q _ ih => exact .dig p q ih
theorem AL.length {a b : List Nat} (h : AL a b) : a.length = b.length := by
  induction h with
  | nil => rfl
  | same _ ih => simp [ih]
  | dig _ _ _ ih => simp [ih]
theorem AL.get {a b : List Nat} (h : AL a b) : ∀ p, a.toArray.getD p 0 = b.toArray.getD p 0 ∨ (Mine.dig (a.toArray.getD p 0) ∧ Mine.dig (b.toArray.getD p 0)) := by
  have e : ∀ (l : List Nat) p, l.toArray.getD p 0 = l.getD p 0 := fun l p => by simp
  simp only [e]
  induction h with
  | nil => intro p; exact .inl rfl
  | same _ ih =>
    intro p
    cases p with
    | zero => exact .inl rfl
    | succ p => simpa using ih p
  | dig x y _ ih =>
    intro p
    cases p with
    | zero => exact .inr ⟨x, y⟩
    | succ p => simpa using ih p
def zNorm (z : Nat) : Nat := z % 6 + 6 * (z / 6 % 3 + (if z / 6 / 12 % 4 = 3 then 36 else 0))
theorem AL_min (r r' : Nat) (h : r / 12 % 4 = 3 ↔ r' / 12 % 4 = 3) : AL (zMin r) (zMin r') := by
  unfold zMin
  have h1 : r / 12 % 4 < 4 := Nat.mod_lt _ (by decide)
  have h2 : r' / 12 % 4 < 4 := Nat.mod_lt _ (by decide)
  generalize r / 12 % 4 = x at *
  generalize r' / 12 % 4 = y at *
  have d0 : Mine.dig 48 := ⟨by decide, by decide⟩
  have d3 : Mine.dig 51 := ⟨by decide, by decide⟩
  have d9 : Mine.dig 57 := ⟨by decide, by decide⟩
  have hx : x = 0 ∨ x = 1 ∨ x = 2 ∨ x = 3 := by lia
  have hy : y = 0 ∨ y = 1 ∨ y = 2 ∨ y = 3 := by lia
  rcases hx with rfl | rfl | rfl | rfl <;> rcases hy with rfl | rfl | rfl | rfl <;>
    first
    | exact AL.refl _
    | (exfalso; lia)
    | exact .dig (by assumption) (by assumption) (.same .nil)
theorem zcps_norm (z : Nat) (hz : z % 6 < 4) : AL (zcps z) (zcps (zNorm z)) := by
  have e1 : zNorm z % 6 = z % 6 := by unfold zNorm; split <;> lia
  have e2 : zNorm z / 6 = z / 6 % 3 + (if z / 6 / 12 % 4 = 3 then 36 else 0) := by unfold zNorm; split <;> lia
  unfold zcps
  rw [e1, e2, if_neg (by lia), if_neg (by lia), if_neg (by lia), if_neg (by lia)]
  have dd : ∀ n, n < 10 → Mine.dig (48 + n) := fun n hn => ⟨by lia, by lia⟩
  refine AL.append ?_ (AL.append ?_ (AL.append ?_ (AL.append (AL.refl _) (AL_min _ _ ?_))))
  · unfold zSign
    have : (z / 6 % 3 + (if z / 6 / 12 % 4 = 3 then 36 else 0)) % 3 = z / 6 % 3 := by split <;> lia
    rw [this]; exact AL.refl _
  · unfold zTens
    split
    · exact .dig (dd _ (by lia)) (dd _ (by lia)) .nil
    · exact .nil
  · exact .dig (dd _ (by lia)) (dd _ (by lia)) .nil
  · split <;> lia
theorem admit_t {code t u : Array Nat} (H : Alike code t u) (G n : Nat) : Sre.forSearch code u G 0 n false = setT u (Sre.forSearch code t G 0 n false) := by
  unfold Sre.forSearch
  refine ite_setT u (fun _ => rfl) fun _ => ?_
  exact attemptFrom_t H { code := code, text := t, lim := n, start := 0, pc := (header code).2, pos := 0, handed := 0, marks := Array.replicate (2 * G) none, mustAdvance := false, seen := if (header code).2 == 0 then {} else ({} : Seen).add 14, lastStart := if (header code).1 > 1 && !((header code).2 != 0 && code.getD 2 0 &&& 5 != 0) then max 0 (n - ((header code).1 - 1)) else n } rfl 0 true
theorem forSearch_c (code t : Array Nat) (G n : Nat) : (Sre.forSearch code t G 0 n false).code = code := by
  unfold Sre.forSearch
  refine ite_code (fun _ => rfl) fun _ => ?_
  exact attemptFrom_c _ _ _
theorem forSearch_text {code t : Array Nat} (H : Alike code t t) (G n : Nat) : (Sre.forSearch code t G 0 n false).text = t := by
  have e := admit_t H G n
  rw [e]; rfl
def zSgn (z : Nat) : Nat := if z / 6 % 3 = 0 then 0 else 1
def zHl (z : Nat) : Nat := if z % 6 = 1 ∨ z % 6 = 2 then 2 else 1
def zCl (z : Nat) : Nat := if z % 6 = 0 ∨ z % 6 = 2 then 1 else 0
def zSpans (z : Nat) : List Value :=
  (if z / 6 % 3 = 0 then [rawInt (-1), rawInt (-1)] else [rawInt (0 : Nat), rawInt (1 : Nat)]) ++
  ([rawInt (zSgn z), rawInt (zSgn z + zHl z : Nat)] ++
  (if z / 6 / 12 % 4 = 3 then [rawInt (-1), rawInt (-1)] else [rawInt (zSgn z + zHl z + zCl z : Nat), rawInt (zSgn z + zHl z + zCl z + 2 : Nat)]))
def tzGood (z : Nat) : Bool := isMatched (tzEnd z).outcome && !spansBad 3 (tzEnd z) && decide (spansOf 3 (tzEnd z) = zSpans z)
theorem tzGood_all : ∀ d < 4, ∀ s < 3, tzGood (d + 6 * s) = true ∧ tzGood (d + 6 * (s + 36)) = true := by decide +kernel
theorem tzGood_norm (z : Nat) (hz : z % 6 < 4) : tzGood (zNorm z) = true := by
  unfold zNorm
  split
  · exact (tzGood_all (z % 6) hz (z / 6 % 3) (Nat.mod_lt _ (by decide))).2
  · exact (tzGood_all (z % 6) hz (z / 6 % 3) (Nat.mod_lt _ (by decide))).1
theorem zSpans_norm (z : Nat) (hz : z % 6 < 4) : zSpans (zNorm z) = zSpans z := by
  have e1 : zNorm z % 6 = z % 6 := by unfold zNorm; split <;> lia
  have e2 : zNorm z / 6 = z / 6 % 3 + (if z / 6 / 12 % 4 = 3 then 36 else 0) := by unfold zNorm; split <;> lia
  have e3 : zNorm z / 6 % 3 = z / 6 % 3 := by rw [e2]; split <;> lia
  have e4 : (zNorm z / 6 / 12 % 4 = 3) = (z / 6 / 12 % 4 = 3) := by rw [e2]; split <;> (apply propext; lia)
  unfold zSpans zSgn zHl zCl
  rw [e1, e3]
  simp only [e4]
theorem tz_hit (z : Nat) (hz : z % 6 < 4) : ∃ m' : M, (Sre.forSearch tzCode (zt z).cps 3 0 (zt z).cps.size false).runFor (4 * 100) = m' ∧ m'.outcome = some .matched ∧ spansBad 3 m' = false ∧ spansOf 3 m' = zSpans z := by
  have hA := zcps_norm z hz
  have H : Alike tzCode (zt (zNorm z)).cps (zt z).cps := alike_tz fun p => (hA.get p).imp (fun e => e.symm) fun e => ⟨e.2, e.1⟩
  have H' : Alike tzCode (zt (zNorm z)).cps (zt (zNorm z)).cps := alike_tz fun p => .inl rfl
  have hsz : (zt z).cps.size = (zt (zNorm z)).cps.size := by
    show (zcps z).toArray.size = (zcps (zNorm z)).toArray.size
    rw [List.size_toArray, List.size_toArray]; exact hA.length
  refine ⟨_, rfl, ?_⟩
  rw [hsz, admit_t H, runFor_t H _ _ (forSearch_c _ _ _ _) (forSearch_text H' _ _)]
  have g := tzGood_norm z hz
  unfold tzGood tzEnd at g
  rw [show (4 * 100 : Nat) = 400 from rfl]
  generalize (Sre.forSearch tzCode (zt (zNorm z)).cps 3 0 (zt (zNorm z)).cps.size false).runFor 400 = mm at g ⊢
  simp only [Bool.and_eq_true, Bool.not_eq_true', decide_eq_true_eq] at g
  obtain ⟨⟨g1, g2⟩, g3⟩ := g
  refine ⟨?_, g2, g3.trans (zSpans_norm z hz)⟩
  show mm.outcome = some .matched
  unfold isMatched at g1
  split at g1
  · assumption
  · cases g1
def tzBad (z : Nat) : Bool := isFailed (tzEnd z).outcome
theorem tzBad_all : ∀ r < 4, tzBad (5 + 6 * r) = true := by decide +kernel
theorem tz_miss (z : Nat) (hz : z % 6 = 5) : ∃ m' : M, (Sre.forSearch tzCode (zt z).cps 3 0 (zt z).cps.size false).runFor (4 * 100) = m' ∧ m'.outcome = some .failed := by
  have e : zcps z = zcps (5 + 6 * (z / 6 % 4)) := by
    unfold zcps
    have e1 : (5 + 6 * (z / 6 % 4)) % 6 = 5 := by lia
    have e2 : (5 + 6 * (z / 6 % 4)) / 6 = z / 6 % 4 := by lia
    rw [e1, e2, hz]
    unfold zBad
    rw [Nat.mod_mod]
    rfl
  refine ⟨_, rfl, ?_⟩
  have g := tzBad_all (z / 6 % 4) (Nat.mod_lt _ (by decide))
  unfold tzBad tzEnd at g
  have et : zt z = zt (5 + 6 * (z / 6 % 4)) := by unfold zt; rw [e]
  rw [et, show (4 * 100 : Nat) = 400 from rfl]
  generalize ((Sre.forSearch tzCode (zt (5 + 6 * (z / 6 % 4))).cps 3 0 (zt (5 + 6 * (z / 6 % 4))).cps.size false).runFor 400).outcome = o at g ⊢
  unfold isFailed at g
  split at g
  · rfl
  · cases g
end Mine
end
section
open PySem PySem.W PyProof.Rows PySem.Calls PySem.Builtin.Re
set_option maxRecDepth 100000
namespace Mine
def zHr (z : Nat) : Str := ⟨(zTens (z % 6) (z / 6) ++ zHour (z / 6)).toArray⟩
def zMn (z : Nat) : Str := ⟨(zMin (z / 6)).toArray⟩
theorem zt_in : ∀ z < 576, (decide (zt z = { cps := #[71, 77, 84] }) || (decide (zt z = { cps := #[85, 84, 67] }) || (decide (zt z = { cps := #[85, 84] }) || (decide (zt z = { cps := #[90] }) || false)))) = decide (z % 6 = 4) := by decide +kernel
theorem zHr_int : ∀ z < 576, z % 6 < 4 → PySem.intText? (zHr z) = some (zHours z) := by decide +kernel
theorem zMn_int : ∀ r < 3, PySem.intText? ⟨(zMin (12 * r)).toArray⟩ = some (zMinutes (12 * r)) := by decide +kernel
theorem zHours_lo (z : Nat) : 0 ≤ zHours z := by unfold zHours; split <;> lia
theorem zHours_hi (z : Nat) : zHours z ≤ 13 := by unfold zHours; split <;> lia
theorem min4 (r : Nat) : r / 12 % 4 = 0 ∨ r / 12 % 4 = 1 ∨ r / 12 % 4 = 2 ∨ r / 12 % 4 = 3 := by lia
theorem zMinutes_lo (r : Nat) : 0 ≤ zMinutes r := by unfold zMinutes; split <;> decide
theorem zMinutes_hi (r : Nat) : zMinutes r ≤ 90 := by unfold zMinutes; split <;> decide
theorem zMin_norm (r : Nat) (h : r / 12 % 4 ≠ 3) : ∃ k < 3, zMin r = zMin (12 * k) ∧ zMinutes r = zMinutes (12 * k) := by
  refine ⟨r / 12 % 4, by lia, ?_, ?_⟩
  · unfold zMin
    rw [show 12 * (r / 12 % 4) / 12 % 4 = r / 12 % 4 from by lia]
  · unfold zMinutes
    rw [show 12 * (r / 12 % 4) / 12 % 4 = r / 12 % 4 from by lia]
theorem zMn_text (z : Nat) (h : z / 6 / 12 % 4 ≠ 3) : PySem.intText? (zMn z) = some (zMinutes (z / 6)) := by
  obtain ⟨k, hk, e1, e2⟩ := zMin_norm (z / 6) h
  unfold zMn
  rw [e1, e2]
  exact zMn_int k hk
theorem zMn_len (z : Nat) (h : z / 6 / 12 % 4 ≠ 3) : (zMn z).length = 2 := by
  show (zMin (z / 6)).toArray.size = 2
  rw [List.size_toArray]
  unfold zMin
  rcases min4 (z / 6) with e | e | e | e
  · rw [e]; rfl
  · rw [e]; rfl
  · rw [e]; rfl
  · exact absurd e h
theorem zMinutes_none (r : Nat) (h : r / 12 % 4 = 3) : zMinutes r = 0 := by unfold zMinutes; rw [h]; rfl
theorem zt_len (z : Nat) : (zt z).length ≤ 7 := by
  show (zcps z).toArray.size ≤ 7
  rw [List.size_toArray]
  have h1 : (zSign (z / 6)).length ≤ 1 := by unfold zSign; split <;> decide
  have h2 : (zTens (z % 6) (z / 6)).length ≤ 1 := by unfold zTens; split <;> first | exact Nat.le_refl _ | exact Nat.zero_le _
  have h4 : (zColon (z % 6)).length ≤ 1 := by unfold zColon; split <;> decide
  have h5 : (zMin (z / 6)).length ≤ 2 := by unfold zMin; split <;> decide
  have h6 : (zName (z / 6)).length ≤ 7 := by unfold zName; split <;> decide
  have h7 : (zBad (z / 6)).length ≤ 7 := by unfold zBad; split <;> decide
  unfold zcps
  split
  · exact h6
  · split
    · exact h7
    · rw [List.length_append, List.length_append, List.length_append, List.length_append]
      show _ + (_ + (1 + (_ + _))) ≤ 7
      clear h6 h7
      lia
section
variable {z : Nat}
theorem zt_lt4 (h : z % 6 < 4) : (zt z).cps = (zSign (z / 6) ++ ((zTens (z % 6) (z / 6) ++ zHour (z / 6)) ++ (zColon (z % 6) ++ zMin (z / 6)))).toArray := by
  unfold zt zcps
  rw [if_neg (by lia), if_neg (by lia), List.append_assoc]
theorem zSign_len : (zSign (z / 6)).length = zSgn z := by
  unfold zSign zSgn
  have : z / 6 % 3 = 0 ∨ z / 6 % 3 = 1 ∨ z / 6 % 3 = 2 := by lia
  rcases this with e | e | e <;> rw [e] <;> rfl
theorem zHr_len : (zTens (z % 6) (z / 6) ++ zHour (z / 6)).length = zHl z := by
  unfold zTens zHour zHl
  split <;> rfl
theorem zCl_len : (zColon (z % 6)).length = zCl z := by
  unfold zColon zCl
  split <;> rfl
theorem extract_mid (a b c : List Nat) : (a ++ (b ++ c)).toArray.extract a.length (a.length + b.length) = b.toArray := by
  apply Array.ext'
  simp [List.extract_eq_take_drop]
theorem cut2 (h : z % 6 < 4) : (⟨(zt z).cps.extract (zSgn z) (zSgn z + zHl z)⟩ : Str) = zHr z := by
  rw [zt_lt4 h, ← zSign_len, ← zHr_len, extract_mid]; rfl
theorem cut3 (h : z % 6 < 4) (hm : z / 6 / 12 % 4 ≠ 3) : (⟨(zt z).cps.extract (zSgn z + zHl z + zCl z) (zSgn z + zHl z + zCl z + 2)⟩ : Str) = zMn z := by
  have e2 : (zMin (z / 6)).length = 2 := by
    have := zMn_len z hm
    rwa [show (zMn z).length = (zMin (z / 6)).toArray.size from rfl, List.size_toArray] at this
  have := extract_mid (zSign (z / 6) ++ ((zTens (z % 6) (z / 6) ++ zHour (z / 6)) ++ zColon (z % 6))) (zMin (z / 6)) []
  rw [List.append_nil, List.length_append, List.length_append, zSign_len, zHr_len, zCl_len, e2, ← Nat.add_assoc] at this
  rw [zt_lt4 h]
  unfold zMn
  rw [← this]
  simp only [List.append_assoc]
theorem cut1 (h : z % 6 < 4) (hs : z / 6 % 3 ≠ 0) : (⟨(zt z).cps.extract 0 1⟩ : Str) = ⟨#[if z / 6 % 3 = 2 then 45 else 43]⟩ := by
  rw [zt_lt4 h]
  have : zSign (z / 6) = [if z / 6 % 3 = 2 then 45 else 43] := by
    unfold zSign
    have : z / 6 % 3 = 1 ∨ z / 6 % 3 = 2 := by lia
    rcases this with e | e <;> rw [e] <;> rfl
  rw [this]
  congr 1
  apply Array.ext'
  simp [List.extract_eq_take_drop]
theorem xs_size (a b : Int) : ((rawInt a :: rawInt b :: zSpans z).toArray).size = 8 := by
  rw [List.size_toArray]
  unfold zSpans
  split <;> split <;> rfl
theorem at2 (a b : Int) : (((rawInt a :: rawInt b :: zSpans z).toArray).map reRawOf).getD (2 * 2) (-1) = (zSgn z : Nat) ∧ (((rawInt a :: rawInt b :: zSpans z).toArray).map reRawOf).getD (2 * 2 + 1) (-1) = (zSgn z + zHl z : Nat) := by
  unfold zSpans
  split <;> split <;> simp [rawInt, reRawOf]
theorem at3n (a b : Int) (h : z / 6 / 12 % 4 = 3) : (((rawInt a :: rawInt b :: zSpans z).toArray).map reRawOf).getD (2 * 3) (-1) = -1 := by
  unfold zSpans
  rw [if_pos h]
  split <;> simp [rawInt, reRawOf]
theorem at3 (a b : Int) (h : z / 6 / 12 % 4 ≠ 3) : (((rawInt a :: rawInt b :: zSpans z).toArray).map reRawOf).getD (2 * 3) (-1) = (zSgn z + zHl z + zCl z : Nat) ∧ (((rawInt a :: rawInt b :: zSpans z).toArray).map reRawOf).getD (2 * 3 + 1) (-1) = (zSgn z + zHl z + zCl z + 2 : Nat) := by
  unfold zSpans
  rw [if_neg h]
  split <;> simp [rawInt, reRawOf]
theorem at1n (a b : Int) (h : z / 6 % 3 = 0) : (((rawInt a :: rawInt b :: zSpans z).toArray).map reRawOf).getD (2 * 1) (-1) = -1 := by
  unfold zSpans
  rw [if_pos h]
  simp [rawInt, reRawOf]
theorem at1 (a b : Int) (h : z / 6 % 3 ≠ 0) : (((rawInt a :: rawInt b :: zSpans z).toArray).map reRawOf).getD (2 * 1) (-1) = (0 : Nat) ∧ (((rawInt a :: rawInt b :: zSpans z).toArray).map reRawOf).getD (2 * 1 + 1) (-1) = (1 : Nat) := by
  unfold zSpans
  rw [if_neg h]
  simp [rawInt, reRawOf]
end
end Mine
end
section
open PySem PySem.W PyProof.Rows PySem.Calls PySem.Builtin.Re
set_option maxRecDepth 100000
namespace Mine
/-- what the two patterns are in the heap -/
structure PatAt (h : Heap) (pt ps : Addr) (G : Nat) (code : Array Nat) : Prop where
  ex : ∃ (op os : Obj) (fs xs : Array Value) (n : Nat), h.get? pt = some op ∧ h.get? ps = some os ∧ op.cls = .type "re.Pattern" ∧ op.dict = none ∧ op.data = .fields fs ∧ fs.getD 5 .none = .ref ps ∧ reRawNat (fs.getD 6 .none) = 0 ∧
    reRawNat (fs.getD 2 .none) = G ∧ os.data = .seq xs n ∧ (xs.map reRawOf).map (·.toNat) = code
theorem tz_pat {P : Params} {h : Heap} (X : (top.heap_1 P).In h) : PatAt h 37 36 3 tzCode :=
  ⟨_, _, _, _, _, X 37 _ (by with_unfolding_all rfl), X 36 _ (by with_unfolding_all rfl), rfl, rfl, rfl, by decide +kernel, by decide +kernel, by decide +kernel, rfl, by decide +kernel⟩
theorem eol_pat {P : Params} {h : Heap} (X : (top.heap_1 P).In h) : PatAt h 91 90 0 eolCode :=
  ⟨_, _, _, _, _, X 91 _ (by with_unfolding_all rfl), X 90 _ (by with_unfolding_all rfl), rfl, rfl, rfl, by decide +kernel, by decide +kernel, by decide +kernel, rfl, by decide +kernel⟩
end Mine
end
section
open PySem PySem.W PyProof.Rows PySem.Calls PySem.Builtin.Re
set_option maxRecDepth 100000
namespace Mine
structure MatchOf (z : Nat) (oM : Obj) (T : Addr) (oT : Obj) : Prop where
  cls : oM.cls = .type "re.Match"
  nod : oM.dict = none
  ex : ∃ (fs : Array Value) (tk : Tok) (a b : Int) (n : Nat), oM.data = .fields fs ∧ fs.getD 0 .none = .str (zt z) tk ∧ fs.getD 5 .none = .ref T ∧ oT.data = .seq (rawInt a :: rawInt b :: zSpans z).toArray n
section
variable {prog : Program} {w : World} {A : Around} {E : Value → Shared → Prop} {s : Shared} {h₀ : Heap} {L : Addr} {mm : Str → Option Value} {news : List (Addr × Obj)} {z : Nat} {tk : Tok} {Q : Value → Shared → Prop}
theorem zSpans_len : (zSpans z).length = 6 := by unfold zSpans; split <;> split <;> rfl
theorem zone_search {P : Params} (X : (top.heap_1 P).In h₀) (F : Fr h₀ L s.heap mm) (N : News h₀ L s.heap news) (hz : z % 6 < 4)
    (h : ∀ M T oM oT h', Fr h₀ L h' mm → News h₀ L h' ((M, oM) :: (T, oT) :: news) → MatchOf z oM T oT → Q (.ref M) { s with heap := h' }) :
    wpAny (model prog w) A (call (.builtin "re.Pattern.search") [.ref 37, .str (zt z) tk]) Q E s := by
  obtain ⟨op, os, fs, xs, n, ho, hs, hc, hdn, hdat, h5, h6, h2, hds, hcode⟩ := (tz_pat X).ex
  obtain ⟨m', e1, e2, e3, e4⟩ := tz_hit z hz
  have hlen := zt_len z
  refine search_hit hc (F.keep _ _ ho) hdat h5 h6 h2 (F.keep _ _ hs) hds hcode (by lia) 100 (by decide) e1 e2 e3 (by rw [e4, zSpans_len]; decide) F N fun T M h' F' N' l1 l2 => ?_
  refine h M T _ _ h' F' N' ⟨rfl, rfl, _, tk, m'.start, m'.handed, 0, rfl, rfl, rfl, ?_⟩
  rw [← e4]
theorem zone_search_no {P : Params} (X : (top.heap_1 P).In h₀) (F : Fr h₀ L s.heap mm) (hz : z % 6 = 5) (h : Q .none s) :
    wpAny (model prog w) A (call (.builtin "re.Pattern.search") [.ref 37, .str (zt z) tk]) Q E s := by
  obtain ⟨op, os, fs, xs, n, ho, hs, hc, hdn, hdat, h5, h6, h2, hds, hcode⟩ := (tz_pat X).ex
  obtain ⟨m', e1, e2⟩ := tz_miss z hz
  have hlen := zt_len z
  exact search_miss hc (F.keep _ _ ho) hdat h5 h6 h2 (F.keep _ _ hs) hds hcode (by lia) 100 (by decide) e1 e2 h
theorem zone_method {P : Params} {pl : Sem Bool} {Q : Value × List Value → Shared → Prop} (X : (top.heap_1 P).In h₀) (F : Fr h₀ L s.heap mm) (h : Q (.builtin "re.Pattern.search", [.ref 37]) s) : wpAny (model prog w) A (getMethod (.ref 37) "search" pl) Q E s := by
  obtain ⟨op, os, fs, xs, n, ho, hs, hc, hdn, hdat, h5, h6, h2, hds, hcode⟩ := (tz_pat X).ex
  exact method_pat (F.keep _ _ ho) hc hdn slot_search type_search h
section
variable {M T : Addr} {oM oT : Obj}
theorem zmat_true {Q : Bool → Shared → Prop} (N : News h₀ L s.heap news) (hM : (M, oM) ∈ news) (H : MatchOf z oM T oT) (h : Q true s) : wpAny (model prog w) A (truthy (.ref M)) Q E s := truthy_match (N.get hM) H.cls h
theorem zmat_method {pl : Sem Bool} {Q : Value × List Value → Shared → Prop} (N : News h₀ L s.heap news) (hM : (M, oM) ∈ news) (H : MatchOf z oM T oT) (h : Q (.builtin "re.Match.group", [.ref M]) s) : wpAny (model prog w) A (getMethod (.ref M) "group" pl) Q E s :=
  method_mat (N.get hM) H.cls H.nod slot_group type_group h
theorem zgroup2 (N : News h₀ L s.heap news) (hM : (M, oM) ∈ news) (H : MatchOf z oM T oT) (hT : (T, oT) ∈ news) (hz : z % 6 < 4) (h : Q (.str (zHr z) s.toks) { s with toks := s.toks + 1 }) :
    wpAny (model prog w) A (call (.builtin "re.Match.group") [.ref M, .int 2 tk]) Q E s := by
  obtain ⟨fs, t, a, b, n, e1, e2, e3, e4⟩ := H.ex
  have hl := zt_len z
  refine group_at (g := 2) H.cls (N.get hM) e1 e2 e3 (N.get hT) e4 (by rw [xs_size]; decide) (at2 a b).1 (at2 a b).2 (by lia) ?_
  rw [cut2 hz]; exact h
theorem zgroup3 (N : News h₀ L s.heap news) (hM : (M, oM) ∈ news) (H : MatchOf z oM T oT) (hT : (T, oT) ∈ news) (hz : z % 6 < 4) (hm : z / 6 / 12 % 4 ≠ 3) (h : Q (.str (zMn z) s.toks) { s with toks := s.toks + 1 }) :
    wpAny (model prog w) A (call (.builtin "re.Match.group") [.ref M, .int 3 tk]) Q E s := by
  obtain ⟨fs, t, a, b, n, e1, e2, e3, e4⟩ := H.ex
  have hl := zt_len z
  refine group_at (g := 3) H.cls (N.get hM) e1 e2 e3 (N.get hT) e4 (by rw [xs_size]; decide) (at3 a b hm).1 (at3 a b hm).2 (by lia) ?_
  rw [cut3 hz hm]; exact h
theorem zgroup3n (N : News h₀ L s.heap news) (hM : (M, oM) ∈ news) (H : MatchOf z oM T oT) (hT : (T, oT) ∈ news) (hm : z / 6 / 12 % 4 = 3) (h : Q .none s) :
    wpAny (model prog w) A (call (.builtin "re.Match.group") [.ref M, .int 3 tk]) Q E s := by
  obtain ⟨fs, t, a, b, n, e1, e2, e3, e4⟩ := H.ex
  exact group_none (g := 3) H.cls (N.get hM) e1 e3 (N.get hT) e4 (by rw [xs_size]; decide) (at3n a b hm) h
theorem zgroup1 (N : News h₀ L s.heap news) (hM : (M, oM) ∈ news) (H : MatchOf z oM T oT) (hT : (T, oT) ∈ news) (hz : z % 6 < 4) (hs : z / 6 % 3 ≠ 0) (h : Q (.str ⟨#[if z / 6 % 3 = 2 then 45 else 43]⟩ s.toks) { s with toks := s.toks + 1 }) :
    wpAny (model prog w) A (call (.builtin "re.Match.group") [.ref M, .int 1 tk]) Q E s := by
  obtain ⟨fs, t, a, b, n, e1, e2, e3, e4⟩ := H.ex
  have hl := zt_len z
  refine group_at (g := 1) H.cls (N.get hM) e1 e2 e3 (N.get hT) e4 (by rw [xs_size]; decide) (at1 a b hs).1 (at1 a b hs).2 (by lia) ?_
  rw [cut1 hz hs]; exact h
theorem zgroup1p (N : News h₀ L s.heap news) (hM : (M, oM) ∈ news) (H : MatchOf z oM T oT) (hT : (T, oT) ∈ news) (hz : z % 6 < 4) (hs : z / 6 % 3 = 1) (h : Q (.str (PySem.Str.ofString "+") s.toks) { s with toks := s.toks + 1 }) :
    wpAny (model prog w) A (call (.builtin "re.Match.group") [.ref M, .int 1 tk]) Q E s := by
  refine zgroup1 N hM H hT hz (by lia) ?_
  rw [if_neg (by lia)]
  rwa [show (PySem.Str.ofString "+") = ⟨#[43]⟩ from by decide +kernel] at h
theorem zgroup1m (N : News h₀ L s.heap news) (hM : (M, oM) ∈ news) (H : MatchOf z oM T oT) (hT : (T, oT) ∈ news) (hz : z % 6 < 4) (hs : z / 6 % 3 = 2) (h : Q (.str (PySem.Str.ofString "-") s.toks) { s with toks := s.toks + 1 }) :
    wpAny (model prog w) A (call (.builtin "re.Match.group") [.ref M, .int 1 tk]) Q E s := by
  refine zgroup1 N hM H hT hz (by lia) ?_
  rw [if_pos hs]
  rwa [show (PySem.Str.ofString "-") = ⟨#[45]⟩ from by decide +kernel] at h
theorem zgroup1n (N : News h₀ L s.heap news) (hM : (M, oM) ∈ news) (H : MatchOf z oM T oT) (hT : (T, oT) ∈ news) (hs : z / 6 % 3 = 0) (h : Q .none s) :
    wpAny (model prog w) A (call (.builtin "re.Match.group") [.ref M, .int 1 tk]) Q E s := by
  obtain ⟨fs, t, a, b, n, e1, e2, e3, e4⟩ := H.ex
  exact group_none (g := 1) H.cls (N.get hM) e1 e3 (N.get hT) e4 (by rw [xs_size]; decide) (at1n a b hs) h
end
end
end Mine
end
section
open PySem PySem.W PyProof.Rows PySem.Calls PySem.Builtin.Re
set_option maxRecDepth 100000
namespace Mine
section
variable {w : World} {p : Program} {loose : List Str} {mean : ExcName → Option Value} {mg mb : Str → Option Value}
  {dp un : Nat} {gd : Option (List Code)} {cn : Str} {cs : Scope} {a : Addr} {ccd : Value} {cl : List (Str × Addr)} {outer : List Env} {A₀ : Around} {base h₀ : Heap} {L : Addr} {m : Str → Option Value} {s : Shared} {Q E : Value → Shared → Prop} {news : List (Addr × Obj)}
/-- a moment as a value -/
def MomV : Value → Option Int → Prop
  | .none, none => True
  | .int i _, some j => i = j
  | _, _ => False
local macro_rules | `(tactic| walk_at "truthy ref") => `(tactic| (k_here; (refine zmat_true (by k_asm) (by k_mem) (by assumption) ?_)))
local macro_rules | `(tactic| walk_at "getMethod ref") => `(tactic| (k_here; (first | (refine zone_method (by k_asm) (by k_asm) ?_) | (refine zmat_method (by k_asm) (by k_mem) (by assumption) ?_))))
local macro_rules | `(tactic| walk_at "call builtin:re.Pattern.search") => `(tactic| (k_here; (first | (refine zone_search (by k_asm) (by k_asm) (by k_asm) (by assumption) ?_; intro M' T' oM' oT' h' F' N' hMat) | (refine zone_search_no (by k_asm) (by k_asm) (by assumption) ?_))))
local macro_rules | `(tactic| walk_at "call builtin:re.Match.group") => `(tactic| (k_here; (first
  | (refine zgroup2 (by k_asm) (by k_mem) (by assumption) (by k_mem) (by assumption) ?_)
  | (refine zgroup3 (by k_asm) (by k_mem) (by assumption) (by k_mem) (by assumption) (by assumption) ?_)
  | (refine zgroup3n (by k_asm) (by k_mem) (by assumption) (by k_mem) (by assumption) ?_)
  | (refine zgroup1p (by k_asm) (by k_mem) (by assumption) (by k_mem) (by assumption) (by assumption) ?_)
  | (refine zgroup1m (by k_asm) (by k_mem) (by assumption) (by k_mem) (by assumption) (by assumption) ?_)
  | (refine zgroup1n (by k_asm) (by k_mem) (by assumption) (by k_mem) (by assumption) ?_))))
theorem truthy_two {prog : Program} {w : World} {A : Around} {E : Value → Shared → Prop} {s : Shared} {x : PySem.Str} {t : Tok} {Q : Bool → Shared → Prop} (hx : x.length = 2) (h : Q true { s with toks := s.toks + 1 + 1 }) : wpAny (model prog w) A (truthy (.str x t)) Q E s := by
  refine SBL.truthy (by rw [hx]; decide) ?_
  rw [hx]; exact h
local macro_rules | `(tactic| walk_at "truthy str") => `(tactic| (k_here; (refine truthy_two (by assumption) ?_)))
local macro_rules | `(tactic| walk_at "call type:int") => `(tactic| (k_here; (first | (refine KIN.call_text (by assumption) (by assumption) ?_))))
set_option maxHeartbeats 8000000 in
theorem offset_call (B : Below A₀ base outer h₀) (F : Fr h₀ L s.heap m) (X : (top.heap_1 w.params).In h₀) (N : News h₀ L s.heap news) (T : Top p loose mean mg mb h₀) (hk : cs.kind = .function) (hdp : dp + 5 < recursionLimit) (hun : un + 50 < cLine)
  {z : Nat} (hz : z < 576) {tk : Tok} (hret : ∀ v h' tk', Fr h₀ L h' m → News h₀ L h' news → MomV v (zm z) → Q v { s with heap := h', toks := tk' }) :
  wpAny (model PySem.Challenge.pw_xe0013_01 w) (ktrTop dp un gd cn cs L a ccd cl outer) (call (.ref 44) [.str (zt z) tk]) Q E s := by
  refine wpAny_call ?_
  k_dflt ktr_enter
  have hin := zt_in z hz
  have hlen := zt_len z
  have hh0 := zHours_lo z
  have hh1 := zHours_hi z
  have hcs : z % 6 = 4 ∨ z % 6 = 5 ∨ z % 6 < 4 := by lia
  rcases hcs with hz4 | hz4 | hz4
  · rw [decide_eq_true hz4] at hin
    k_steps
    · refine hret _ _ _ (by k_asm) (by k_asm) ?_
      unfold zm
      rw [if_pos hz4]
      rfl
  · rw [decide_eq_false (show ¬ z % 6 = 4 by lia)] at hin
    k_steps
    refine hret _ _ _ (by k_asm) (by k_asm) ?_
    unfold zm
    rw [if_neg (by lia), if_pos hz4]
    trivial
  · rw [decide_eq_false (show ¬ z % 6 = 4 by lia)] at hin
    have hi2 := zHr_int z hz hz4
    have hl2 : (zHr z).length ≤ 640 := by
      show (zTens (z % 6) (z / 6) ++ zHour (z / 6)).toArray.size ≤ 640
      rw [List.size_toArray, zHr_len]
      unfold zHl
      split <;> decide
    have hm0 := zMinutes_lo (z / 6)
    have hm1 := zMinutes_hi (z / 6)
    k_steps
    by_cases hmn : z / 6 / 12 % 4 = 3
    · have hmz := zMinutes_none (z / 6) hmn
      k_steps
      have hsg : z / 6 % 3 = 0 ∨ z / 6 % 3 = 1 ∨ z / 6 % 3 = 2 := by lia
      rcases hsg with hsg | hsg | hsg
      all_goals k_steps
      all_goals
        refine hret _ _ _ (by k_asm) (by refine cb_drop (by k_asm) (fun p hp => .tail _ (.tail _ hp))) ?_
        unfold zm zSecs
        rw [if_neg (by lia), if_neg (by lia), hsg, hmz]
        show _ = _
        simp
    · have hi3 := zMn_text z hmn
      have hl3 := zMn_len z hmn
      have hl3' : (zMn z).length ≤ 640 := by lia
      k_steps
      have hsg : z / 6 % 3 = 0 ∨ z / 6 % 3 = 1 ∨ z / 6 % 3 = 2 := by lia
      rcases hsg with hsg | hsg | hsg
      all_goals k_steps
      all_goals
        refine hret _ _ _ (by k_asm) (by refine cb_drop (by k_asm) (fun p hp => .tail _ (.tail _ hp))) ?_
        unfold zm zSecs
        rw [if_neg (by lia), if_neg (by lia), hsg]
        show _ = _
        simp
end
end Mine
end
section
open PySem PySem.W PyProof.Rows PySem.Calls PySem.Builtin PySem.Builtin.OSError
set_option maxRecDepth 100000
namespace Mine
theorem entry_osNew : entryFor table "OSError.__new__" = some Builtin.«OSError.__new__» := entryFor_of_tree (by kernel_rfl)
theorem osNew_kind : builtinKind "OSError.__new__" = some .builtinFn := by decide +kernel
theorem osNew_split : splitId "OSError.__new__" = some ("OSError", "__new__") := by decide +kernel
theorem osNew_canon : Manifest.canonical "OSError.__new__" = "OSError.__new__" := by decide +kernel
theorem osNew_quiet : plainId "OSError.__new__" = true := by decide +kernel
section
variable {prog : Program} {w : World} {A : Around} {E : Value → Shared → Prop} {P : Params} {h : Heap} {g : Array GenState} {d : Drawn} {t : Nat} {os : OsState} {R : Result → Shared → Prop}
abbrev excBlank (t0 : Addr) (dd : Option Addr) : Obj := { cls := .ref 133, dict := dd, data := .fields (#[.ref t0, .none, .none, .none, .bool false, .none] ++ osNothingGiven) }
abbrev tup0 : Obj := { cls := .type "tuple", data := .seq #[] }
theorem mro133 (X : (top.heap_1 P).In h) : Looks (model prog w) h (mroOf (.ref 133)) [.ref 133, .ref 121, .ref 101, .type "OSError", .type "Exception", .type "BaseException", .type "object"] := by
  obtain ⟨cd, hc, he⟩ : ∃ cd, clsIn (top.heap_1 P) 133 = some cd ∧ cd.mro = [.ref 133, .ref 121, .ref 101, .type "OSError", .type "Exception", .type "BaseException", .type "object"] := ⟨_, by with_unfolding_all rfl, rfl⟩
  exact he ▸ (looks_clsIn X hc).andThen .now
theorem made133 (X : (top.heap_1 P).In h) : Looks (model prog w) h (Bind.madeBy (.ref 133)) (some "OSError.__new__") := by
  obtain ⟨o, ho, hs⟩ : ∃ o, List.lookup 133 (top.heap_1 P) = some o ∧ (o.slots[4]?).join = some (.builtin "OSError.__new__") := ⟨_, by with_unfolding_all rfl, by decide +kernel⟩
  intro A Q E s k q
  unfold Bind.madeBy
  refine wpAny_bind (mro133 X A _ E s k ?_)
  rw [List.forIn_cons]
  refine wpAny_bind (wpAny_bind (wpAny_bind (wpAny_bind (wpAny_loadPart (k _ _ (X _ _ ho)) (wpAny_pure ?_)))))
  rw [hs]
  exact wpAny_pure (wpAny_pure (wpAny_pure q))
theorem base133 (X : (top.heap_1 P).In h) : Looks (model prog w) h (Bind.staticBase (.ref 133)) (.ref 133) := by
  intro A Q E s k q
  unfold Bind.staticBase
  refine wpAny_bind (mro133 X A _ E s k ?_)
  rw [List.forIn_cons]
  exact wpAny_bind (wpAny_bind (wpAny_bind (made133 X A _ E s k (wpAny_pure (wpAny_pure (wpAny_pure q))))))
theorem type133 (X : (top.heap_1 P).In h) : Looks (model prog w) h (isType (.ref 133)) true := by
  obtain ⟨o, cd, ho, hs⟩ : ∃ o cd, List.lookup 133 (top.heap_1 P) = some o ∧ o.data = .cls cd := ⟨_, _, by with_unfolding_all rfl, rfl⟩
  intro A Q E s k q
  unfold isType
  refine wpAny_bind (wpAny_loadPart (k _ _ (X _ _ ho)) ?_)
  rw [hs]
  exact wpAny_pure q
theorem del133 (X : (top.heap_1 P).In h) : Looks (model prog w) h (classHasDel 133) false := by
  obtain ⟨o, cd, ho, hs, hd'⟩ : ∃ o cd, List.lookup 133 (top.heap_1 P) = some o ∧ o.data = .cls cd ∧ cd.hasDel = false := ⟨_, _, by with_unfolding_all rfl, rfl, rfl⟩
  intro A Q E s k q
  unfold classHasDel
  refine wpAny_bind (wpAny_load (k _ _ (X _ _ ho)) ?_)
  rw [hs]
  dsimp only
  rw [hd']
  exact wpAny_pure q
theorem osNew_args (X : (top.heap_1 P).In h) (a b : Value) : ∃ sig, Manifest.signature? "OSError.__new__" = some sig ∧ Looks (model prog w) h (Bind.checkArgs "OSError.__new__" sig ⟨[.ref 133, a, b], []⟩) () := by
  refine ⟨⟨.constructor, "*", "OSError", .cls, [⟨"args", .varPos, false⟩]⟩, by kernel_rfl, ?_⟩
  intro A Q E s k q
  have h133 := k _ _ (X 133 _ (by with_unfolding_all rfl))
  obtain ⟨hh, g, d, t, os⟩ := s
  unfold Bind.checkArgs
  repeat lk
  exact q
theorem sub133 (X : (top.heap_1 P).In h) : Looks (model prog w) h (isSubtype (.ref 133) (.type "OSError")) true := looks_subIn X (by k_is)
theorem init133 (X : (top.heap_1 P).In h) : Looks (model prog w) h (typeLookup (.ref 133) "__init__") (some (.ref 118)) := looks_findIn X (by k_is)
theorem new133 (X : (top.heap_1 P).In h) {a b : Value} (hq : R (.ok (.ret (.ref (h.objs.size + 1)))) ⟨(h.push tup0).push (excBlank h.objs.size none), g, d, t, os⟩) :
    codeAny (model prog w) A (.call (.builtin "OSError.__new__") ⟨[.ref 133, a, b], []⟩) R ⟨h, g, d, t, os⟩ := by
  obtain ⟨sig, hsig, L0⟩ := osNew_args (prog := prog) (w := w) X a b
  have L1 := type133 (prog := prog) (w := w) X
  have L2 := sub133 (prog := prog) (w := w) X
  have L3 := base133 (prog := prog) (w := w) X
  have L4 := made133 (prog := prog) (w := w) X
  have L5 := init133 (prog := prog) (w := w) X
  have h133 := X 133 _ (by with_unfolding_all rfl)
  have h133' := Heap.get?_push_of_some (excBlank h.objs.size none) (Heap.get?_push_of_some tup0 h133)
  refine codeAny_call_builtin osNew_quiet entry_osNew ?_
  simp only [checkBuiltinCall, osNew_kind, osNew_split, hsig]
  repeat (first | lk | rw [osNew_canon])
  show R _ _
  rw [Heap.size_push]
  exact hq
/-- the class called: the object is made, then its own first def is called -/
theorem call133 (X : (top.heap_1 P).In h) {a b : Value} (hq : codeAny (model prog w) (A.under (.builtin "type.__call__" ⟨[.ref 133, a, b], []⟩)) (.call (.ref 118) ⟨[.ref (h.objs.size + 1), a, b], []⟩) (InitBack (h.objs.size + 1) R)
      ⟨(h.push tup0).push (excBlank h.objs.size none), g, d, t, os⟩) :
    codeAny (model prog w) A (.call (.ref 133) ⟨[a, b], []⟩) R ⟨h, g, d, t, os⟩ := by
  have h133 := X 133 _ (by with_unfolding_all rfl)
  have hm := mro133 (prog := prog) (w := w) X
  have made := made133 (prog := prog) (w := w) X
  have call : Looks (model prog w) h (specialOf (.ref 133) "__call__") (some (.builtin "type.__call__")) := looks_specialIn X (by k_is)
  have typ : Looks (model prog w) h (isInstance (.ref 133) (.type "type")) true := looks_instIn X (by k_is)
  refine codeAny_of_tree ?_
  show wpAny _ _ (callAny (.ref 133) _) _ _ _
  refine nd_load h133 ?_
  show wpAny _ _ (callAny.viaDunder (.ref 133) _) _ _ _
  unfold callAny.viaDunder
  refine wpAny_bind (call.at ?_)
  dsimp only
  rw [tc_bind]
  refine wpAny_bind (wpAny_pure (wpAny_bind (wpAny_pure ?_)))
  refine wpAny_pure (a := Fin.again (.call (.builtin "type.__call__") ⟨[.ref 133, a, b], []⟩)) (And.intro rfl ?_)
  refine codeAny_call_builtin_at (Code.quiet_builtin _ (by decide +kernel)) entry_typeCall (check_slot tc_kind tc_split typ (tc_args _ _ _) ?_)
  unfold Builtin.«type.__call__»
  repeat (first | with_reducible refine wpAny_call ?_ | lk)
  refine new133 X ?_
  have k : ∀ b o, h.get? b = some o → ((h.push tup0).push (excBlank h.objs.size none)).get? b = some o := fun b o e => Heap.get?_push_of_some _ (Heap.get?_push_of_some _ e)
  have hx : ((h.push tup0).push (excBlank h.objs.size none)).get? (h.objs.size + 1) = some (excBlank h.objs.size none) := by heap_get
  have X' : (top.heap_1 P).In ((h.push tup0).push (excBlank h.objs.size none)) := X.keeps k
  have t1 : Looks (model prog w) ((h.push tup0).push (excBlank h.objs.size none)) (typeOf (.ref (h.objs.size + 1))) (.ref 133) := (Looks.ld hx).andThen .now
  have s1 : Looks (model prog w) ((h.push tup0).push (excBlank h.objs.size none)) (isSubtype (.ref 133) (.ref 133)) true := looks_subIn X' (by k_is)
  have i1 := init133 (prog := prog) (w := w) X'
  have b1 : Looks (model prog w) ((h.push tup0).push (excBlank h.objs.size none)) (bindSpecial (.ref 118) (.ref (h.objs.size + 1))) (.ref 118, [.ref (h.objs.size + 1)]) := bind_fn X' _ (by k_is)
  unfold isInstance callSpecial? specialOf
  repeat (first | with_reducible refine wpAny_call ?_ | lk)
  refine codeAny_mono hq fun r s' z => ?_
  rcases r with e | (v | _ | _ | _) <;> first | exact z | exact z.elim | skip
  obtain ⟨rfl, z⟩ := z
  exact wpAny_pure (wpAny_pure z)
def Raised133 (P : Params) (E : Value → Shared → Prop) (v : Value) (s₁ : Shared) : Prop :=
  ∃ e oe vs, v = .ref e ∧ s₁.heap.get? e = some oe ∧ oe.cls = .ref 133 ∧ oe.data = .fields vs ∧ vs[1]? = some .none ∧ (top.heap_1 P).In s₁.heap ∧ E (.ref e) s₁
theorem Raise_133 {env : Env} {e : Expr} {pos : Pos} {s : Shared} {Q : Flow → Shared → Prop} (hh : A.handled = none)
    (h : wpAny (model prog w) A (eval e env) (Raised133 P E) E s) : wpAny (model prog w) A (exec (.Raise (some e) none pos) env) Q E s := by
  show wpAny _ A (do standAt pos; raiseStmt env (some (do let v ← eval e env; standAt pos; pure v)) none) Q E s
  refine wpAny_bind (wpAny_standAt ?_)
  unfold raiseStmt
  dsimp only
  refine wpAny_bind (wpAny_bind (wpAny_mono h (fun v s₁ h₁ => wpAny_bind (wpAny_standAt (wpAny_pure ?_))) fun _ _ x => x))
  obtain ⟨a, ob, vs, rfl, ha, hcls, hd, h1, X, hE⟩ := h₁
  obtain ⟨hh', g, d, t, os⟩ := s₁
  obtain ⟨oc, odi, oda, osl⟩ := ob
  dsimp only at hcls hd ha X
  subst hcls hd
  have t1 : Looks (model prog w) hh' (typeOf (.ref a)) (.ref 133) := (Looks.ld ha).andThen .now
  have s1 : Looks (model prog w) hh' (isSubtype (.ref 133) (.type "BaseException")) true := looks_subIn X (by k_is)
  have t2 : Looks (model prog w) hh' (typeOf (.ref 133)) (.type "type") := looks_typeIn X (by k_is)
  have f1 := looks_field (M := model prog w) ha 1 (v := .none) h1
  unfold excFromValue isExcClass isInstance
  repeat lk
  refine wpAny_handled ?_
  rw [hh]
  exact wpAny_throw hE
end
end Mine
end
section
open PySem PySem.W PyProof.Rows PySem.Calls PySem.Builtin PySem.Builtin.OSError PySem.Builtin.ObjectAttr
set_option maxRecDepth 100000
namespace Mine
theorem os_passes (self : Value) : refuseLoop self "__setattr__" [.ref 133, .ref 121, .ref 101, .type "OSError", .type "Exception", .type "BaseException", .type "object"] = pure () := by
  rw [refuseLoop_ref, refuseLoop_ref, refuseLoop_ref]
  kernel_rfl
section
variable {prog : Program} {w : World} {A : Around} {E : Value → Shared → Prop} {P : Params} {s : Shared} {R : Result → Shared → Prop} {e : Addr} {oe : Obj} {od : Option Obj}
theorem exc_osa {name : Str} {tk : Tok} {v : Value} {r : Option Value} (X : (top.heap_1 P).In s.heap) (I : InstAt s.heap e oe 133 od) (ht : takerIn (top.heap_1 P) 133 name = some r)
    (h : ∀ b, wpAny (model prog w) A.in1 (match r with | some a => setByDescriptor a (.ref e) v | none => storeInOwnDict (.ref e) (.ref 133) (.str name tk) name v b)
      (fun fin s' => match fin with | .done f => R (.ok f) s' | .again c' => c'.quiet = true ∧ codeAny (model prog w) A c' R s') (fun e s' => R (.error e) s') s) :
    codeAny (model prog w) A (.call (.builtin "object.__setattr__") ⟨[.ref e, .str name tk, v], []⟩) R s := by
  have SF := PySem.F.store_object
  have sub : Looks (model prog w) s.heap (isInstance (.ref e) (.type "object")) true := I.type.andThen (looks_subIn X (by k_is))
  refine codeAny_call_builtin SF.slot.plain SF.entry (@check_slot (model prog w) _ _ s "object.__setattr__" "object" "__setattr__" (.ref e) [.str name tk, v] [] _ SF.kind SF.split sub (SF.args (.ref e) (.str name tk) v) ?_)
  obtain ⟨attr, ha, hr⟩ := Option.bind_eq_some_iff.mp ht
  have L3 : Looks (model prog w) s.heap (storeTaker? attr) r := by
    cases attr with
    | none => cases hr; exact .now
    | some a =>
      obtain ⟨b, hb, rfl⟩ := Option.map_eq_some_iff.mp hr
      refine (looks_takesIn X hb).andThen ?_
      cases b <;> exact .now
  rw [osa_eq, refuse_eq]
  refine wpAny_bind (wpAny_bind (I.type.here (wpAny_bind ((mro133 X).here ?_))))
  rw [os_passes]
  exact wpAny_pure (wpAny_bind (I.type.here (wpAny_bind ((looks_findIn X ha).here (wpAny_bind (L3.here (h _)))))))
theorem cls133 (X : (top.heap_1 P).In s.heap) : ∃ cd, cd.hasDict = true ∧ Looks (model prog w) s.heap (classData 133) cd :=
  ⟨_, rfl, looks_clsIn X (by with_unfolding_all rfl)⟩
section
variable {h₀ : Heap} {L : Addr} {m : Str → Option Value} {pre post : List (Addr × Obj)} {name : Str} {v : Value} {t0 : Addr}
theorem nsSet_led {dx : Addr} {es : List DictEntry} {n : Nat} {Q : Fin → Shared → Prop} (F : Fr h₀ L s.heap m) (N : News h₀ L s.heap (pre ++ (dx, dictOf es n) :: post)) (h1 : ∀ p ∈ pre, p.1 ≠ dx) (h2 : ∀ p ∈ post, p.1 ≠ dx) {tk : Tok}
    (hl : (getL name es).isSome = true) (hz : (putL name (PyData.keyHash w.params name) (.str name s.toks) v es).length ≤ 1000)
    (h : ∀ h', Fr h₀ L h' m → News h₀ L h' (pre ++ (dx, dictOf (putL name (PyData.keyHash w.params name) (.str name s.toks) v es) (putN name es n)) :: post) → Q (.done (.ret .none)) { s with heap := h', toks := s.toks + 1 }) :
    wpAny (model prog w) A (storeInDict dx (.str name tk) name v) Q E s := by
  have D := (N (dx, dictOf es n) (by simp)).1
  obtain ⟨U1, U2⟩ := news_upd (f := Obj.putName name (PyData.keyHash w.params name) (.str name s.toks) v) F N h1 h2 (putName_dict name _ _ v es n) rfl
  have D' := (U2 (dx, dictOf (putL name (PyData.keyHash w.params name) (.str name s.toks) v es) (putN name es n)) (by simp)).1
  unfold storeInDict newKeyGuard
  refine wpAny_bind (wpAny_pure (wpAny_bind ?_))
  unfold nsSet
  refine wpAny_bind (wpAny_bind (wpAny_askSetting (wpAny_pure (wpAny_bind (wpAny_mkText (wpAny_bind (wpAny_loadPart D ?_)))))))
  dsimp only
  have c : (!es.toArray.any (·.key.isStr name) && es.toArray.any (·.refKey)) = false := by
    unfold getL at hl
    rw [List.any_toArray, List.any_toArray]
    split at hl
    · rename_i en he
      rw [List.any_eq_true.mpr ⟨en, List.mem_of_find?_eq_some he, List.find?_some he⟩]; rfl
    · split at hl
      · cases hl
      · rename_i z; rw [Bool.not_eq_true] at z; rw [z, Bool.and_false]
  rw [aRefKeyMayBeTheName_at, c]
  refine wpAny_updatePart D ?_
  refine wpAny_bind (wpAny_lookBehind D' (pastItsLine_dict (by rw [List.size_toArray, sizeLine_eq]; lia)) ?_)
  exact wpAny_pure (h _ U1 U2)
theorem exc_set0 {Q : Unit → Shared → Prop} (F : Fr h₀ L s.heap m) (X₀ : (top.heap_1 P).In h₀) (N : News h₀ L s.heap (pre ++ (e, excBlank t0 none) :: post)) (h1 : ∀ p ∈ pre, p.1 ≠ e) (h2 : ∀ p ∈ post, p.1 ≠ e)
    (ht : takerIn (top.heap_1 P) 133 name = some none)
    (h : ∀ dx h', Fr h₀ L h' m → News h₀ L h' ((dx, dictOf [⟨PyData.keyHash w.params name, .str name (s.toks + 1), v⟩] 1) :: (pre ++ (e, excBlank t0 (some dx)) :: post)) → (∀ p ∈ pre ++ (e, excBlank t0 none) :: post, p.1 < dx) → Q () { s with heap := h', toks := s.toks + 1 + 1 }) :
    wpAny (model prog w) A (setAttr (.ref e) name v) Q E s := by
  have X := X₀.keeps F.keep
  have he := (N (e, excBlank t0 none) (by simp)).1
  have I : InstAt s.heap e (excBlank t0 none) 133 none := ⟨he, rfl, rfl, trivial⟩
  refine set_plain X I (by k_is) (exc_osa (s := { s with toks := s.toks + 1 }) X I ht fun b => ?_)
  obtain ⟨cd, hcd, L1⟩ := cls133 (prog := prog) (w := w) X
  have lt : ∀ p ∈ pre ++ (e, excBlank t0 none) :: post, p.1 < s.heap.objs.size := fun p hp => Heap.lt_size (N p hp).1
  have F1 := F.push emptyDict
  have N1 := N.push F emptyDict
  have hne : e ≠ s.heap.objs.size := Nat.ne_of_lt (lt (e, excBlank t0 none) (by simp))
  obtain ⟨F2, N2⟩ := news_upd (pre := (s.heap.objs.size, emptyDict) :: pre) (post := post) (f := fun o => { o with dict := some s.heap.objs.size }) (o := excBlank t0 none) (o' := excBlank t0 (some s.heap.objs.size)) F1 N1
    (fun p hp => by
      rcases List.mem_cons.mp hp with rfl | hp
      · exact Ne.symm hne
      · exact h1 p hp) h2 rfl rfl
  obtain ⟨hh, g, d, t, os⟩ := s
  dsimp only at *
  unfold storeInOwnDict ownStreamTells ownDictForStores instanceDict
  repeat (first | lk | rw [hcd])
  refine wpAny_update (Heap.get?_push_of_some _ he) ?_
  refine wpAny_pure (a := some hh.objs.size) ?_
  dsimp only
  refine nsSet_led (pre := []) (es := []) (n := 0) (tk := t) F2 N2 (fun _ hp => nomatch hp) (fun p hp => ?_) rfl (Nat.le_of_ble_eq_true rfl) fun h' F' N' => ?_
  · rcases List.mem_append.mp hp with hp | hp
    · exact Nat.ne_of_lt (lt p (List.mem_append_left _ hp))
    · rcases List.mem_cons.mp hp with rfl | hp
      · exact hne
      · exact Nat.ne_of_lt (lt p (List.mem_append_right _ (.tail _ hp)))
  · exact h hh.objs.size h' F' N' lt
theorem exc_set1 {dx : Addr} {es : List DictEntry} {n : Nat} {Q : Unit → Shared → Prop} (F : Fr h₀ L s.heap m) (X₀ : (top.heap_1 P).In h₀) (N : News h₀ L s.heap (pre ++ (dx, dictOf es n) :: post)) (he : (e, excBlank t0 (some dx)) ∈ pre ++ (dx, dictOf es n) :: post)
    (h1 : ∀ p ∈ pre, p.1 ≠ dx) (h2 : ∀ p ∈ post, p.1 ≠ dx)
    (ht : takerIn (top.heap_1 P) 133 name = some none) (hl : (getL name es).isSome = true) (hz : (putL name (PyData.keyHash w.params name) (.str name (s.toks + 1)) v es).length ≤ 1000)
    (h : ∀ h', Fr h₀ L h' m → News h₀ L h' (pre ++ (dx, dictOf (putL name (PyData.keyHash w.params name) (.str name (s.toks + 1)) v es) (putN name es n)) :: post) → Q () { s with heap := h', toks := s.toks + 1 + 1 }) :
    wpAny (model prog w) A (setAttr (.ref e) name v) Q E s := by
  have X := X₀.keeps F.keep
  have he' := (N _ he).1
  have D := (N (dx, dictOf es n) (by simp)).1
  have I : InstAt s.heap e (excBlank t0 (some dx)) 133 (some (dictOf es n)) := ⟨he', rfl, rfl, D⟩
  refine set_plain X I (by k_is) (exc_osa (s := { s with toks := s.toks + 1 }) X I ht fun b => ?_)
  obtain ⟨cd, hcd, L1⟩ := cls133 (prog := prog) (w := w) X
  obtain ⟨hh, g, d, t, os⟩ := s
  dsimp only at *
  have own : wpAny (model prog w) A.in1 (ownDictForStores (.ref e)) (fun r s' => r = some dx ∧ s' = ⟨hh, g, d, t + 1, os⟩) (fun e s' => E e s') ⟨hh, g, d, t + 1, os⟩ := by
    unfold ownDictForStores instanceDict
    repeat (first | lk | rw [hcd])
    exact ⟨rfl, rfl⟩
  unfold storeInOwnDict ownStreamTells
  refine wpAny_bind (wpAny_pure ?_)
  show wpAny _ _ (ownDictForStores (.ref e) >>= _) _ _ _
  refine wpAny_bind (wpAny_mono own (fun r s' q => ?_) fun _ _ x => x)
  obtain ⟨rfl, rfl⟩ := q
  exact nsSet_led (s := ⟨hh, g, d, t + 1, os⟩) (tk := t) F N h1 h2 hl hz fun h' F' N' => h h' F' N'
end
end
end Mine
end
section
open PySem PySem.W PyProof.Rows PySem.Calls PySem.Builtin PySem.Builtin.OSError PySem.Builtin.ObjectAttr
set_option maxRecDepth 100000
namespace Mine
theorem entry_gs_set : entryFor table "getset_descriptor.__set__" = some Builtin.«getset_descriptor.__set__» := entryFor_of_tree (by kernel_rfl)
theorem entry_args_set : entryFor table "BaseException.args#set" = some Builtin.«BaseException.args#set» := entryFor_of_tree (by kernel_rfl)
theorem args_gs_set (a b c : Value) : argsOk "getset_descriptor.__set__" ⟨[a, b, c], []⟩ := by unfold argsOk; kernel_rfl
section
variable {prog : Program} {w : World} {A : Around} {E : Value → Shared → Prop} {P : Params} {s : Shared} {e : Addr} {h₀ : Heap} {L : Addr} {m : Str → Option Value} {pre post : List (Addr × Obj)} {t0 : Addr}
theorem exc_args {dd : Addr} {od : Obj} {tp : Addr} {items : Array Value} {Q : Unit → Shared → Prop} (F : Fr h₀ L s.heap m) (X₀ : (top.heap_1 P).In h₀) (N : News h₀ L s.heap (pre ++ (e, excBlank t0 (some dd)) :: post)) (h1 : ∀ p ∈ pre, p.1 ≠ e) (h2 : ∀ p ∈ post, p.1 ≠ e)
    (hdd : (dd, od) ∈ pre ++ (e, excBlank t0 (some dd)) :: post) (htp : IsTup s.heap tp items)
    (h : ∀ h', Fr h₀ L h' m → News h₀ L h' (pre ++ (e, excBlank tp (some dd)) :: post) → Q () { s with heap := h', toks := s.toks + 1 }) :
    wpAny (model prog w) A (setAttr (.ref e) "args" (.ref tp)) Q E s := by
  have X := X₀.keeps F.keep
  have he := (N (e, excBlank t0 (some dd)) (by simp)).1
  have D := (N _ hdd).1
  have I : InstAt s.heap e (excBlank t0 (some dd)) 133 (some od) := ⟨he, rfl, rfl, D⟩
  have ht : takerIn (top.heap_1 P) 133 "args" = some (some (.builtin "BaseException.args")) := by k_is
  obtain ⟨F2, N2⟩ := news_upd (pre := pre) (post := post) (f := Obj.mapFields (·.setIfInBounds 0 (.ref tp))) (o := excBlank t0 (some dd)) (o' := excBlank tp (some dd)) F N h1 h2 rfl rfl
  obtain ⟨hh, g, d, t, os⟩ := s
  dsimp only at *
  refine set_plain X I (by k_is) (exc_osa (s := ⟨hh, g, d, t + 1, os⟩) X I ht fun b => ?_)
  dsimp only
  have hT5 : (⟨hh, g, d, t + 1, os⟩ : Shared).TypeIs (.builtin "BaseException.args") "getset_descriptor" := PySem.F.typeOf_bexc_args
  have f7 := PySem.F.slot_gs_set.lookup
  have f5 := PySem.F.typeOf_bexc_args
  have sub : Looks (model prog w) hh (isSubtype (.ref 133) (.type "BaseException")) true := looks_subIn X (by k_is)
  have ti : Looks (model prog w) hh (typeOf (.ref e)) (.ref 133) := (Looks.ld he).andThen .now
  have isi : Looks (model prog w) hh (isInstance (.ref e) (.type (".".intercalate ("BaseException.args".cutAt '.').dropLast))) true := by rw [PySem.F.owner_bexc_args]; exact ti.andThen sub
  have f8 := PySem.F.slot_gs_set.bind (.builtin "BaseException.args")
  unfold setByDescriptor
  repeat (any_goals (first | assumption | wp_step))
  refine codeAny_call_builtin PySem.F.slot_gs_set.plain entry_gs_set (PySem.F.slot_gs_set.check _ _ _ _ _ _ _ _ hT5 (args_gs_set _ _ _) ?_)
  unfold Builtin.«getset_descriptor.__set__» Getset_descriptor.descrSet Getset_descriptor.descrStoreThrough Getset_descriptor.descrCheckInstance Getset_descriptor.descrNameAndClass Getset_descriptor.descrOwnerAndName Getset_descriptor.descrItself
  repeat lk
  rw [show ("BaseException.args" ++ "#set") = "BaseException.args#set" by decide +kernel]
  refine ⟨Code.quiet_builtin _ (by decide +kernel), codeAny_builtin entry_args_set ?_⟩
  unfold Builtin.«BaseException.args#set» BaseException.bexcPut
  have f0 := looks_field (M := model prog w) he 0 (v := .ref t0) rfl
  show wpAny _ _ (call (.type "tuple") [.ref tp] >>= _) _ _ _
  refine wpAny_bind (call_tuple_tup (s := ⟨hh, g, d, t+1, os⟩) (items := items) htp ?_)
  repeat lk
  refine wpAny_update he ?_
  refine wpAny_letGo ?_
  refine wpAny_pure ?_
  refine wpAny_pure ?_
  refine wpAny_pure ?_
  exact h _ F2 N2
end
end Mine
end
section
open PySem PySem.W PyProof.Rows PySem.Calls PySem.Builtin.Re PySem.Builtin.OSError
set_option maxRecDepth 100000
namespace Mine
section
variable {w : World} {p : Program} {loose : List Str} {mean : ExcName → Option Value} {mg mb : Str → Option Value}
  {dp un : Nat} {gd : Option (List Code)} {cn : Str} {cs : Scope} {a : Addr} {ccd : Value} {cl : List (Str × Addr)} {outer : List Env} {A₀ : Around} {base h₀ : Heap} {L : Addr} {m : Str → Option Value} {s : Shared} {Q E : Value → Shared → Prop} {news : List (Addr × Obj)}
/-- the own dict of a refusal: code and text -/
abbrev excEnts (P : Params) (word : PySem.Str) (k1 k2 t1 t2 : Tok) : List DictEntry :=
  [⟨PyData.keyHash P "smtp_code", .str "smtp_code" k1, .int 554 t1⟩, ⟨PyData.keyHash P "smtp_error", .str "smtp_error" k2, .str word t2⟩]
set_option maxHeartbeats 8000000 in
theorem exc_call (B : Below A₀ base outer h₀) (F : Fr h₀ L s.heap m) (X : (top.heap_1 w.params).In h₀) (N : News h₀ L s.heap news) (T : Top p loose mean mg mb h₀) (hk : cs.kind = .function) (hdp : dp + 5 < recursionLimit) (hun : un + 50 < cLine)
  {word : PySem.Str} {t1 t2 : Tok}
  (hret : ∀ e tp dx k1 k2 h' tk', Fr h₀ L h' m → News h₀ L h' ((tp, { cls := .type "tuple", data := .seq #[.int 554 t1, .str word t2] }) :: (dx, dictOf (excEnts w.params word k1 k2 t1 t2) 2) :: (e, excBlank tp (some dx)) :: news) → (dx ≠ e ∧ dx ≠ tp) → (∀ q ∈ news, q.1 ≠ e ∧ q.1 ≠ tp) → Q (.ref e) { s with heap := h', toks := tk' }) :
  wpAny (model PySem.Challenge.pw_xe0013_01 w) (ktrTop dp un gd cn cs L a ccd cl outer) (call (.ref 133) [.int 554 t1, .str word t2]) Q E s := by
  have X' := X.keeps F.keep
  obtain ⟨hh, g, d, t, os⟩ := s
  refine wpAny_call ?_
  (try dsimp only at *)
  refine call133 X' ?_
  have F0 := F
  have N0 := N
  have N1 := (N0.push F0 tup0).push (F0.push _) (excBlank hh.objs.size none)
  have F1 := (F0.push tup0).push (excBlank hh.objs.size none)
  rw [Heap.size_push] at N1
  have lt : ∀ p ∈ news, p.1 < hh.objs.size := fun p hp => Heap.lt_size (N0 p hp).1
  clear F N F0 N0
  generalize hxe : hh.objs.size + 1 = xe at *
  have lx : ∀ p ∈ (hh.objs.size, tup0) :: news, p.1 ≠ xe := fun p hp => by
    rcases List.mem_cons.mp hp with rfl | hp
    · show hh.objs.size ≠ xe; lia
    · have z : p.1 < hh.objs.size := lt p hp
      rw [← hxe]; exact Nat.ne_of_lt (Nat.lt_succ_of_lt z)
  k_dflt ktr_enter
  k_steps
  refine exc_set0 (pre := []) (by k_asm) (by k_asm) (by k_asm) (fun _ hp => nomatch hp) lx (by k_is) ?_
  intro dx h1 F1' N1' ld
  (try dsimp only)
  (try k_fold)
  k_steps
  have lxd : xe < dx := ld (xe, excBlank hh.objs.size none) (.head _)
  refine exc_set1 (e := xe) (t0 := hh.objs.size) (dx := dx) (pre := []) (by k_asm) (by k_asm) (by k_asm) (.tail _ (.head _)) (fun _ hp => nomatch hp) (fun p hp => by
    rcases List.mem_cons.mp hp with rfl | hp
    · exact Nat.ne_of_lt lxd
    · exact Nat.ne_of_lt (ld p (.tail _ hp))) (by k_is) rfl (Nat.le_of_ble_eq_true rfl) ?_
  intro h2 F2' N2'
  have N2'' : News _ _ h2 ((dx, dictOf (excEnts w.params word _ _ t1 t2) 2) :: (xe, excBlank hh.objs.size (some dx)) :: (hh.objs.size, tup0) :: news) := N2'
  clear N2'
  (try dsimp only)
  (try k_fold)
  k_steps
  rename_i l1
  have htd : _ ≠ dx := Nat.ne_of_gt l1.1
  have htx : _ ≠ xe := Nat.ne_of_gt l1.2.1
  refine exc_args (t0 := hh.objs.size) (dd := dx) (pre := [_, _]) (by k_asm) (by k_asm) (by k_asm) (fun p hp => ?_) lx (.tail _ (.head _)) (News.isTup (by k_asm) (.head _)) ?_
  · rcases List.mem_cons.mp hp with rfl | hp
    · exact htx
    · rcases List.mem_cons.mp hp with rfl | hp
      · exact Nat.ne_of_gt lxd
      · cases hp
  intro h3 F3' N3'
  (try dsimp only)
  (try k_fold)
  k_steps
  rename_i kF kN _ _
  exact hret xe _ dx _ _ _ _ kF (cb_drop kN fun p hp => match hp with | .head _ => .head _ | .tail _ (.head _) => .tail _ (.head _) | .tail _ (.tail _ (.head _)) => .tail _ (.tail _ (.head _)) | .tail _ (.tail _ (.tail _ hp)) => .tail _ (.tail _ (.tail _ (.tail _ hp)))) ⟨Nat.ne_of_gt lxd, Ne.symm htd⟩ fun q hq => ⟨lx q (.tail _ hq), Nat.ne_of_lt (Nat.lt_trans (lt q hq) l1.2.2.1)⟩
end
end Mine
end
section
open PySem PyProof.Rows
set_option maxRecDepth 100000
namespace Mine
/-- every store of the tree keeps the place of each object's own dict -/
noncomputable def Tame {α : Type} : Sem α → Prop
  | .pure _ => True
  | .raise _ => True
  | .unsupported _ => True
  | .finish _ => True
  | .rule _ k => Tame (k ())
  | .at _ k => Tame (k ())
  | .load _ _ k => ∀ o, Tame (k o)
  | .update _ _ f k => (∀ o, (f o).dict = o.dict ∧ (f o).isFreed = o.isFreed) ∧ Tame (k ())
  | .loadIfAlive _ k => ∀ o, Tame (k o)
  | .point _ k => Tame (k ())
  | .register _ _ => True
  | .alloc _ k => ∀ a, Tame (k a)
  | .fresh k => ∀ t, Tame (k t)
  | .ask k => ∀ x, Tame (k x)
  | .handled _ k => ∀ x, Tame (k x)
  | .stack k => ∀ x, Tame (k x)
  | .thread k => ∀ x, Tame (k x)
  | _ => False
def DK (h h' : Heap) : Prop := ∀ b o, h.get? b = some o → ∃ o', h'.get? b = some o' ∧ o'.dict = o.dict
theorem DK.refl (h : Heap) : DK h h := fun _ o e => ⟨o, e, rfl⟩
theorem DK.trans {h h₁ h₂ : Heap} (x : DK h h₁) (y : DK h₁ h₂) : DK h h₂ := fun b o e => by
  obtain ⟨o₁, e₁, d₁⟩ := x b o e
  obtain ⟨o₂, e₂, d₂⟩ := y b o₁ e₁
  exact ⟨o₂, e₂, d₂.trans d₁⟩
theorem DK.push (h : Heap) (o : Obj) : DK h (h.push o) := fun _ o' e => ⟨o', Heap.get?_push_of_some o e, rfl⟩
theorem DK.update (h : Heap) (a : Addr) (f : Obj → Obj) (hf : ∀ o, (f o).dict = o.dict ∧ (f o).isFreed = o.isFreed) : DK h (h.update a f) := fun b o e => by
  by_cases q : a = b
  · subst q
    exact ⟨f o, Heap.get?_update_self f e ((hf o).2.trans (Heap.get?_some_iff.mp e).2), (hf o).1⟩
  · exact ⟨o, (Heap.get?_update_other _ _ q).trans e, rfl⟩
theorem tame_wp {α : Type} {M : Model} {Γ : Ctx} {Q : α → Pos → Shared → Prop} {E : Value → Pos → Shared → Prop} (h0 : Heap) (t : Sem α) : ∀ {p : Pos} {s : Shared}, DK h0 s.heap → Tame t → Sem.wp M Γ t Q E p s →
    Sem.wp M Γ t (fun a p' s' => Q a p' s' ∧ DK h0 s'.heap) (fun e p' s' => E e p' s' ∧ DK h0 s'.heap) p s := by
  induction t with
  | pure a => exact fun d _ h => ⟨h, d⟩
  | raise a => exact fun d _ h => ⟨h, d⟩
  | rule _ k ih => exact fun d t h => ih () d t h
  | «at» _ k ih => exact fun d t h => ih () d t h
  | load _ _ k ih => exact fun d t h => h.elim fun o h => ⟨o, h.1, ih o d (t o) h.2⟩
  | update a _ f k ih => exact fun d t h => ⟨h.1, ih () (d.trans (DK.update _ a f t.1)) t.2 h.2⟩
  | loadIfAlive _ k ih => exact fun d t h => ih _ d (t _) h
  | point _ k ih => exact fun d t h => ih () d t h
  | alloc o k ih => exact fun d t h => ih _ (d.trans (DK.push _ o)) (t _) h
  | fresh k ih => exact fun d t h => ih _ d (t _) h
  | ask k ih => exact fun d t h => ih _ d (t _) h
  | handled _ k ih => exact fun d t h => ih _ d (t _) h
  | stack k ih => exact fun d t h => ih _ d (t _) h
  | thread k ih => exact fun d t h => ih _ d (t _) h
  | unsupported _ => exact fun _ _ h => h.elim
  | finish _ => exact fun _ _ h => h.elim
  | register _ _ _ => exact fun _ _ h => h.elim
  | _ => exact fun _ t _ => t.elim
theorem tame_bind {α β : Type} (t : Sem α) (f : α → Sem β) : Tame t → (∀ a, Tame (f a)) → Tame (t >>= f) := by
  show Tame t → (∀ a, Tame (f a)) → Tame (t.bind f)
  induction t with
  | pure a => exact fun _ h => h a
  | raise _ => exact fun _ _ => trivial
  | unsupported _ => exact fun _ _ => trivial
  | finish _ => exact fun _ _ => trivial
  | register _ _ _ => exact fun _ _ => trivial
  | rule _ k ih => exact fun t h => ih () t h
  | «at» _ k ih => exact fun t h => ih () t h
  | point _ k ih => exact fun t h => ih () t h
  | update _ _ _ k ih => exact fun t h => ⟨t.1, ih () t.2 h⟩
  | load _ _ k ih => exact fun t h o => ih o (t o) h
  | loadIfAlive _ k ih => exact fun t h o => ih o (t o) h
  | alloc _ k ih => exact fun t h o => ih o (t o) h
  | fresh k ih => exact fun t h o => ih o (t o) h
  | ask k ih => exact fun t h o => ih o (t o) h
  | handled _ k ih => exact fun t h o => ih o (t o) h
  | stack k ih => exact fun t h o => ih o (t o) h
  | thread k ih => exact fun t h o => ih o (t o) h
  | _ => exact fun t _ => t.elim
theorem wpAny_tame {α : Type} {M : Model} {A : Around} {t : Sem α} {Q : α → Shared → Prop} {E : Value → Shared → Prop} {s : Shared} (ht : Tame t) (h : wpAny M A t Q E s) :
    wpAny M A t (fun a s' => Q a s' ∧ DK s.heap s'.heap) (fun e s' => E e s' ∧ DK s.heap s'.heap) s :=
  fun Γ p hΓ => tame_wp s.heap t (DK.refl _) ht (h Γ p hΓ)
theorem mapFields_tame (g : Array Value → Array Value) (o : Obj) : (Obj.mapFields g o).dict = o.dict ∧ (Obj.mapFields g o).isFreed = o.isFreed := by
  obtain ⟨_, _, dt, _⟩ := o
  cases dt <;> exact ⟨rfl, rfl⟩
theorem slots_tame (sl : Array (Option Value)) (o : Obj) : ({ o with slots := sl } : Obj).dict = o.dict ∧ ({ o with slots := sl } : Obj).isFreed = o.isFreed := by
  obtain ⟨_, _, dt, _⟩ := o
  cases dt <;> exact ⟨rfl, rfl⟩
theorem tame_load (a : Addr) : Tame (load a) := fun _ => trivial
theorem tame_alloc (o : Obj) : Tame (alloc o) := fun _ => trivial
theorem tame_stack : Tame stack := fun _ => trivial
theorem tame_update (a : Addr) (f : Obj → Obj) (h : ∀ o, (f o).dict = o.dict ∧ (f o).isFreed = o.isFreed) : Tame (update a f) := ⟨h, trivial⟩
theorem tame_pure {α : Type} (a : α) : Tame (pure a : Sem α) := trivial
theorem tame_unsupported {α : Type} (w : String) : Tame (unsupported w : Sem α) := trivial
theorem tame_register (a : Addr) : Tame (register a) := trivial
theorem tame_fieldsOf (v : Value) : Tame (fieldsOf v) := by
  unfold fieldsOf; repeat (first
      | exact tame_load _ | exact tame_alloc _ | exact tame_stack | exact tame_pure _ | exact tame_unsupported _ | exact tame_register _ | assumption
      | (refine tame_update _ _ fun o => ?_; first | exact mapFields_tame _ _ | exact slots_tame _ _)
      | (refine tame_bind _ _ ?_ fun _ => ?_)
      | split
      | (dsimp only))
theorem tame_field (v : Value) (i : Nat) : Tame (field v i) := by
  have := tame_fieldsOf v
  unfold field; repeat (first
      | exact tame_load _ | exact tame_alloc _ | exact tame_stack | exact tame_pure _ | exact tame_unsupported _ | exact tame_register _ | assumption
      | (refine tame_update _ _ fun o => ?_; first | exact mapFields_tame _ _ | exact slots_tame _ _)
      | (refine tame_bind _ _ ?_ fun _ => ?_)
      | split
      | (dsimp only))
theorem tame_setField (v : Value) (i : Nat) (x : Value) : Tame (setField v i x) := by
  unfold setField updateField; repeat (first
      | exact tame_load _ | exact tame_alloc _ | exact tame_stack | exact tame_pure _ | exact tame_unsupported _ | exact tame_register _ | assumption
      | (refine tame_update _ _ fun o => ?_; first | exact mapFields_tame _ _ | exact slots_tame _ _)
      | (refine tame_bind _ _ ?_ fun _ => ?_)
      | split
      | (dsimp only))
theorem tame_setFlight (v : Value) (f : Option Addr) : Tame (setFlight v f) := by
  have h1 := fun v i => tame_field v i
  have h2 := fun v i x => tame_setField v i x
  unfold setFlight
  refine tame_bind _ _ (h1 _ _) fun tb => ?_
  split
  · exact h2 _ _ _
  · exact tame_pure _
theorem tame_newFields (ty : String) (vs : List Value) : Tame (newFields ty vs) := by
  unfold newFields newObj newObjAsIs; repeat (first
      | exact tame_load _ | exact tame_alloc _ | exact tame_stack | exact tame_pure _ | exact tame_unsupported _ | exact tame_register _ | assumption
      | (refine tame_update _ _ fun o => ?_; first | exact mapFields_tame _ _ | exact slots_tame _ _)
      | (refine tame_bind _ _ ?_ fun _ => ?_)
      | split
      | (dsimp only))
theorem tame_under : Tame underTheClaimsCaller := by
  unfold underTheClaimsCaller; repeat (first
      | exact tame_load _ | exact tame_alloc _ | exact tame_stack | exact tame_pure _ | exact tame_unsupported _ | exact tame_register _ | assumption
      | (refine tame_update _ _ fun o => ?_; first | exact mapFields_tame _ _ | exact slots_tame _ _)
      | (refine tame_bind _ _ ?_ fun _ => ?_)
      | split
      | (dsimp only))
theorem tame_keptBack (env : Env) (b : Bool) (l : List Env) : Tame (keptBack env b l) := by
  have := tame_under
  unfold keptBack; repeat (first
      | exact tame_load _ | exact tame_alloc _ | exact tame_stack | exact tame_pure _ | exact tame_unsupported _ | exact tame_register _ | assumption
      | (refine tame_update _ _ fun o => ?_; first | exact mapFields_tame _ _ | exact slots_tame _ _)
      | (refine tame_bind _ _ ?_ fun _ => ?_)
      | split
      | (dsimp only))
theorem tame_behind (env : Env) (l : List Env) : Tame (behindIsImport env l) := by
  have h1 := fun v i => tame_field v i
  unfold behindIsImport
  split
  · exact tame_pure _
  · split
    · exact tame_pure _
    · exact tame_bind _ _ (h1 _ _) fun _ => tame_pure _
theorem tame_ready : ∀ l : List Env, Tame (readyFrames l)
  | [] => trivial
  | env :: outer => by
    have ih := tame_ready outer
    have h1 := tame_behind env outer
    have h2 := fun b => tame_keptBack env b outer
    unfold readyFrames
    split
    · refine tame_bind _ _ (tame_load _) fun o => ?_
      split
      · exact tame_pure _
      · refine tame_bind _ _ h1 fun b => tame_bind _ _ (h2 b) fun v => tame_bind _ _ (tame_update _ _ fun o => slots_tame _ o) fun _ => ih
    · exact tame_unsupported _
theorem tame_frameOf (env : Env) : Tame (PySem.frameOf env) := by
  have h1 : Tame frameEnvs := by unfold frameEnvs; repeat (first
      | exact tame_load _ | exact tame_alloc _ | exact tame_stack | exact tame_pure _ | exact tame_unsupported _ | exact tame_register _ | assumption
      | (refine tame_update _ _ fun o => ?_; first | exact mapFields_tame _ _ | exact slots_tame _ _)
      | (refine tame_bind _ _ ?_ fun _ => ?_)
      | split
      | (dsimp only))
  have h2 : ∀ l, Tame (frameObject l) := fun l => by
    cases l with
    | nil => exact tame_pure _
    | cons e r => exact tame_bind _ _ (tame_ready _) fun _ => tame_pure _
  unfold PySem.frameOf
  refine tame_bind _ _ h1 fun l => tame_bind _ _ (h2 _) fun o => ?_
  split
  · exact tame_pure _
  · exact tame_unsupported _
theorem tame_entryPlaceOf (f : Addr) (b : Bool) : Tame (entryPlaceOf f b) := by
  unfold entryPlaceOf
  refine tame_bind _ _ tame_stack fun l => ?_
  dsimp only
  split <;> exact tame_pure _
theorem tame_noteFrame (e : Value) (env : Env) : Tame (noteFrame e env) := by
  have h1 := fun v i => tame_field v i
  have h2 := fun v i x => tame_setField v i x
  have h3 := tame_frameOf env
  have h4 := fun f b => tame_entryPlaceOf f b
  have h5 := fun a b => tame_newFields a b
  unfold noteFrame EntryCells.newEntry
  split
  · refine tame_bind _ _ (h1 _ _) fun hd => ?_
    have tail : ∀ f, Tame (do setField e 1 (← newFields "traceback" ([hd, (← PySem.frameOf env), .none, rawInt f, .none] ++ (let pl := (← entryPlaceOf f (hd != .none)); if pl.isEmpty then List.replicate 6 .none else pl)))) := fun f =>
      tame_bind _ _ h3 fun _ => tame_bind _ _ (h4 _ _) fun _ => tame_bind _ _ (h5 _ _) fun _ => h2 _ _ _
    split
    · refine tame_bind _ _ (h1 _ _) fun _ => ?_
      split
      · exact tame_pure _
      · exact tame_bind _ _ (h2 _ _ _) fun _ => tail _
    · exact tail _
  · exact tame_unsupported _
theorem tame_leaving (env : Env) (e : Value) : Tame (leaving env e) := tame_bind _ _ (tame_noteFrame _ _) fun _ => tame_setFlight _ _
end Mine
end
section
open PySem PySem.W PyProof.Rows PySem.Calls PySem.Builtin PySem.Builtin.OSError
set_option maxRecDepth 100000
namespace Mine
/-- raised and on its way, its own dict's place kept -/
def RaisedD (base G : Heap) (l : List Env) (e t : Addr) (vs : List Value) (news : List (Addr × Obj)) (dd : Option Addr) (h : Heap) : Prop :=
  RaisedS base G l e (.ref 133) t vs news h ∧ ∃ oe, h.get? e = some oe ∧ oe.dict = dd
theorem dk_of {h h' : Heap} {e : Addr} {dd : Option Addr} (x : DK h h') (y : ∃ oe, h.get? e = some oe ∧ oe.dict = dd) : ∃ oe, h'.get? e = some oe ∧ oe.dict = dd := by
  obtain ⟨oe, he, hd⟩ := y
  obtain ⟨o', he', hd'⟩ := x _ _ he
  exact ⟨o', he', hd'.trans hd⟩
section
variable {M : Model} {A : Around} {E : Value → Shared → Prop} {s' : Shared} {base g : Heap} {outer : List Env} {L a e t dx : Addr} {od : Obj} {m : Str → Option Value} {name : Str} {scope : Scope} {cd : Value} {Q : Unit → Shared → Prop} {news : List (Addr × Obj)}
theorem leave_raiseD {vs : List Value} (K : Below A base outer g) (F : Fr g L s'.heap m) (N : News g L s'.heap ((t, { cls := .type "tuple", data := .seq vs.toArray }) :: (dx, od) :: (e, excBlank t (some dx)) :: news))
    (hne : ∀ q ∈ (dx, od) :: news, q.1 ≠ e ∧ q.1 ≠ t)
    (hQ : ∀ h', RaisedD base g outer e t vs ((dx, od) :: news) (some dx) h' → g.UpToSlots h' → Q () { s' with heap := h' }) (hk : scope.kind = .function := by rfl) :
    wpAny M (A.deeper (envOf name scope L a cd)) (leaving (envOf name scope L a cd) (.ref e)) Q E s' := by
  have K' := K.push (name := name) (a := a) (cd := cd) F hk
  generalize hfs : (envOf name scope L a cd :: outer).filterMap (·.frame) ++ [e, t] = fs
  have hin : ∀ env ∈ (envOf name scope L a cd :: outer), ∀ b, env.frame = some b → b ∈ fs := fun env he b hb => by
    rw [← hfs]; exact List.mem_append_left _ (List.mem_filterMap.mpr ⟨env, he, hb⟩)
  have het : ∀ q ∈ ([e, t] : List Addr), g.get? q = none := fun q hq => by
    rcases List.mem_cons.mp hq with rfl | hq
    · exact (N (q, excBlank t (some dx)) (.tail _ (.tail _ (.head _)))).2.2
    · rcases List.mem_cons.mp hq with rfl | hq
      · exact (N _ (.head _)).2.2
      · cases hq
  have he := (N (e, excBlank t (some dx)) (.tail _ (.tail _ (.head _)))).1
  have htt := (N _ (.head _)).1
  have st : base.StaysIn (hideAll s'.heap fs) := fun b o q => hideAll_get _ (K'.stays b o q) fun hm => by
    rw [← hfs] at hm
    rcases List.mem_append.mp hm with hm | hm
    · rw [(K'.frames.mem hm).1] at q; cases q
    · have z := K.stays b o q
      rw [het b hm] at z; cases z
  have sg : ∀ b o, g.get? b = some o → b ∉ outer.filterMap (·.frame) → (hideAll s'.heap fs).get? b = some o := fun b o q nm => hideAll_get _ (F.keep b o q) fun hm => by
    rw [← hfs] at hm
    rcases List.mem_append.mp hm with hm | hm
    · rcases kts_mem hm with z | z
      · rw [z, kts_self F] at q
        cases q
      · exact nm z
    · rw [het b hm] at q; cases q
  have hl : ∀ q ∈ (dx, od) :: news, (hideAll s'.heap fs).get? q.1 = some q.2 ∧ g.get? q.1 = none ∧ base.get? q.1 = none := fun q hq => by
    have hq' : q ∈ (t, ({ cls := .type "tuple", data := .seq vs.toArray } : Obj)) :: (dx, od) :: (e, excBlank t (some dx)) :: news := by
      rcases List.mem_cons.mp hq with rfl | hq
      · exact .tail _ (.head _)
      · exact .tail _ (.tail _ (.tail _ hq))
    refine ⟨hideAll_get _ (N q hq').1 fun hm => ?_, (N q hq').2.2, fresh_of_stays K.stays (N q hq').2.2⟩
    rw [← hfs] at hm
    rcases List.mem_append.mp hm with hm | hm
    · obtain ⟨env, he, hf⟩ := List.mem_filterMap.mp hm
      rcases List.mem_cons.mp he with rfl | he
      · exact (N q hq').2.1 (Option.some.inj hf).symm
      · obtain ⟨o, ho, _⟩ := (K.frames.mem (List.mem_filterMap.mpr ⟨env, he, hf⟩)).2
        rw [(N q hq').2.2] at ho; cases ho
    · rcases List.mem_cons.mp hm with z | hm
      · exact (hne q hq).1 z
      · rcases List.mem_cons.mp hm with z | hm
        · exact (hne q hq).2 z
        · cases hm
  have hen : (hideAll s'.heap fs).get? e = none := hideAll_none _ (by rw [← hfs]; exact List.mem_append_right _ (.head _))
  have htn : (hideAll s'.heap fs).get? t = none := hideAll_none _ (by rw [← hfs]; exact List.mem_append_right _ (.tail _ (.head _)))
  refine wpAny_mono (wpAny_tame (tame_leaving _ _) (wpAny_leaving_firstW (base := hideAll s'.heap fs) (Q := fun _ s => ∃ h', s = { s' with heap := h' } ∧ Heap.LeftW (hideAll s'.heap fs) (envOf name scope L a cd :: outer) e (.ref 133) (.ref t) s'.heap h') (E := fun _ _ => False)
    K'.stack (funFrames_hide K'.frames hin) rfl he (fun b o q => of_hideAll _ q) hen rfl rfl rfl fun h' x => ⟨h', rfl, x⟩)) (fun _ s z => ?_) fun _ _ z => z.1.elim
  obtain ⟨⟨h', rfl, x1, ⟨_, _, x2⟩, x3, x4⟩, x5⟩ := z
  refine hQ h' ⟨⟨⟨_, st, sg, hl, ⟨x1, hen, x2, x3⟩, htn⟩, Heap.TupAt.of_slots ⟨_, _, htt, rfl, rfl⟩ x4⟩, dk_of x5 ⟨_, he, rfl⟩⟩ ((Heap.UpToSlots.of_keeps F.keep).trans x4)
end
end Mine
end
section
open PySem PySem.W PyProof.Rows PySem.Calls PySem.Builtin PySem.Builtin.OSError
set_option maxRecDepth 100000
namespace Mine
theorem matches121 {M : Model} {A : Around} {E : Value → Shared → Prop} {P : Params} {h : Heap} {g : Array GenState} {d : Drawn} {t : Nat} {os : OsState} {e : Addr} {oe : Obj} {Q : Bool → Shared → Prop}
    (X : (top.heap_1 P).In h) (he : h.get? e = some oe) (hc : oe.cls = .ref 133) (q : Q true ⟨h, g, d, t, os⟩) : wpAny M A (excMatches (.ref e) (.ref 121)) Q E ⟨h, g, d, t, os⟩ := by
  have t1 : Looks M h (typeOf (.ref e)) (.ref 133) := hc ▸ (Looks.ld he).andThen .now
  have s1 : Looks M h (isSubtype (.ref 133) (.ref 121)) true := looks_subIn X (by k_is)
  have s2 : Looks M h (isSubtype (.ref 121) (.type "BaseException")) true := looks_subIn X (by k_is)
  have i1 : Looks M h (isInstance (.ref 121) (.type "tuple")) false := looks_instIn X (by k_is)
  have i2 : Looks M h (isInstance (.ref 121) (.type "type")) true := looks_instIn X (by k_is)
  have h121 := X 121 _ (by with_unfolding_all rfl)
  unfold excMatches isExcClass
  repeat lk
  exact q
section
variable {prog : Program} {w : World} {A₀ : Around} {E : Value → Shared → Prop} {s' : Shared} {P : Params} {base g g₀ G : Heap} {outer : List Env} {L a e t : Addr} {m mg mb : Str → Option Value} {name : Str} {scope : Scope} {cd : Value}
  {Q : Flow → Shared → Prop} {news : List (Addr × Obj)} {p : Program} {loose : List Str} {mean : ExcName → Option Value} {vs : List Value} {dd : Option Addr} {np pos : Pos} {n : Str} {b₀ : Stmt} {suite : List Stmt} {rest : List ExceptHandler}
theorem caught_D (R : RaisedD base G (envOf name scope L a cd :: outer) e t vs news dd s'.heap) (F : Fr g L G m) (K : Below A₀ base outer g) (hsm : G.UpToSlots s'.heap) (XB : (top.heap_1 P).In base) (TB : Top p loose mean mg mb base)
    (D : KtsDicts (outer.filterMap (·.frame)) g) (T0 : KtsTurn (outer.filterMap (·.frame)) g₀ g)
    (k : ∀ h' g' oe ws tk, KtsTurn (outer.filterMap (·.frame)) g₀ g' → Fr g' L h' (fun y => if y = n then some (.ref e) else m y) → News g' L h' ((e, oe) :: news) → oe.cls = .ref 133 → oe.data = .fields ws → oe.dict = dd → Below A₀ base outer g' → (top.heap_1 P).In g' → Top p loose mean mg mb g' → KtsDicts (outer.filterMap (·.frame)) g' →
      wpAny (model prog w) ((A₀.deeper (envOf name scope L a cd)).mark (some (.ref e))) (execs (b₀ :: suite) (envOf name scope L a cd))
        (fun f s₄ => wpAny (model prog w) (A₀.deeper (envOf name scope L a cd)) (do bindName (envOf name scope L a cd) n .none; unbindBehindTheSuite (envOf name scope L a cd) n pos) (fun _ s₅ => Q f s₅) E s₄)
        (AsSuiteRaised (model prog w) ((A₀.deeper (envOf name scope L a cd)).mark (some (.ref e))) (envOf name scope L a cd) n pos (notedBy (model prog w) ((A₀.deeper (envOf name scope L a cd)).mark (some (.ref e))) (envOf name scope L a cd) (cameBackBy (model prog w) (A₀.deeper (envOf name scope L a cd)) (envOf name scope L a cd) E)))
        { s' with heap := h', toks := tk })
    (hk : scope.kind = .function := by rfl) (hlo : (envOf name scope L a cd).kindOf n = some .local := by rfl) (hx : (envOf name scope L a cd).kindOf "SMTPResponseException" = some .globalImplicit := by rfl) :
    wpAny (model prog w) (A₀.deeper (envOf name scope L a cd)) (noteFrame (.ref e) (envOf name scope L a cd))
      (fun _ s₂ => wpAny (model prog w) (A₀.deeper (envOf name scope L a cd)) (setFlight (.ref e) none) (fun _ s₃ =>
        wpAny (model prog w) (A₀.deeper (envOf name scope L a cd)) (handleBy (.ref e) (envOf name scope L a cd) (.ExceptHandler (some (.Name "SMTPResponseException" np)) (some n) (b₀ :: suite) pos :: rest)) Q E s₃) E s₂) E s' := by
  have ex : nsIn (top.heap_1 P) mainGlobals "SMTPResponseException" = some (some (.ref 121)) := by k_is
  obtain ⟨⟨⟨B, hB, hBG, hl, hfl, hnew⟩, htup⟩, hd0⟩ := R
  have hL : B.get? L = none := by
    obtain ⟨_, ⟨L', _, hf, hn', _⟩, _⟩ := hfl.2.2.1
    obtain rfl : L = L' := Option.some.inj hf
    exact hn'
  have st1 := wpAny_tame (M := model prog w) (A := A₀.deeper (envOf name scope L a cd)) (tame_noteFrame (.ref e) (envOf name scope L a cd)) (wpAny_looks_onW (s := s') (E := fun _ _ => False)
    (Q := fun _ s => ∃ h', s = { s' with heap := h' } ∧ Heap.HeldW B (envOf name scope L a cd :: outer) e (.ref 133) (.ref t) L h' ∧ s'.heap.UpToSlots h') (Around.frames_deeper K.stack) rfl hfl fun h' x y => ⟨h', rfl, x, y⟩)
  refine wpAny_mono st1 (fun _ s z => ?_) fun _ _ z => z.1.elim
  obtain ⟨⟨h₄, rfl, hheld₄, hsm₄⟩, dk₄⟩ := z
  have hd4 := dk_of dk₄ hd0
  have st2 := wpAny_tame (M := model prog w) (A := A₀.deeper (envOf name scope L a cd)) (tame_setFlight (.ref e) none) (wpAny_landsW (s := { s' with heap := h₄ }) (E := fun _ _ => False)
    (Q := fun _ s => ∃ h', s = { s' with heap := h' } ∧ Heap.FlyingW B (envOf name scope L a cd :: outer) e (.ref 133) (.ref t) h' ∧ h₄.UpToSlots h') hheld₄ fun h' x y => ⟨h', rfl, x, y⟩)
  refine wpAny_mono st2 (fun _ s z => ?_) fun _ _ z => z.1.elim
  obtain ⟨⟨h₅, rfl, hheld, hsm₅'⟩, dk₅⟩ := z
  have hd5 := dk_of dk₅ hd4
  have hsm₅ := hsm₄.trans hsm₅'
  obtain ⟨g₅, T₅, F₅, K₅⟩ := kts_ground K F hBG hheld.1 (hsm.trans hsm₅)
  have X₅ : (top.heap_1 P).In g₅ := XB.keeps K₅.stays
  have P₅ : TopRead p loose mg mb g₅ := topRead_of (TB.keeps K₅.stays)
  obtain ⟨ob, hob, hobc⟩ := hheld.there
  refine wpAny_handleBy_cons (codeAny_handlers_test (name_K F₅ X₅ P₅ ex ?_ hk hx rfl)) (by intro q; cases q)
  refine matches121 (X₅.keeps F₅.keep) hob hobc (codeAny_handlers_suite_as ?_)
  have st3 := wpAny_tame (M := model prog w) (A := (A₀.deeper (envOf name scope L a cd)).mark (some (.ref e))) (tame_setFlight (.ref e) none) (lands_againW (s := { s' with heap := h₅ }) (E := fun _ _ => False)
    (Q := fun _ s => ∃ h', s = { s' with heap := h' } ∧ Heap.FlyingW B (envOf name scope L a cd :: outer) e (.ref 133) (.ref t) h' ∧ h₅.UpToSlots h') hheld fun h' x y => ⟨h', rfl, x, y⟩)
  refine wpAny_mono st3 (fun _ s z => ?_) fun _ _ z => z.1.elim
  obtain ⟨⟨h₆, rfl, hfl₆, hsm₆⟩, dk₆⟩ := z
  obtain ⟨oe', he6, hd6⟩ := dk_of dk₆ hd5
  obtain ⟨g₆, T₆, F₆, K₆⟩ := kts_ground K F hBG hfl₆.1 ((hsm.trans hsm₅).trans hsm₆)
  obtain ⟨oe, ws, hoe, hoec, hoed, hoe0⟩ := hfl₆.first
  rw [hoe] at he6
  obtain rfl := Option.some.inj he6
  have ne₆ : g₆.get? e = none := T₆.none_ _ (kts_fresh F hBG hfl₆.2.1 fun o ho m => by
    obtain ⟨_, o', ho', hd⟩ := K.frames.mem m
    rw [ho] at ho'
    cases ho'
    obtain ⟨sl, hs⟩ := ((hsm.trans hsm₅).trans hsm₆) _ _ (F.keep _ _ ho) hd
    rw [hoe] at hs
    cases hs
    exact hd _ hoed)
  have N₆ := News.more F₆ News.nil hoe (fun es n q => by rw [hoed] at q; cases q) ne₆
  have Nl : News g₆ L h₆ news := fun q hq => ⟨hfl₆.1 _ _ (hl q hq).1, (fun z => by have := (hl q hq).1; rw [z, hL] at this; cases this), T₆.none_ _ (kts_none F.keep (hl q hq).2.1)⟩
  have X₆ : (top.heap_1 P).In g₆ := XB.keeps K₆.stays
  have P₆ : Top p loose mean mg mb g₆ := TB.keeps K₆.stays
  have D₆ : KtsDicts (outer.filterMap (·.frame)) g₆ := D.turn T₆
  have N₇ : News g₆ L h₆ ((e, oe) :: news) := fun q hq => by
    rcases List.mem_cons.mp hq with rfl | hq
    · exact N₆ _ (.head _)
    · exact Nl q hq
  refine stN F₆ N₇ (fun h₇ F₇ N₇ => ?_) hk hlo
  exact k h₇ g₆ oe ws _ (T0.trans T₆) F₇ N₇ hoec hoed hd6 K₆ X₆ P₆ D₆
end
end Mine
end
section
open PySem PySem.W PyProof.Rows PySem.Calls PySem.Builtin PySem.Builtin.OSError PySem.Builtin.ObjectAttr
set_option maxRecDepth 100000
namespace Mine
theorem slot_bexc_ga : Slot "BaseException" "__getattribute__" "BaseException.__getattribute__" :=
  .of (owner := "BaseException") (n := "__getattribute__") (by rw [typeLookup_type, builtinLookup_eq_fast]; kernel_rfl) (by decide +kernel) (by decide +kernel) (by decide +kernel)
    (by first | exact .inl (by decide +kernel) | exact .inr (by decide +kernel)) (by rw [isSubtype_type]; kernel_rfl)
theorem bexc_ga_kind : builtinKind "BaseException.__getattribute__" = some .slot := by decide +kernel
theorem bexc_ga_split : splitId "BaseException.__getattribute__" = some ("BaseException", "__getattribute__") := by decide +kernel
section
variable {prog : Program} {w : World} {A : Around} {E : Value → Shared → Prop} {P : Params} {s : Shared} {e dx : Addr} {oe od : Obj}
theorem exc_get {name : Str} {v : Value} {expr : Bool} {Q : Value → Shared → Prop} (X : (top.heap_1 P).In s.heap) (I : InstAt s.heap e oe 133 (some od)) (hf : findObj (top.heap_1 P) 133 (some od) name = some (.value v)) (hh : handedIn v = true)
    (h : Q v { s with toks := s.toks + 1 }) : wpAny (model prog w) A (getAttr (.ref e) name expr) Q E s := by
  obtain ⟨hp, g, d, t, os⟩ := s
  dsimp only at *
  have L0 : Looks (model prog w) hp (typeOf (.ref e)) (.ref 133) := I.type
  have L1 : Looks (model prog w) hp (typeLookup (.ref 133) "__getattribute__") (some (.builtin "BaseException.__getattribute__")) := looks_findIn X (by k_is)
  have L2 : Looks (model prog w) hp (typeLookup (.ref 133) "__getattr__") none := looks_findIn X (by k_is)
  have L3 : Looks (model prog w) hp (find (.ref e) (.ref 133) name) (.value v) := looks_find X I hf
  have L4 : Looks (model prog w) hp (isInstance (.ref e) (.type "BaseException")) true := L0.andThen (looks_subIn X (by k_is))
  have L5 : Looks (model prog w) hp (bindSpecial (.builtin "BaseException.__getattribute__") (.ref e)) (.builtin "BaseException.__getattribute__", [.ref e]) := Looks.of_pure (slot_bexc_ga.bind (.ref e))
  have hb : (Value.builtin "BaseException.__getattribute__" == Value.builtin "object.__getattribute__") = false := by decide +kernel
  unfold getAttr getAttrBy
  refine wpAny_bind (wpAny_mkText (wpAny_holding (wpAny_bind (L0.at (wpAny_bind (L1.at ?_))))))
  dsimp only
  rw [hb, Bool.and_false, if_neg (by decide)]
  unfold getAttrByItsOwn hookBefore
  refine wpAny_bind ?_
  show wpAny _ _ (typeLookup (.ref 133) "__getattr__") _ _ _
  refine L2.at ?_
  refine wpAny_bind (wpAny_attempt (wpAny_holding ?_))
  unfold callGetattribute
  rw [show (expr && onTheHeap (Value.builtin "BaseException.__getattribute__")) = false from Bool.and_false _, if_neg (by decide)]
  unfold boundAndCalled
  refine wpAny_bind (L5.at ?_)
  dsimp only
  refine wpAny_call (codeAny_call_builtin slot_bexc_ga.plain PySem.F.entry_bexc_ga (@check_slot (model prog w) _ _ _ "BaseException.__getattribute__" "BaseException" "__getattribute__" (.ref e) [.str name t] [] _ bexc_ga_kind bexc_ga_split L4 (PySem.F.args_bexc_ga _ _) ?_))
  unfold Builtin.«object.__getattribute__»
  repeat lk
  show wpAny _ _ (handedOut v) _ _ _
  rw [handedOut_of hh]
  exact wpAny_pure h
end
end Mine
end
section
open PySem PySem.W PyProof.Rows PySem.Calls PySem.Builtin.Re PySem.Builtin.OSError
set_option maxRecDepth 100000
namespace Mine
section
variable {w : World} {p : Program} {loose : List Str} {mean : ExcName → Option Value} {mg mb : Str → Option Value}
  {dp un : Nat} {gd : Option (List Code)} {cn : Str} {cs : Scope} {a : Addr} {ccd : Value} {cl : List (Str × Addr)} {outer : List Env} {A₀ : Around} {base h₀ : Heap} {L : Addr} {m : Str → Option Value} {s : Shared} {Q E : Value → Shared → Prop} {news : List (Addr × Obj)}
set_option linter.unusedVariables false
theorem inOf {K : Frag} {g h : Heap} {L : Addr} {m : Str → Option Value} (F : Fr g L h m) (X : K.In g) : K.In h := X.keeps F.keep
theorem Raise_133X {prog : Program} {w : World} {A : Around} {E : Value → Shared → Prop} {P : Params} {h₀ : Heap} (X : (top.heap_1 P).In h₀) {env : Env} {e : Expr} {pos : Pos} {s : Shared} {Q : Flow → Shared → Prop} (hh : A.handled = none)
    (h : wpAny (model prog w) A (eval e env) (Raised133 P E) E s) : wpAny (model prog w) A (exec (.Raise (some e) none pos) env) Q E s := Raise_133 hh h
local macro_rules | `(tactic| walk_at "exec Raise some none") => `(tactic| (k_here; refine Raise_133X (by assumption) rfl ?_))
set_option maxHeartbeats 8000000 in
theorem moment_some (B : Below A₀ base outer h₀) (F : Fr h₀ L s.heap m) (X : (top.heap_1 w.params).In h₀) (N : News h₀ L s.heap news) (T : Top p loose mean mg mb h₀) (hk : cs.kind = .function) (hdp : dp + 10 < recursionLimit) (hun : un + 100 < cLine)
  {z : Nat} (hz : z < 576) {i : Int} (hm : zm z = some i) {tk : Tok} (hret : ∀ t h' tk', Fr h₀ L h' m → News h₀ L h' news → Q (.int i t) { s with heap := h', toks := tk' }) :
  wpAny (model PySem.Challenge.pw_xe0013_01 w) (ktrTop dp un gd cn cs L a ccd cl outer) (call (.ref 168) [.str (zt z) tk]) Q E s := by
  refine wpAny_call ?_
  k_dflt ktr_enter
  have hlen := zt_len z
  k_steps
  refine offset_call (by k_asm) (by k_asm) (by k_asm) (by k_asm) (by k_asm) rfl (by show dp + 1 + 5 < recursionLimit; lia) (by show un + 3 + 50 < cLine; lia) hz ?_
  intro v h' tk' F' N' hv
  (try dsimp only)
  (try k_fold)
  rw [hm] at hv
  cases v with
  | int j tj =>
    obtain rfl : j = i := hv
    k_steps
    exact hret _ _ _ (by k_asm) (by k_asm)
  | _ => cases hv
set_option maxHeartbeats 8000000 in
theorem moment_none (B : Below A₀ base outer h₀) (F : Fr h₀ L s.heap m) (X : (top.heap_1 w.params).In h₀) (N : News h₀ L s.heap news) (T : Top p loose mean mg mb h₀) (hk : cs.kind = .function) (hdp : dp + 10 < recursionLimit) (hun : un + 100 < cLine)
  {z : Nat} (hz : z < 576) (hm : zm z = none) {tk : Tok} (hexc : ∀ G e t dx k1 k2 t1 h' tk', Fr h₀ L G m → RaisedD base G (envX cn cs L a ccd cl :: outer) e t [.int 554 t1, .str (zt z) tk] ((dx, dictOf (excEnts w.params (zt z) k1 k2 t1 tk) 2) :: news) (some dx) h' → G.UpToSlots h' → E (.ref e) { s with heap := h', toks := tk' }) :
  wpAny (model PySem.Challenge.pw_xe0013_01 w) (ktrTop dp un gd cn cs L a ccd cl outer) (call (.ref 168) [.str (zt z) tk]) Q E s := by
  refine wpAny_call ?_
  k_dflt ktr_enter
  have hlen := zt_len z
  k_steps
  refine offset_call (by k_asm) (by k_asm) (by k_asm) (by k_asm) (by k_asm) rfl (by show dp + 1 + 5 < recursionLimit; lia) (by show un + 3 + 50 < cLine; lia) hz ?_
  intro v h' tk' F' N' hv
  (try dsimp only)
  (try k_fold)
  rw [hm] at hv
  cases v with
  | none =>
    k_steps
    refine exc_call (by k_asm) (by k_asm) (by k_asm) (by k_asm) (by k_asm) rfl (by show dp + 1 + 5 < recursionLimit; lia) (by show un + 3 + 50 < cLine; lia) ?_
    intro e tp dx k1 k2 h2 tk2 F2 N2 hn1 hn2
    (try dsimp only)
    (try k_fold)
    refine ⟨e, excBlank tp (some dx), _, rfl, (N2 _ (.tail _ (.tail _ (.head _)))).1, rfl, rfl, rfl, inOf F2 (by assumption), ?_⟩
    refine leave_raiseD (vs := [.int 554 _, .str (zt z) _]) (by assumption) F2 N2 (fun q hq => ?_) fun h' R U => ?_
    · rcases List.mem_cons.mp hq with rfl | hq
      · exact hn1
      · exact hn2 q hq
    · exact hexc _ e tp dx _ _ _ _ _ (by assumption) R U
  | _ => cases hv
end
end Mine
end
section
open PySem PySem.W PyProof.Rows PySem.Calls PyProof.Rows.LCg
set_option maxRecDepth 100000
namespace Mine
theorem sub_rfl {α : Type} {l : List α} : ∀ p ∈ l, p ∈ l := fun _ h => h
theorem sub_cons {α : Type} {a : α} {l o : List α} (h : a ∈ o) (t : ∀ p ∈ l, p ∈ o) : ∀ p ∈ a :: l, p ∈ o := List.forall_mem_cons.mpr ⟨h, t⟩
theorem sub_skip {α : Type} {a : α} {l o : List α} (t : ∀ p ∈ l, p ∈ o) : ∀ p ∈ l, p ∈ a :: o := fun p h => .tail _ (t p h)
theorem sub_app {α : Type} {l r o : List α} (h : ∀ p ∈ l, p ∈ o) (t : ∀ p ∈ r, p ∈ o) : ∀ p ∈ l ++ r, p ∈ o := fun p hp => (List.mem_append.mp hp).elim (h p) (t p)
theorem sub_inl {α : Type} {l r : List α} : ∀ p ∈ l, p ∈ l ++ r := fun _ h => List.mem_append_left _ h
theorem sub_inr {α : Type} {l r o : List α} (t : ∀ p ∈ l, p ∈ o) : ∀ p ∈ l, p ∈ r ++ o := fun p h => List.mem_append_right _ (t p h)
/-- a goal that the walk is to leave alone -/
def Hold (p : Prop) : Prop := p
theorem hold {p : Prop} (h : Hold p) : p := h
def IsLI (o : Obj) (l : Addr) (i : Nat) : Prop := o.cls = .type "list_iterator" ∧ o.data = .fields #[.ref l, .int i 0]
abbrev riObj (x left step : Int) : Obj := { cls := .type "range_iterator", dict := none, data := .fields #[rawInt x, rawInt left, rawInt step], slots := #[] }
def Off (I : Addr) (led : List (Addr × Obj)) : Prop := ∀ p ∈ led, p.1 ≠ I
section
variable {prog : Program} {w : World} {A : Around} {E : Value → Shared → Prop} {s : Shared} {h₀ : Heap} {L I l : Addr} {m : Str → Option Value} {oI : Obj} {led : List (Addr × Obj)} {i : Nat} {vs : Array Value}
theorem news_change {h h' : Heap} {o' : Obj} (N : News h₀ L h ((I, oI) :: led)) (hs : Heap.SameBut I h h') (h1 : h'.get? I = some o') (off : Off I led) : News h₀ L h' ((I, o') :: led) := fun p hp => by
  rcases List.mem_cons.mp hp with rfl | hp
  · exact ⟨h1, (N (I, oI) (.head _)).2⟩
  · exact ⟨(hs.2 _ (off p hp)).trans (N p (.tail _ hp)).1, (N p (.tail _ hp)).2⟩
theorem next_list {x : Value} {Q : Option Value → Shared → Prop} (F : Fr h₀ L s.heap m) (N : News h₀ L s.heap ((I, oI) :: led)) (hI : IsLI oI l i) (hl : s.heap.IsList l vs) (hx : vs[i]? = some x) (off : Off I led)
    (h : ∀ oI' h', IsLI oI' l (i + 1) → Fr h₀ L h' m → News h₀ L h' ((I, oI') :: led) → Q (some x) { s with heap := h' }) : wpAny (model prog w) A (pyNext (.ref I)) Q E s := by
  have z := N (I, oI) (.head _)
  refine wpAny_pyNext_list_item ⟨oI, z.1, hI⟩ hl hx fun h' hit hs => ?_
  refine shut fun X hX => ?_
  obtain ⟨o', ho', hI'⟩ := hit
  refine hX ?_
  clear hX X
  exact h o' h' hI' (F.change hs z.2.1 z.2.2) (news_change N hs ho' off)
theorem end_list {Q : Option Value → Shared → Prop} (hh : A.handled = none) (F : Fr h₀ L s.heap m) (N : News h₀ L s.heap ((I, oI) :: led)) (hI : IsLI oI l i) (hl : s.heap.IsList l vs) (hx : vs[i]? = none) (off : Off I led)
    (h : ∀ h', Fr h₀ L h' m → News h₀ L h' led → Q none { s with heap := h' }) : wpAny (model prog w) A (pyNext (.ref I)) Q E s := by
  have z := N (I, oI) (.head _)
  refine wpAny_pyNext_list_end hh ⟨oI, z.1, hI⟩ hl hx fun h' hs => ?_
  have hL : L ≠ I := Ne.symm z.2.1
  refine h h' ⟨F.ns.at' fun o e => hs _ _ hL e, fun b o e => hs b o (fun q => ?_) (F.keep b o e), F.above⟩ fun p hp => ⟨hs _ _ (off p hp) (N p (.tail _ hp)).1, (N p (.tail _ hp)).2⟩
  have z' := z.2.2
  rw [← q, e] at z'; cases z'
theorem iter_list {Q : Value → Shared → Prop} (F : Fr h₀ L s.heap m) (N : News h₀ L s.heap led) (hl : s.heap.IsList l vs)
    (h : ∀ I oI h', IsLI oI l 0 → Fr h₀ L h' m → News h₀ L h' ((I, oI) :: led) → (∀ p ∈ led, p.1 < I) → l < I → Q (.ref I) { s with heap := h' }) : wpAny (model prog w) A (pyIter (.ref l)) Q E s := by
  refine wpAny_pyIter_list hl (h _ _ _ ⟨rfl, rfl⟩ (F.push _) (N.push F _) (fun p hp => Heap.lt_size (N p hp).1) ?_)
  refine shut fun X hX => ?_
  obtain ⟨_, ho, _⟩ := hl
  refine hX ?_
  clear hX X
  exact Heap.lt_size ho
theorem next_range {x left step : Int} {Q : Option Value → Shared → Prop} (F : Fr h₀ L s.heap m) (N : News h₀ L s.heap ((I, riObj x left step) :: led)) (hlt : 0 < left) (off : Off I led)
    (h : ∀ h', Fr h₀ L h' m → News h₀ L h' ((I, riObj (x + step) (left - 1) step) :: led) → Q (some (.int x s.toks)) { s with heap := h', toks := s.toks + 1 }) : wpAny (model prog w) A (pyNext (.ref I)) Q E s := by
  have z := N _ (.head _)
  refine wpAny_pyNext_range_item z.1 hlt fun h' hit hs => ?_
  exact h h' (F.change hs z.2.1 z.2.2) (news_change N hs hit off)
theorem end_range {x left step : Int} {Q : Option Value → Shared → Prop} (hh : A.handled = none) (F : Fr h₀ L s.heap m) (N : News h₀ L s.heap ((I, riObj x left step) :: led)) (hlt : left ≤ 0) (off : Off I led)
    (h : ∀ h', Fr h₀ L h' m → News h₀ L h' led → Q none { s with heap := h' }) : wpAny (model prog w) A (pyNext (.ref I)) Q E s := by
  have z := N _ (.head _)
  refine wpAny_pyNext_range_end hh z.1 hlt fun h' hs => ?_
  have hL : L ≠ I := Ne.symm z.2.1
  refine h h' ⟨F.ns.at' fun o e => hs _ _ hL e, fun b o e => hs b o (fun q => ?_) (F.keep b o e), F.above⟩ fun p hp => ⟨hs _ _ (off p hp) (N p (.tail _ hp)).1, (N p (.tail _ hp)).2⟩
  have z' := z.2.2
  rw [← q, e] at z'; cases z'
theorem iter_range {r : Addr} {a b c : Int} {t u v : Tok} {Q : Value → Shared → Prop} (F : Fr h₀ L s.heap m) (N : News h₀ L s.heap led) (hr : IsRange s.heap r a b c t u v) (hs : Builtin.Range.small a b c = true)
    (h : ∀ I h', Fr h₀ L h' m → News h₀ L h' ((I, riObj a (Builtin.Range.rangeSize a b c) c) :: led) → (∀ p ∈ led, p.1 < I) → Q (.ref I) { s with heap := h' }) : wpAny (model prog w) A (pyIter (.ref r)) Q E s :=
  wpAny_pyIter_range hr hs (h _ _ (F.push _) (N.push F _) (fun p hp => Heap.lt_size (N p hp).1))
/-- a loop, its body walked once: the invariant may speak of anything -/
theorem for_own {env : Env} {x : Str} {px pos : Pos} {iter : Expr} {body : List Stmt} {Q : Flow → Shared → Prop} (n : Nat) (Inv : Nat → Addr → Shared → Prop)
    (start : wpAny (model prog w) A (eval iter env) (fun xv s₁ => wpAny (model prog w) A (pyIter xv) (fun it s₂ => ∃ I, it = .ref I ∧ Inv 0 I s₂) E s₁) E s)
    (turn : ∀ i I s, i < n → Inv i I s → wpAny (model prog w) A (pyNext (.ref I)) (fun r s₁ => ∃ v, r = some v ∧ wpAny (model prog w) A (storeName env x v) (fun _ s₂ => wpAny (model prog w) A (execs body env) (fun f s₃ => match f with
        | .next | .cont => Inv (i + 1) I s₃
        | .brk => Q .next s₃
        | .ret v => Q (.ret v) s₃) E s₂) E s₁) E s)
    (fin : ∀ I s, Inv n I s → wpAny (model prog w) A (pyNext (.ref I)) (fun r s₁ => r = none ∧ Q .next s₁) E s)
    (hs : ∀ x, foldedSetIterable iter env x = pure x := by intro _; rfl)
    (hE : PassesOwn (model prog w) A env E := by passes_own) :
    wpAny (model prog w) A (exec (.For (.Name x px) iter body [] pos) env) Q E s := by
  refine wpAny_For (wpAny_mono start (fun xv s₁ h₁ => wpAny_mono h₁ (fun it s₂ h₂ => ?_) fun _ _ e => e) fun _ _ e => e) hs
  refine shut fun X hX => ?_
  obtain ⟨I, rfl, h0⟩ := h₂
  refine hX ?_
  clear hX X
  refine codeAny_forLoop (fun k s' => ∃ i, i ≤ n ∧ k = n - i ∧ Inv i I s') ?_ n ⟨0, Nat.zero_le _, rfl, h0⟩
  intro k s' hJ0
  refine shut fun X hX => ?_
  obtain ⟨i, hi, rfl, hI⟩ := hJ0
  refine hX ?_
  clear hX X
  by_cases hlt : i < n
  · refine wpAny_mono (wpAny_passesOwn hE (turn i I s' hlt hI)) (fun r s₁ h₁ => ?_) fun _ _ e => e
    refine shut fun X hX => ?_
    obtain ⟨v, rfl, h₁⟩ := h₁
    refine hX ?_
    clear hX X
    refine wpAny_assign_Name (wpAny_mono (wpAny_passesOwn hE h₁) (fun _ s₂ h₂ => wpAny_mono (wpAny_passesOwn hE h₂) (fun f s₃ h₃ => ?_) fun _ _ e => e) fun _ _ e => e)
    cases f with
    | next => exact ⟨n - (i + 1), by lia, i + 1, hlt, rfl, h₃⟩
    | cont => exact ⟨n - (i + 1), by lia, i + 1, hlt, rfl, h₃⟩
    | brk => exact h₃
    | ret v => exact h₃
  · obtain rfl : i = n := by lia
    refine wpAny_mono (wpAny_passesOwn hE (fin I s' hI)) (fun r s₁ h₁ => ?_) fun _ _ e => e
    obtain ⟨rfl, h₁⟩ := h₁
    exact wpAny_execs_nil h₁
/-- where a turn of a loop may end: P behind the turn, Q behind the loop -/
def LoopB (P : Shared → Prop) (Q : Flow → Shared → Prop) (f : Flow) (s : Shared) : Prop := match f with
  | .next | .cont => P s
  | .brk => Q .next s
  | .ret v => Q (.ret v) s
/-- where a turn of a loop ends: same base, same iterator, the invariant one further -/
def TurnEnd (h₀ : Heap) (L I : Addr) (oI : Obj) (s : Shared) (J : (Str → Option Value) → List (Addr × Obj) → Prop) (s₃ : Shared) : Prop :=
  ∃ h tk m led, s₃ = { s with heap := h, toks := tk } ∧ Fr h₀ L h m ∧ News h₀ L h ((I, oI) :: led) ∧ Off I led ∧ J m led
theorem TurnEnd.mk {h₀ : Heap} {L I : Addr} {oI : Obj} {s : Shared} {J : (Str → Option Value) → List (Addr × Obj) → Prop} {h : Heap} {tk : Tok} {m : Str → Option Value} {led : List (Addr × Obj)} (F : Fr h₀ L h m) (N : News h₀ L h ((I, oI) :: led)) (off : Off I led) (hJ : J m led) :
    TurnEnd h₀ L I oI s J { s with heap := h, toks := tk } := ⟨h, tk, m, led, rfl, F, N, off, hJ⟩
def RangeStart (h₀ : Heap) (L : Addr) (a b : Int) (s : Shared) (J : (Str → Option Value) → List (Addr × Obj) → Prop) (xv : Value) (s₁ : Shared) : Prop :=
  ∃ r t u v h tk m led, xv = .ref r ∧ s₁ = { s with heap := h, toks := tk } ∧ IsRange h r a b 1 t u v ∧ Fr h₀ L h m ∧ News h₀ L h led ∧ J m led
theorem RangeStart.mk {h₀ : Heap} {L r : Addr} {a b : Int} {s : Shared} {J : (Str → Option Value) → List (Addr × Obj) → Prop} {t u v tk : Tok} {h : Heap} {m : Str → Option Value} {led : List (Addr × Obj)} (R : IsRange h r a b 1 t u v) (F : Fr h₀ L h m) (N : News h₀ L h led) (hJ : J m led) :
    RangeStart h₀ L a b s J (.ref r) { s with heap := h, toks := tk } := ⟨r, t, u, v, h, tk, m, led, rfl, rfl, R, F, N, hJ⟩
def ListStart (h₀ : Heap) (L l : Addr) (s : Shared) (J : (Str → Option Value) → List (Addr × Obj) → Prop) (xv : Value) (s₁ : Shared) : Prop :=
  ∃ h tk m led, xv = .ref l ∧ s₁ = { s with heap := h, toks := tk } ∧ Fr h₀ L h m ∧ News h₀ L h led ∧ J m led
theorem ListStart.mk {h₀ : Heap} {L l : Addr} {s : Shared} {J : (Str → Option Value) → List (Addr × Obj) → Prop} {tk : Tok} {h : Heap} {m : Str → Option Value} {led : List (Addr × Obj)} (F : Fr h₀ L h m) (N : News h₀ L h led) (hJ : J m led) :
    ListStart h₀ L l s J (.ref l) { s with heap := h, toks := tk } := ⟨h, tk, m, led, rfl, rfl, F, N, hJ⟩
section
variable {env : Env} {x : Str} {px pos : Pos} {iter : Expr} {body : List Stmt} {Q : Flow → Shared → Prop}
theorem for_rangeK {m₀ : Str → Option Value} (_F₀ : Fr h₀ env.locals s.heap m₀) {a b : Int} (hlo : 0 ≤ a) (hb : 0 ≤ b) (hlo' : a ≤ 1000000) (hb' : b ≤ 1000000) (n : Nat) (hn : (b - a).toNat = n) (J : Nat → (Str → Option Value) → List (Addr × Obj) → Prop) (hh : A.handled = none)
    (start : wpAny (model prog w) A (eval iter env) (RangeStart h₀ env.locals a b s (J 0)) E s)
    (turn : ∀ i I oI (TB : Flow → Shared → Prop), (∀ f s₃, LoopB (TurnEnd h₀ env.locals I oI s (J (i + 1))) Q f s₃ → TB f s₃) → ∀ m led h tk t, i < n → oI.cls = .type "range_iterator" → J i m led → Off I led → Fr h₀ env.locals h (fun y => if y = x then some (.int (a + (i : Int)) t) else m y) → News h₀ env.locals h ((I, oI) :: led) →
      wpAny (model prog w) A (execs body env) TB E { s with heap := h, toks := tk })
    (fin : ∀ m led h tk, J n m led → Fr h₀ env.locals h m → News h₀ env.locals h led → Q .next { s with heap := h, toks := tk })
    (hx : env.kindOf x = some .local) (hp : (env.scope.kind == .class || (env.scope.kind == .module && env.locals != env.globals)) = false)
    (hs : ∀ x, foldedSetIterable iter env x = pure x := by intro _; rfl)
    (hE : PassesOwn (model prog w) A env E := by passes_own) :
    wpAny (model prog w) A (exec (.For (.Name x px) iter body [] pos) env) Q E s := by
  refine for_own n (fun i I s' => ∃ h tk m led, s' = { s with heap := h, toks := tk } ∧ Fr h₀ env.locals h m ∧ News h₀ env.locals h ((I, riObj (a + (i : Int)) ((n : Int) - (i : Int)) 1) :: led) ∧ Off I led ∧ J i m led) ?_ ?_ ?_ hs hE
  · refine wpAny_mono start (fun xv s₁ z => ?_) fun _ _ z => z
    refine shut fun X hX => ?_
    obtain ⟨r, t, u, v, h, tk, m, led, rfl, rfl, R, F, N, hJ⟩ := z
    refine hX ?_
    clear hX X
    refine iter_range F N R (small_one (by omega) (by omega) (by omega) (by omega)) fun I h' F' N' lt => ⟨I, rfl, h', tk, m, led, rfl, F', ?_, fun p hp => Nat.ne_of_lt (lt p hp), hJ⟩
    rw [rangeSize_nat, hn] at N'
    simpa using N'
  · intro i I _ hi hJ0
    refine shut fun X hX => ?_
    obtain ⟨h, tk, m, led, rfl, F, N, off, hJ⟩ := hJ0
    refine hX ?_
    clear hX X
    refine next_range F N (by omega) off fun h' F' N' => ⟨_, rfl, ?_⟩
    have z := N' _ (.head _)
    refine wpAny_storeName_local hx F'.ns (fun h₂ hn₂ hs₂ => ?_) hp
    refine wpAny_mono (turn i I _ _ (fun _ _ h => h) m led h₂ _ _ hi rfl hJ off (F'.set hn₂ hs₂) (N'.set hs₂)) (fun f s₃ h₃ => ?_) fun _ _ e => e
    have go : TurnEnd h₀ env.locals I (riObj (a + (i : Int) + 1) ((n : Int) - (i : Int) - 1) 1) s (J (i + 1)) s₃ → ∃ h tk m led, s₃ = { s with heap := h, toks := tk } ∧ Fr h₀ env.locals h m ∧ News h₀ env.locals h ((I, riObj (a + ((i + 1 : Nat) : Int)) ((n : Int) - ((i + 1 : Nat) : Int)) 1) :: led) ∧ Off I led ∧ J (i + 1) m led := by
      intro hJ0
      refine shut fun X hX => ?_
      obtain ⟨h, tk, m, led, rfl, F, N, off, hJ⟩ := hJ0
      refine hX ?_
      clear hX X
      refine ⟨h, tk, m, led, rfl, F, ?_, off, hJ⟩
      rw [show a + ((i + 1 : Nat) : Int) = a + (i : Int) + 1 by omega, show (n : Int) - ((i + 1 : Nat) : Int) = (n : Int) - (i : Int) - 1 by omega]
      exact N
    cases f with
    | next => exact go h₃
    | cont => exact go h₃
    | brk => exact h₃
    | ret v => exact h₃
  · intro I _ hJ0
    refine shut fun X hX => ?_
    obtain ⟨h, tk, m, led, rfl, F, N, off, hJ⟩ := hJ0
    refine hX ?_
    clear hX X
    exact end_range hh F N (by omega) off fun h' F' N' => ⟨rfl, fin m led h' tk hJ F' N'⟩
theorem for_range {m₀ : Str → Option Value} (_F₀ : Fr h₀ env.locals s.heap m₀) {a b : Int} (hlo : 0 ≤ a) (hb : 0 ≤ b) (hlo' : a ≤ 1000000) (hb' : b ≤ 1000000) (n : Nat) (hn : (b - a).toNat = n) (J : Nat → (Str → Option Value) → List (Addr × Obj) → Prop) (hh : A.handled = none)
    (start : wpAny (model prog w) A (eval iter env) (RangeStart h₀ env.locals a b s (J 0)) E s)
    (turn : ∀ i I oI (TB : Flow → Shared → Prop), (∀ f s₃, LoopB (TurnEnd h₀ env.locals I oI s (J (i + 1))) Q f s₃ → TB f s₃) → ∀ m led h tk t, i < n → J i m led → Off I led → Fr h₀ env.locals h (fun y => if y = x then some (.int (a + (i : Int)) t) else m y) → News h₀ env.locals h ((I, oI) :: led) →
      wpAny (model prog w) A (execs body env) TB E { s with heap := h, toks := tk })
    (fin : ∀ m led h tk, J n m led → Fr h₀ env.locals h m → News h₀ env.locals h led → Q .next { s with heap := h, toks := tk })
    (hx : env.kindOf x = some .local) (hp : (env.scope.kind == .class || (env.scope.kind == .module && env.locals != env.globals)) = false)
    (hs : ∀ x, foldedSetIterable iter env x = pure x := by intro _; rfl)
    (hE : PassesOwn (model prog w) A env E := by passes_own) :
    wpAny (model prog w) A (exec (.For (.Name x px) iter body [] pos) env) Q E s :=
  for_rangeK _F₀ hlo hb hlo' hb' n hn J hh start (fun i I oI TB hTB m led h tk t hi _ => turn i I oI TB hTB m led h tk t hi) fin hx hp hs hE
theorem for_list {m₀ : Str → Option Value} (_F₀ : Fr h₀ env.locals s.heap m₀) {l : Addr} {vs : Array Value} (n : Nat) (hn : vs.size = n) (J : Nat → (Str → Option Value) → List (Addr × Obj) → Prop) (hh : A.handled = none)
    (hl : ∀ i m led h, J i m led → Fr h₀ env.locals h m → News h₀ env.locals h led → h.IsList l vs)
    (start : wpAny (model prog w) A (eval iter env) (ListStart h₀ env.locals l s (J 0)) E s)
    (turn : ∀ i I oI (TB : Flow → Shared → Prop), (∀ f s₃, LoopB (TurnEnd h₀ env.locals I oI s (J (i + 1))) Q f s₃ → TB f s₃) → ∀ m led h tk v, i < n → vs[i]? = some v → J i m led → Off I led → Fr h₀ env.locals h (fun y => if y = x then some v else m y) → News h₀ env.locals h ((I, oI) :: led) →
      wpAny (model prog w) A (execs body env) TB E { s with heap := h, toks := tk })
    (fin : ∀ m led h tk, J n m led → Fr h₀ env.locals h m → News h₀ env.locals h led → Q .next { s with heap := h, toks := tk })
    (hx : env.kindOf x = some .local) (hp : (env.scope.kind == .class || (env.scope.kind == .module && env.locals != env.globals)) = false)
    (hs : ∀ x, foldedSetIterable iter env x = pure x := by intro _; rfl)
    (hE : PassesOwn (model prog w) A env E := by passes_own) :
    wpAny (model prog w) A (exec (.For (.Name x px) iter body [] pos) env) Q E s := by
  refine for_own n (fun i I s' => ∃ oI h tk m led, s' = { s with heap := h, toks := tk } ∧ IsLI oI l i ∧ Fr h₀ env.locals h m ∧ News h₀ env.locals h ((I, oI) :: led) ∧ Off I led ∧ J i m led) ?_ ?_ ?_ hs hE
  · refine wpAny_mono start (fun xv s₁ z => ?_) fun _ _ z => z
    refine shut fun X hX => ?_
    obtain ⟨h, tk, m, led, rfl, rfl, F, N, hJ⟩ := z
    refine hX ?_
    clear hX X
    exact iter_list F N (hl _ _ _ _ hJ F N) fun I oI h' hI F' N' lt _ => ⟨I, rfl, oI, h', tk, m, led, rfl, hI, F', N', fun p hp => Nat.ne_of_lt (lt p hp), hJ⟩
  · intro i I _ hi hJ0
    refine shut fun X hX => ?_
    obtain ⟨oI, h, tk, m, led, rfl, hI, F, N, off, hJ⟩ := hJ0
    refine hX ?_
    clear hX X
    have hv : vs[i]? = some vs[i] := by simp [hn, hi]
    refine next_list F N hI (hl _ _ _ _ hJ F fun p hp => N p (.tail _ hp)) hv off fun oI' h' hI' F' N' => ⟨_, rfl, ?_⟩
    refine wpAny_storeName_local hx F'.ns (fun h₂ hn₂ hs₂ => ?_) hp
    refine wpAny_mono (turn i I oI' _ (fun _ _ h => h) m led h₂ _ _ hi hv hJ off (F'.set hn₂ hs₂) (N'.set hs₂)) (fun f s₃ h₃ => ?_) fun _ _ e => e
    have go : TurnEnd h₀ env.locals I oI' s (J (i + 1)) s₃ → ∃ oI h tk m led, s₃ = { s with heap := h, toks := tk } ∧ IsLI oI l (i + 1) ∧ Fr h₀ env.locals h m ∧ News h₀ env.locals h ((I, oI) :: led) ∧ Off I led ∧ J (i + 1) m led := by
      intro hJ0
      refine shut fun X hX => ?_
      obtain ⟨h, tk, m, led, rfl, F, N, off, hJ⟩ := hJ0
      refine hX ?_
      clear hX X
      exact ⟨oI', h, tk, m, led, rfl, hI', F, N, off, hJ⟩
    cases f with
    | next => exact go h₃
    | cont => exact go h₃
    | brk => exact h₃
    | ret v => exact h₃
  · intro I _ hJ0
    refine shut fun X hX => ?_
    obtain ⟨oI, h, tk, m, led, rfl, hI, F, N, off, hJ⟩ := hJ0
    refine hX ?_
    clear hX X
    exact end_list hh F N hI (hl _ _ _ _ hJ F fun p hp => N p (.tail _ hp)) (by simp [hn]) off fun h' F' N' => ⟨rfl, fin m led h' tk hJ F' N'⟩
end
end
end Mine
namespace Mine
theorem menu0 {k : Int} {a : Value} {l : List Value} (h : k.toNat = 0) : (a :: l).toArray[k.toNat]? = some a := by rw [h]; simp
theorem menu1 {k : Int} {a b : Value} {l : List Value} (h : k.toNat = 1) : (a :: b :: l).toArray[k.toNat]? = some b := by rw [h]; simp
theorem menu2 {k : Int} {a b c : Value} {l : List Value} (h : k.toNat = 2) : (a :: b :: c :: l).toArray[k.toNat]? = some c := by rw [h]; simp
theorem menu3 {k : Int} {a b c d : Value} {l : List Value} (h : k.toNat = 3) : (a :: b :: c :: d :: l).toArray[k.toNat]? = some d := by rw [h]; simp
end Mine
namespace Mine
theorem new_toks {α : Type} {M : Model} {A : Around} {t : Sem α} {Q : α → Shared → Prop} {E : Value → Shared → Prop} {s : Shared} (h : ∀ tk, wpAny M A t Q E { s with toks := tk }) : wpAny M A t Q E s := h s.toks
theorem iadd_small {prog : Program} {w : World} {A : Around} {E : Value → Shared → Prop} {s : Shared} {x y : PySem.Str} {t u : Tok} {Q : Value → Shared → Prop} (hx : x.length ≤ 1000) (hy : y.length ≤ 1000) (h : ∀ t' tk, Q (.str (x ++ y) t') { s with toks := tk }) :
    wpAny (model prog w) A (inplaceOp .Add (.str x t) (.str y u)) Q E s := PyProof.Rows.iadd_str h (by show _ ≤ 2 ^ 24; lia)
end Mine
namespace Mine
def M3 (k : Int) (e a b c : PySem.Str) : Prop := (k = 0 → e = a) ∧ (k = 1 → e = b) ∧ (k = 2 → e = c)
theorem item_menu3 {prog : Program} {w : World} {A : Around} {E : Value → Shared → Prop} {s : Shared} {value slice : Expr} {l : Addr} {k : Int} {u : Tok} {a b c e : PySem.Str} {ta tb tc : Tok} {Q : Value → Shared → Prop} (hl : s.heap.IsList l [.str a ta, .str b tb, .str c tc].toArray)
    (hk : 0 ≤ k ∧ k < 3) (he : M3 k e a b c) (h : ∀ t, Q (.str e t) s)
    (hs : subscripted slice false (.ref l) (.int k u) = operate [.ref l, .int k u] (getItem (.ref l) (.int k u)) := by with_unfolding_all rfl) (hg : ∀ r, letTemporaryGo value (.ref l) r = pure () := by intro _; with_unfolding_all rfl) :
    wpAny (model prog w) A (subscriptTail value slice (.ref l) (.int k u)) Q E s := by
  have hc : k = 0 ∨ k = 1 ∨ k = 2 := by lia
  rcases hc with hc | hc | hc
  · rw [he.1 hc] at h; exact item_list hl hk.1 (by lia) (menu0 (by lia)) (h _) hs hg
  · rw [he.2.1 hc] at h; exact item_list hl hk.1 (by lia) (menu1 (by lia)) (h _) hs hg
  · rw [he.2.2 hc] at h; exact item_list hl hk.1 (by lia) (menu2 (by lia)) (h _) hs hg
end Mine
end
section
open PySem PySem.W PyProof.Rows
set_option maxRecDepth 100000
namespace Mine
/-- the list of values is the words of these zones -/
noncomputable def Ws : List Value → List Nat → Prop
  | [], [] => True
  | v :: xs, z :: zs => (∃ t, v = .str (zt z) t) ∧ z < 576 ∧ Ws xs zs
  | _, _ => False
theorem Ws.len : ∀ {xs : List Value} {zs : List Nat}, Ws xs zs → xs.length = zs.length
  | [], [], _ => rfl
  | _ :: _, _ :: _, h => congrArg (· + 1) (Ws.len h.2.2)
theorem Ws.at : ∀ {xs : List Value} {zs : List Nat}, Ws xs zs → ∀ i, i < zs.length → ∃ z t, zs[i]? = some z ∧ z < 576 ∧ xs[i]? = some (.str (zt z) t)
  | [], [], _, _, h => absurd h (Nat.not_lt_zero _)
  | _ :: _, z :: _, ⟨⟨t, rfl⟩, hz, _⟩, 0, _ => ⟨z, t, rfl, hz, rfl⟩
  | _ :: _, _ :: _, ⟨_, _, h⟩, i + 1, hi => by
    obtain ⟨z, t, h1, h2, h3⟩ := Ws.at h i (Nat.lt_of_succ_lt_succ hi)
    exact ⟨z, t, by simpa using h1, h2, by simpa using h3⟩
theorem Ws.snoc : ∀ {xs : List Value} {zs : List Nat}, Ws xs zs → ∀ z t, z < 576 → Ws (xs ++ [.str (zt z) t]) (zs ++ [z])
  | [], [], _, z, t, hz => ⟨⟨t, rfl⟩, hz, trivial⟩
  | _ :: _, _ :: _, ⟨h1, h2, h3⟩, z, t, hz => ⟨h1, h2, Ws.snoc h3 z t hz⟩
theorem Ws.lt : ∀ {xs : List Value} {zs : List Nat}, Ws xs zs → ∀ z ∈ zs, z < 576
  | [], [], _, _, h => nomatch h
  | _ :: _, _ :: _, ⟨_, h2, _⟩, _, .head _ => h2
  | _ :: _, _ :: _, ⟨_, _, h3⟩, z, .tail _ h => Ws.lt h3 z h
def eolOf (k : Nat) : List Nat := if k % 3 = 0 then [10] else if k % 3 = 1 then [13] else [13, 10]
noncomputable def segsOf (r : Nat) : List Nat → List (List Nat × List Nat)
  | [] => []
  | z :: zs => (zcps z, eolOf r) :: segsOf (r + 1) zs
theorem zcps_ne (z : Nat) : zcps z ≠ [] := by
  unfold zcps zHour zName zBad
  (repeat' split) <;> simp
theorem zcps_clean : ∀ z < 576, ∀ c ∈ zcps z, c ≠ 10 ∧ c ≠ 13 := by decide +kernel
theorem eolOf_is (k : Nat) : isEol (eolOf k) := by
  unfold eolOf isEol
  (repeat' split) <;> simp
theorem eolOf_len (k : Nat) : (eolOf k).length ≤ 2 := by
  unfold eolOf
  (repeat' split) <;> simp
theorem zcps_len (z : Nat) : (zcps z).length ≤ 7 := by have := zt_len z; simpa [zt, Str.length] using this
theorem segsOf_segs : ∀ (zs : List Nat) (r : Nat), (∀ z ∈ zs, z < 576) → Segs (segsOf r zs)
  | [], _, _ => fun _ hp => nomatch hp
  | z :: zs, r, h => fun p hp => by
    rcases List.mem_cons.mp hp with rfl | hp
    · exact ⟨⟨zcps_ne z, zcps_clean z (h z (.head _))⟩, eolOf_is r⟩
    · exact segsOf_segs zs (r + 1) (fun z hz => h z (.tail _ hz)) p hp
theorem segsOf_len : ∀ (zs : List Nat) (r : Nat), (segsOf r zs).length = zs.length
  | [], _ => rfl
  | _ :: zs, r => congrArg (· + 1) (segsOf_len zs (r + 1))
theorem segsOf_cps : ∀ (zs : List Nat) (r : Nat), (segCps (segsOf r zs)).length ≤ 9 * zs.length
  | [], _ => Nat.le_refl _
  | z :: zs, r => by
    have := segsOf_cps zs (r + 1)
    have := zcps_len z
    have := eolOf_len r
    simp only [segsOf, segCps, List.length_append, List.length_cons]
    lia
theorem segsOf_sum : ∀ (zs : List Nat) (r : Nat), ((wSub (segsOf r zs)).map (·.length)).sum ≤ 9 * zs.length
  | [], _ => Nat.le_refl _
  | z :: zs, r => by
    have := segsOf_sum zs (r + 1)
    have := zcps_len z
    have h2 : (crlf : Str).length = 2 := rfl
    have h3 : (⟨(zcps z).toArray⟩ : Str).length = (zcps z).length := by simp [Str.length]
    simp only [segsOf, wSub, List.map_cons, List.sum_cons, List.length_cons, h2, h3]
    lia
theorem segsOf_snoc : ∀ (zs : List Nat) (r z : Nat), segCps (segsOf r (zs ++ [z])) = segCps (segsOf r zs) ++ (zcps z ++ eolOf (r + zs.length))
  | [], r, z => by simp [segsOf, segCps]
  | y :: zs, r, z => by
    have := segsOf_snoc zs (r + 1) z
    simp only [List.cons_append, segsOf, segCps, this, List.append_assoc, List.length_cons]
    rw [show r + 1 + zs.length = r + (zs.length + 1) by lia]
/-- the mail so far -/
noncomputable def mailOf (r : Nat) (zs : List Nat) : Str := ⟨(segCps (segsOf r zs)).toArray⟩
theorem mailOf_len (r : Nat) (zs : List Nat) : (mailOf r zs).length ≤ 9 * zs.length := by
  have := segsOf_cps zs r
  simpa [mailOf, Str.length] using this
theorem take_succ {zs : List Nat} {i z : Nat} (h : zs[i]? = some z) : zs.take (i + 1) = zs.take i ++ [z] := by
  rw [List.take_add_one, h]; rfl
end Mine
namespace Mine
def eolS (k : Nat) : PySem.Str := ⟨(eolOf k).toArray⟩
theorem eolS_menu {k : Int} {r : Nat} (h : k = ((r % 3 : Nat) : Int)) : M3 k (eolS r) "\n" "\r" "\r\n" := by
  unfold eolS eolOf
  refine ⟨fun e => ?_, fun e => ?_, fun e => ?_⟩
  · rw [if_pos (by lia)]; rfl
  · rw [if_neg (by lia), if_pos (by lia)]; rfl
  · rw [if_neg (by lia), if_neg (by lia)]; rfl
theorem eolS_len (k : Nat) : (eolS k).length ≤ 2 := by have := eolOf_len k; simpa [eolS, PySem.Str.length] using this
/-- texts cut: the list's words -/
theorem ws_cut : ∀ (l : List (PySem.Str × Tok)) (zs : List Nat), (∀ z ∈ zs, z < 576) → l.map (·.1) = zs.map zt ++ [⟨#[]⟩] → Ws ((strValues l).take zs.length) zs
  | _, [], _, _ => by simp [Ws]
  | [], z :: zs, _, h => by simp at h
  | p :: l, z :: zs, hz, h => by
    simp only [List.map_cons, List.cons_append, List.cons.injEq] at h
    exact ⟨⟨p.2, congrArg (Value.str · p.2) h.1⟩, hz z (.head _), ws_cut l zs (fun y hy => hz y (.tail _ hy)) h.2⟩
theorem cut_last (l : List (PySem.Str × Tok)) (zs : List Nat) (h : l.map (·.1) = zs.map zt ++ [⟨#[]⟩]) : slicePick (strValues l).toArray none (some (-1)) none = ((strValues l).take zs.length).toArray := by
  have e := congrArg List.length h
  simp only [List.length_map, List.length_append, List.length_singleton] at e
  rw [show (-1 : Int) = -((1 : Nat) : Int) from rfl, slicePick_butLast _ 1 (Nat.le_refl _)]
  rw [List.size_toArray, show (strValues l).length - 1 = zs.length by simp only [strValues, List.length_map]; lia]
end Mine
end
section
namespace Mine
/-- one word in a round: line and told -/
def stepL {α : Type} (key : α → Int) (s : List α × List α) (w : α) : List α × List α :=
  if s.1.all (fun u => decide (key u ≤ key w)) then (s.1 ++ [w], s.2)
  else (s.1.filter (fun u => decide (key w < key u)), s.2 ++ (s.1.filter (fun u => decide (key u ≤ key w)) ++ [w]))
def rnd {α : Type} (key : α → Int) (l : List α) : List α :=
  (l.foldl (stepL key) ([], [])).2 ++ (l.foldl (stepL key) ([], [])).1
def Ah (a : Nat → Int) (f : Nat → Nat) (r i j : Nat) : Prop := a i ≤ a j ∨ ∃ z, z < j ∧ a i ≤ a z ∧ r < f z
def Aw (a : Nat → Int) (f : Nat → Nat) (r x y : Nat) : Prop := (x < y → Ah a f r x y) ∧ (y < x → ¬ Ah a f r y x)
structure RInv (a : Nat → Int) (f : Nat → Nat) (r : Nat) (p : List Nat) (s : List Nat × List Nat) : Prop where
  perm : (s.2 ++ s.1).Perm p
  pw : (s.2 ++ s.1).Pairwise (Aw a f (r + 1))
  so : s.1.Pairwise (fun x y => a x ≤ a y)
  ml : ∀ x ∈ p, (x ∈ s.1 ↔ ∀ z ∈ p, r + 1 < f z → a z < a x)
  mx : ∀ x ∈ p, ∃ u ∈ s.1, a x ≤ a u
theorem fore {R : Nat → Nat → Prop} {p rest : List Nat} {w u : Nat} (h : (p ++ w :: rest).Pairwise R) (hu : u ∈ p ++ w :: rest) (hne : u ≠ w)
    (hr : ¬ R w u) : u ∈ p := by
  rw [List.pairwise_append, List.pairwise_cons] at h
  simp only [List.mem_append, List.mem_cons] at hu
  rcases hu with hu | hu | hu
  · exact hu
  · exact absurd hu hne
  · exact absurd (h.2.1.1 u hu) hr
theorem fsplit (a : Nat → Int) (c : Int) : ∀ (l : List Nat), l.Pairwise (fun x y => a x ≤ a y) →
    l.filter (fun u => decide (a u ≤ c)) ++ l.filter (fun u => decide (c < a u)) = l
  | [], _ => rfl
  | x :: l, h => by
    rw [List.pairwise_cons] at h
    have ih := fsplit a c l h.2
    by_cases hx : a x ≤ c
    · have h2 : ¬ c < a x := by lia
      simp [List.filter_cons, hx, h2, ih]
    · have h2 : c < a x := by lia
      have h3 : l.filter (fun u => decide (a u ≤ c)) = [] := by
        rw [List.filter_eq_nil_iff]; intro y hy; have := h.1 y hy; simp; lia
      rw [h3, List.nil_append] at ih
      simp [List.filter_cons, hx, h2, h3, ih]
theorem rstep {a : Nat → Int} {f : Nat → Nat} {r : Nat} {p rest : List Nat} {w : Nat} {s : List Nat × List Nat}
    (hd : (p ++ w :: rest).Nodup) (hr : (p ++ w :: rest).Pairwise (Aw a f r))
    (hb : ∀ t ∈ p ++ w :: rest, ∀ z, z < t → z ∈ p ++ w :: rest)
    (hf : ∀ z ∈ p ++ w :: rest, (r + 1 < f z ↔ ∃ k, k < z ∧ a z < a k ∧ r < f k))
    (I : RInv a f r p s) : RInv a f r (p ++ [w]) (stepL a s w) := by
  have hpw : ∀ x ∈ p, Aw a f r x w := by
    rw [List.pairwise_append] at hr
    exact fun x hx => hr.2.2 x hx w (.head _)
  have hwp : w ∉ p := by
    rw [List.nodup_append] at hd
    exact fun h => hd.2.2 w h w (.head _) rfl
  have hne : ∀ x ∈ p, x ≠ w := fun x hx e => hwp (e ▸ hx)
  have hwr : w ∈ p ++ w :: rest := List.mem_append_right _ (.head _)
  -- what is ahead of w by force lies in p
  have hfore : ∀ z, z < w → a w < a z → r < f z → z ∈ p := by
    intro z h1 h2 h3
    refine fore hr (hb w hwr z h1) (by lia) (fun h => ?_)
    exact h.2 h1 (Or.inr ⟨z, h1, Int.le_refl _, h3⟩)
  have hsub : ∀ x ∈ p, x ∈ p ++ w :: rest := fun x hx => List.mem_append_left _ hx
  have hmL : ∀ x ∈ s.1, x ∈ p := fun x hx => I.perm.mem_iff.mp (List.mem_append_right _ hx)
  have hmO : ∀ x ∈ s.2, x ∈ p := fun x hx => I.perm.mem_iff.mp (List.mem_append_left _ hx)
  -- a place behind z < w, ahead of it in the row
  have hbef : ∀ z ∈ p, r + 1 < f z → ∃ k ∈ p, a z < a k := by
    intro z hz h
    obtain ⟨k, h1, h2, h3⟩ := (hf z (hsub z hz)).mp h
    refine ⟨k, ?_, h2⟩
    have hk := hb z (hsub z hz) k h1
    -- k is ahead of z
    obtain ⟨p1, p2, rfl⟩ := List.append_of_mem hz
    have hr' : (p1 ++ z :: (p2 ++ w :: rest)).Pairwise (Aw a f r) := by simpa using hr
    have hk' : k ∈ p1 ++ z :: (p2 ++ w :: rest) := by simpa using hk
    have := fore hr' hk' (by lia) (fun h => h.2 h1 (Or.inr ⟨k, h1, Int.le_refl _, h3⟩))
    exact List.mem_append_left _ this
  have hAx : ∀ x ∈ p, w < x → Aw a f (r + 1) x w := by
    intro x hx hlt
    refine ⟨fun h => by lia, fun _ h => (hpw x hx).2 hlt ?_⟩
    rcases h with h | ⟨z, h1, h2, h3⟩
    · exact Or.inl h
    · exact Or.inr ⟨z, h1, h2, by lia⟩
  unfold stepL
  by_cases hall : s.1.all (fun u => decide (a u ≤ a w)) = true
  · rw [if_pos hall]
    have hL : ∀ u ∈ s.1, a u ≤ a w := fun u hu => by simpa using List.all_eq_true.mp hall u hu
    have hP : ∀ x ∈ p, a x ≤ a w := fun x hx => by
      obtain ⟨u, h1, h2⟩ := I.mx x hx; have := hL u h1; lia
    have hfw : ¬ r + 1 < f w := fun h => by
      obtain ⟨k, h1, h2, h3⟩ := (hf w hwr).mp h
      have := hP k (hfore k h1 h2 h3); lia
    constructor
    · show (s.2 ++ (s.1 ++ [w])).Perm (p ++ [w])
      rw [← List.append_assoc]; exact I.perm.append_right _
    · show (s.2 ++ (s.1 ++ [w])).Pairwise _
      rw [← List.append_assoc, List.pairwise_append]
      refine ⟨I.pw, List.pairwise_singleton _ _, fun x hx y hy => ?_⟩
      rw [List.mem_singleton] at hy; subst hy
      have hx := I.perm.mem_iff.mp hx
      rcases Nat.lt_trichotomy x y with h | h | h
      · exact ⟨fun _ => Or.inl (hP x hx), fun h' => by lia⟩
      · exact absurd h (hne x hx)
      · exact hAx x hx h
    · show (s.1 ++ [w]).Pairwise _
      rw [List.pairwise_append]
      refine ⟨I.so, List.pairwise_singleton _ _, fun x hx y hy => ?_⟩
      rw [List.mem_singleton] at hy; subst hy; exact hL x hx
    · intro x hx
      show x ∈ s.1 ++ [w] ↔ _
      simp only [List.mem_append, List.mem_singleton] at hx ⊢
      rcases hx with hx | rfl
      · have h1 := I.ml x hx
        constructor
        · rintro (h | h) z (hz | rfl) hfz
          · exact h1.mp h z hz hfz
          · exact absurd hfz hfw
          · exact absurd h (hne x hx)
          · exact absurd hfz hfw
        · exact fun h => Or.inl (h1.mpr (fun z hz => h z (Or.inl hz)))
      · refine ⟨fun _ z hz hfz => ?_, fun _ => Or.inr rfl⟩
        rcases hz with hz | rfl
        · obtain ⟨k, h1, h2⟩ := hbef z hz hfz
          have := hP k h1; lia
        · exact absurd hfz hfw
    · intro x hx
      simp only [List.mem_append, List.mem_singleton] at hx ⊢
      rcases hx with hx | rfl
      · exact ⟨w, Or.inr rfl, hP x hx⟩
      · exact ⟨x, Or.inr rfl, Int.le_refl _⟩
  · rw [if_neg hall]
    obtain ⟨u, hu, hgt⟩ : ∃ u ∈ s.1, a w < a u := by
      simp only [List.all_eq_true, Classical.not_forall, Classical.not_imp] at hall
      obtain ⟨u, h1, h2⟩ := hall
      exact ⟨u, h1, by simpa using h2⟩
    have hup := hmL u hu
    have huw : u < w := by
      rcases Nat.lt_trichotomy u w with h | h | h
      · exact h
      · exact absurd h (hne u hup)
      · exact absurd (Or.inl (by lia)) ((hpw u hup).2 h)
    have hfw : r + 1 < f w := by
      rw [hf w hwr]
      rcases (hpw u hup).1 huw with h | ⟨z, h1, h2, h3⟩
      · lia
      · exact ⟨z, h1, by lia, h3⟩
    have hsp := fsplit a (a w) s.1 I.so
    have hlo : ∀ x, x ∈ s.1.filter (fun u => decide (a u ≤ a w)) ↔ x ∈ s.1 ∧ a x ≤ a w := fun x => by simp [List.mem_filter]
    have hhi : ∀ x, x ∈ s.1.filter (fun u => decide (a w < a u)) ↔ x ∈ s.1 ∧ a w < a x := fun x => by simp [List.mem_filter]
    generalize s.1.filter (fun u => decide (a u ≤ a w)) = lo at *
    generalize s.1.filter (fun u => decide (a w < a u)) = hi at *
    have hpw1 := I.pw
    rw [← hsp, ← List.append_assoc, List.pairwise_append] at hpw1
    obtain ⟨q1, q2, q3⟩ := hpw1
    constructor
    · show ((s.2 ++ (lo ++ [w])) ++ hi).Perm (p ++ [w])
      have h1 : ((s.2 ++ lo) ++ hi).Perm p := by rw [List.append_assoc, hsp]; exact I.perm
      have h2 : ((s.2 ++ (lo ++ [w])) ++ hi).Perm (((s.2 ++ lo) ++ hi) ++ [w]) := by
        simp only [List.append_assoc]
        exact (List.perm_append_comm (l₁ := [w]) (l₂ := hi)).append_left lo |>.append_left s.2
      exact h2.trans (h1.append_right _)
    · show ((s.2 ++ (lo ++ [w])) ++ hi).Pairwise _
      rw [← List.append_assoc, List.pairwise_append, List.pairwise_append]
      refine ⟨⟨q1, List.pairwise_singleton _ _, fun x hx y hy => ?_⟩, q2, fun x hx y hy => ?_⟩
      · rw [List.mem_singleton] at hy; subst hy
        have hxp : x ∈ p := by
          rcases List.mem_append.mp hx with h | h
          · exact hmO x h
          · exact hmL x ((hlo x).mp h).1
        rcases Nat.lt_trichotomy x y with h | h | h
        · refine ⟨fun _ => ?_, fun h' => by lia⟩
          rcases Decidable.em (a x ≤ a y) with hle | hgt'
          · exact Or.inl hle
          · have hxL : x ∉ s.1 := by
              intro hxL
              have hxO : x ∉ s.2 := by
                intro hxO
                have hnd : (s.2 ++ s.1).Nodup := I.perm.nodup_iff.mpr (List.nodup_append.mp hd).1
                exact (List.nodup_append.mp hnd).2.2 x hxO x hxL rfl
              rcases List.mem_append.mp hx with h | h
              · exact hxO h
              · exact hgt' ((hlo x).mp h).2
            rw [I.ml x hxp] at hxL
            simp only [Classical.not_forall, Classical.not_imp] at hxL
            obtain ⟨z, hz, hfz, hza⟩ := hxL
            refine Or.inr ⟨z, ?_, by lia, hfz⟩
            rcases Nat.lt_trichotomy z y with h | h | h
            · exact h
            · exact absurd h (hne z hz)
            · exact absurd (Or.inl (by lia)) ((hpw z hz).2 h)
        · exact absurd h (hne x hxp)
        · exact hAx x hxp h
      · rcases List.mem_append.mp hx with hx | hx
        · exact q3 x hx y hy
        · rw [List.mem_singleton] at hx; subst hx
          obtain ⟨hyL, hya⟩ := (hhi y).mp hy
          have hyp := hmL y hyL
          refine ⟨fun _ => Or.inl (by lia), fun hlt h => ?_⟩
          rcases h with h | ⟨z, h1, h2, h3⟩
          · lia
          · have hz := hfore z h1 (by lia) (by lia)
            have := (I.ml y hyp).mp hyL z hz h3
            lia
    · show hi.Pairwise _
      have := I.so
      rw [← hsp, List.pairwise_append] at this
      exact this.2.1
    · intro x hx
      show x ∈ hi ↔ _
      rw [hhi x]
      simp only [List.mem_append, List.mem_singleton] at hx ⊢
      rcases hx with hx | rfl
      · rw [I.ml x hx]
        constructor
        · rintro ⟨h1, h2⟩ z (hz | rfl) hfz
          · exact h1 z hz hfz
          · exact h2
        · exact fun h => ⟨fun z hz => h z (Or.inl hz), h w (Or.inr rfl) hfw⟩
      · constructor
        · rintro ⟨h1, _⟩; exact absurd (hmL x h1) hwp
        · intro h; have := h x (Or.inr rfl) hfw; lia
    · intro x hx
      show ∃ u ∈ hi, _
      simp only [List.mem_append, List.mem_singleton] at hx
      have huh : u ∈ hi := (hhi u).mpr ⟨hu, hgt⟩
      rcases hx with hx | rfl
      · obtain ⟨v, h1, h2⟩ := I.mx x hx
        by_cases hv : a w < a v
        · exact ⟨v, (hhi v).mpr ⟨h1, hv⟩, h2⟩
        · exact ⟨u, huh, by lia⟩
      · exact ⟨u, huh, by lia⟩
theorem rfold {a : Nat → Int} {f : Nat → Nat} {r : Nat} {row : List Nat}
    (hd : row.Nodup) (hr : row.Pairwise (Aw a f r))
    (hb : ∀ t ∈ row, ∀ z, z < t → z ∈ row)
    (hf : ∀ z ∈ row, (r + 1 < f z ↔ ∃ k, k < z ∧ a z < a k ∧ r < f k)) :
    ∀ (rest p : List Nat) (s : List Nat × List Nat), p ++ rest = row → RInv a f r p s → RInv a f r row (rest.foldl (stepL a) s)
  | [], p, s, e, I => by rw [List.append_nil] at e; exact e ▸ I
  | w :: rest, p, s, e, I => by
    subst e
    have h1 := rstep hd hr hb hf I
    have := rfold hd hr hb hf rest (p ++ [w]) (stepL a s w) (by simp) h1
    exact this
theorem rnd_ok {a : Nat → Int} {f : Nat → Nat} {r : Nat} {row : List Nat}
    (hd : row.Nodup) (hr : row.Pairwise (Aw a f r))
    (hb : ∀ t ∈ row, ∀ z, z < t → z ∈ row)
    (hf : ∀ z ∈ row, (r + 1 < f z ↔ ∃ k, k < z ∧ a z < a k ∧ r < f k)) :
    (rnd a row).Perm row ∧ (rnd a row).Pairwise (Aw a f (r + 1)) := by
  have I := rfold hd hr hb hf row [] ([], []) rfl
    ⟨.nil, .nil, .nil, fun x hx => (nomatch hx), fun x hx => (nomatch hx)⟩
  exact ⟨I.perm, I.pw⟩
end Mine
end
section
open PySem PySem.W PyProof.Rows PySem.Calls PySem.Builtin.Re PyProof.Rows.LCg
set_option maxRecDepth 100000
namespace Mine
section
variable {w : World} {p : Program} {loose : List Str} {mean : ExcName → Option Value} {mg mb : Str → Option Value}
  {dp un : Nat} {gd : Option (List Code)} {cn : Str} {cs : Scope} {a : Addr} {ccd : Value} {cl : List (Str × Addr)} {outer : List Env} {A₀ : Around} {base h₀ : Heap} {L : Addr} {m : Str → Option Value} {s : Shared} {Q E : Value → Shared → Prop} {news : List (Addr × Obj)}
theorem ltne {l : List (Addr × Obj)} {d : Addr} (h : ∀ p ∈ l, p.1 < d) : ∀ p ∈ l, p.1 ≠ d := fun p hp => Nat.ne_of_lt (h p hp)
theorem allne : ∀ {l : List (Addr × Obj)} {d : Addr}, AllLt d l → ∀ p ∈ l, p.1 ≠ d
  | [], _, _ => fun _ h => nomatch h
  | _ :: _, _, h => fun p hp => match hp with
    | .head _ => Nat.ne_of_lt h.1
    | .tail _ hp => allne h.2 p hp
local macro_rules | `(tactic| k_all) => `(tactic| first | with_reducible assumption | exact ltne (by assumption) | exact allne (by assumption))
theorem idx0 (n : Nat) : seqIndex? 0 (n + 1) = some 0 := by
  unfold seqIndex?
  simp
/-- the own dict of a lexer -/
abbrev lexEnts (P : Params) (pb : Addr) (k1 k2 k3 k4 t1 t3 : Tok) : List DictEntry :=
  [⟨PyData.keyHash P "lineno", .str "lineno" k1, .int 1 t1⟩, ⟨PyData.keyHash P "instream", .str "instream" k2, .none⟩, ⟨PyData.keyHash P "whitespace", .str "whitespace" k3, .str "\n\t\r " t3⟩, ⟨PyData.keyHash P "pushback", .str "pushback" k4, .ref pb⟩]
set_option maxHeartbeats 8000000 in
theorem lex_call (B : Below A₀ base outer h₀) (F : Fr h₀ L s.heap m) (X : (top.heap_1 w.params).In h₀) (N : News h₀ L s.heap news) (T : Top p loose mean mg mb h₀) (hk : cs.kind = .function) (hdp : dp + 5 < recursionLimit) (hun : un + 50 < cLine)
  (hret : ∀ pb x dx k1 k2 k3 k4 t1 t3 h' tk', Fr h₀ L h' m → News h₀ L h' ((pb, listOf #[] 0) :: (x, instObj 82 dx) :: (dx, dictOf (lexEnts w.params pb k1 k2 k3 k4 t1 t3) 4) :: news) → @LT.lt Nat _ dx x → @LT.lt Nat _ x pb → (∀ q ∈ news, q.1 ≠ pb) → Q (.ref x) { s with heap := h', toks := tk' }) :
  wpAny (model PySem.Challenge.pw_xe0013_01 w) (ktrTop dp un gd cn cs L a ccd cl outer) (call (.ref 82) [.none]) Q E s := by
  refine' call_cls ?k1 ?k2 ?k3 ?k4 ?k5 ?k6 ?_; (case k1 => k_asm); (case k2 => k_asm); (case k3 => k_asm); (case k4 => k_is); (case k5 => k_is); (case k6 => k_is)
  intro x dx h' F' N' l1 l2
  (try dsimp only)
  replace l2 := ltN l2
  have l3 : ∀ p ∈ news, p.1 < x := fun p hp => Nat.lt_trans (l1 p hp) l2
  k_dflt ktr_enter
  k_steps
  rename _ ∧ _ ∧ AllLt _ _ => l4
  exact hret _ _ _ _ _ _ _ _ _ _ _ (by k_asm) (by k_asm) l2 l4.1 (allne l4.2.2)
set_option maxHeartbeats 8000000 in
theorem push_call (B : Below A₀ base outer h₀) (F : Fr h₀ L s.heap m) (X : (top.heap_1 w.params).In h₀) (T : Top p loose mean mg mb h₀) (hk : cs.kind = .function) (hdp : dp + 5 < recursionLimit) (hun : un + 50 < cLine)
  {pb x dx : Addr} {k1 k2 k3 k4 t1 t3 : Tok} {vs : Array Value} {k : Nat} {v : Value} (N : News h₀ L s.heap ((pb, listOf vs k) :: (x, instObj 82 dx) :: (dx, dictOf (lexEnts w.params pb k1 k2 k3 k4 t1 t3) 4) :: news))
  (l1 : @LT.lt Nat _ dx x) (l2 : @LT.lt Nat _ x pb) (l3 : ∀ q ∈ news, q.1 ≠ pb) (hvs : vs.size ≤ 1000)
  (hret : ∀ h' tk' k', Fr h₀ L h' m → News h₀ L h' ((pb, listOf (vs.push v) k') :: (x, instObj 82 dx) :: (dx, dictOf (lexEnts w.params pb k1 k2 k3 k4 t1 t3) 4) :: news) → Q .none { s with heap := h', toks := tk' }) :
  wpAny (model PySem.Challenge.pw_xe0013_01 w) (ktrTop dp un gd cn cs L a ccd cl outer) (call (.ref 79) [.ref x, v]) Q E s := by
  refine wpAny_call ?_
  k_dflt ktr_enter
  k_steps
  exact hret _ _ _ (by k_asm) (by k_asm)
set_option maxHeartbeats 8000000 in
theorem get_call (B : Below A₀ base outer h₀) (F : Fr h₀ L s.heap m) (X : (top.heap_1 w.params).In h₀) (T : Top p loose mean mg mb h₀) (hk : cs.kind = .function) (hdp : dp + 5 < recursionLimit) (hun : un + 50 < cLine)
  {pb x dx : Addr} {k1 k2 k3 k4 t1 t3 : Tok} {vs : List Value} {k : Nat} {v : Value} (N : News h₀ L s.heap ((pb, listOf (v :: vs).toArray k) :: (x, instObj 82 dx) :: (dx, dictOf (lexEnts w.params pb k1 k2 k3 k4 t1 t3) 4) :: news))
  (l1 : @LT.lt Nat _ dx x) (l2 : @LT.lt Nat _ x pb) (l3 : ∀ q ∈ news, q.1 ≠ pb) (hvs : vs.length ≤ 1000)
  (hret : ∀ h' tk' k', Fr h₀ L h' m → News h₀ L h' ((pb, listOf vs.toArray k') :: (x, instObj 82 dx) :: (dx, dictOf (lexEnts w.params pb k1 k2 k3 k4 t1 t3) 4) :: news) → Q v { s with heap := h', toks := tk' }) :
  wpAny (model PySem.Challenge.pw_xe0013_01 w) (ktrTop dp un gd cn cs L a ccd cl outer) (call (.ref 72) [.ref x]) Q E s := by
  refine wpAny_call ?_
  k_dflt ktr_enter
  k_steps
  k_dflt (refine' kl_popAt (k := 0) (p := []) (q := vs) (y := v) ?F ?N ?f ?k ?e ?U ?z ?_; (case F => k_asm); (case N => k_asm); (case U => k_upd); (case f => rfl); (case k => exact idx0 _); (case e => rfl); (case z => rw [sizeLine_eq]; simp; lia))
  kl_rest
  k_steps
  exact hret _ _ _ (by k_asm) (by k_asm)
end
end Mine
end
section
open PySem PySem.W PyProof.Rows PySem.Calls PySem.Builtin.Re PyProof.Rows.LCg
set_option maxRecDepth 100000
namespace Mine
section
variable {w : World} {p : Program} {loose : List Str} {mean : ExcName → Option Value} {mg mb : Str → Option Value}
  {dp un : Nat} {gd : Option (List Code)} {cn : Str} {cs : Scope} {a : Addr} {ccd : Value} {cl : List (Str × Addr)} {outer : List Env} {A₀ : Around} {base h₀ : Heap} {L : Addr} {m : Str → Option Value} {s : Shared} {Q E : Value → Shared → Prop} {news : List (Addr × Obj)}
local macro_rules | `(tactic| walk_at "exec For Name Call cons nil") => `(tactic| (k_here; refine hold ?_))
local macro_rules | `(tactic| walk_at "exec For Name Name cons nil") => `(tactic| (k_here; refine hold ?_))
local macro_rules | `(tactic| walk_at "call type:range") => `(tactic| (k_here; (first | refine range1_rows (by k_asm) (by k_asm) ?_ | refine range2_rows (by k_asm) (by k_asm) ?_); intro h' tk' t₁ u₁ v₁ hR F' N' K'; (try dsimp only); (try k_fold)))
local macro_rules | `(tactic| walk_at "call builtin:len") => `(tactic| (k_here; (refine len_list (News.isList (by k_asm) (by first | exact .head _ | exact .tail _ (.head _) | exact .tail _ (.tail _ (.head _)) | exact .tail _ (.tail _ (.tail _ (.head _))))) (by simp only [List.size_toArray]; lia) ?_); (try simp only [List.size_toArray]); (try dsimp only); (try k_fold)))
local macro_rules | `(tactic| walk_at "subscriptTail") => `(tactic| (k_here; (refine item_list (News.isList (by k_asm) (by first | exact .head _ | exact .tail _ (.head _) | exact .tail _ (.tail _ (.head _)) | exact .tail _ (.tail _ (.tail _ (.head _))))) (by lia) (by lia) (by first | assumption | exact menu0 (by lia) | exact menu1 (by lia) | exact menu2 (by lia) | exact menu3 (by lia)) ?_); (try dsimp only); (try k_fold)))
local macro_rules | `(tactic| k_all) => `(tactic| first | with_reducible assumption | exact ltne (by assumption) | exact allne (by assumption))
def mom (z : Nat) : Int := (zm z).getD 0
theorem mom_is {z : Nat} (h : zm z ≠ none) : zm z = some (mom z) := by unfold mom; cases e : zm z with | none => exact absurd e h | some i => rfl
/-- where the line stands behind these words -/
def lst (zs : List Nat) : List Nat × List Nat := zs.foldl (stepL mom) ([], [])
theorem lstS_snoc (zs : List Nat) (z : Nat) : lst (zs ++ [z]) = stepL mom (lst zs) z := by unfold lst; rw [List.foldl_append]; rfl
theorem stepL_mem {s : List Nat × List Nat} {w : Nat} {x : Nat} (h : x ∈ (stepL mom s w).2 ++ (stepL mom s w).1) : x ∈ s.2 ++ s.1 ∨ x = w := by
  unfold stepL at h
  simp only [List.mem_append]
  split at h
  · simp only [List.mem_append, List.mem_singleton] at h
    rcases h with h | h | h
    · exact .inl (.inl h)
    · exact .inl (.inr h)
    · exact .inr h
  · simp only [List.mem_append, List.mem_singleton, List.mem_filter] at h
    rcases h with (h | h | h) | h
    · exact .inl (.inl h)
    · exact .inl (.inr h.1)
    · exact .inr h
    · exact .inl (.inr h.1)
theorem fold_mem : ∀ (zs : List Nat) (s : List Nat × List Nat) {x : Nat}, x ∈ (zs.foldl (stepL mom) s).2 ++ (zs.foldl (stepL mom) s).1 → x ∈ s.2 ++ s.1 ∨ x ∈ zs
  | [], _, _, h => .inl h
  | z :: zs, s, x, h => by
    rcases fold_mem zs (stepL mom s z) h with h | h
    · rcases stepL_mem h with h | rfl
      · exact .inl h
      · exact .inr (.head _)
    · exact .inr (.tail _ h)
theorem lst_mem {zs : List Nat} {x : Nat} (h : x ∈ (lst zs).2 ++ (lst zs).1) : x ∈ zs := (fold_mem zs ([], []) h).elim (fun h => nomatch h) id
theorem stepL_len {s : List Nat × List Nat} {w : Nat} : (stepL mom s w).1.length ≤ s.1.length + 1 := by
  unfold stepL
  split
  · simp
  · exact Nat.le_succ_of_le (List.length_filter_le _ _)
theorem fold_len : ∀ (zs : List Nat) (s : List Nat × List Nat), (zs.foldl (stepL mom) s).1.length ≤ s.1.length + zs.length
  | [], _ => Nat.le_refl _
  | z :: zs, s => by
    have h1 := fold_len zs (stepL mom s z)
    have h2 := stepL_len (s := s) (w := z)
    simp only [List.foldl_cons, List.length_cons]
    lia
theorem lst_len (zs : List Nat) : (lst zs).1.length ≤ zs.length := by have := fold_len zs ([], []); simpa [lst] using this
theorem stepA {lz oz : List Nat} {z : Nat} (h : lz = [] ∨ lz.all (fun u => decide (mom u ≤ mom z)) = true) : stepL mom (lz, oz) z = (lz ++ [z], oz) := by
  unfold stepL
  rw [if_pos]
  rcases h with rfl | h
  · rfl
  · exact h
theorem stepB {lz oz : List Nat} {z : Nat} (h : ¬ lz.all (fun u => decide (mom u ≤ mom z)) = true) : stepL mom (lz, oz) z = (lz.filter (fun u => decide (mom z < mom u)), oz ++ (lz.filter (fun u => decide (mom u ≤ mom z)) ++ [z])) := by
  unfold stepL
  rw [if_neg h]
theorem flen (z : Nat) : ∀ l : List Nat, (l.filter (fun u => decide (mom u ≤ mom z))).length + (l.filter (fun u => decide (mom z < mom u))).length = l.length
  | [] => rfl
  | x :: l => by
    have := flen z l
    by_cases h : mom x ≤ mom z
    · have h2 : ¬ mom z < mom x := by lia
      simp only [List.filter_cons, h, h2, decide_true, decide_false, if_true, List.length_cons, Bool.false_eq_true, if_false]; lia
    · have h2 : mom z < mom x := by lia
      simp only [List.filter_cons, h, h2, decide_true, decide_false, if_true, List.length_cons, Bool.false_eq_true, if_false]; lia
theorem stepL_len2 {s : List Nat × List Nat} {w : Nat} : (stepL mom s w).1.length + (stepL mom s w).2.length = s.1.length + s.2.length + 1 := by
  unfold stepL
  split
  · simp only [List.length_append, List.length_singleton]; lia
  · have := flen w s.1
    simp only [List.length_append, List.length_singleton]; lia
theorem fold_len2 : ∀ (zs : List Nat) (s : List Nat × List Nat), (zs.foldl (stepL mom) s).1.length + (zs.foldl (stepL mom) s).2.length = s.1.length + s.2.length + zs.length
  | [], _ => rfl
  | z :: zs, s => by
    have h1 := fold_len2 zs (stepL mom s z)
    have h2 := stepL_len2 (s := s) (w := z)
    simp only [List.foldl_cons, List.length_cons]
    lia
theorem lst_len2 (zs : List Nat) : (lst zs).1.length + (lst zs).2.length = zs.length := by have := fold_len2 zs ([], []); simpa [lst] using this
/-- the last key put into the line -/
def Lat (lat : Int) (l : List Nat) : Prop := (∀ u ∈ l, mom u ≤ lat) ∧ (l ≠ [] → ∃ u ∈ l, mom u = lat)
theorem Lat_nil {c : Int} : Lat c [] := ⟨fun _ h => (nomatch h), fun h => absurd rfl h⟩
theorem Lat.all {lat : Int} {l : List Nat} (h : Lat lat l) (hne : l ≠ []) (c : Int) : l.all (fun u => decide (mom u ≤ c)) = decide (lat ≤ c) := by
  rw [Bool.eq_iff_iff]
  simp only [List.all_eq_true, decide_eq_true_eq]
  refine ⟨fun q => ?_, fun q u hu => Int.le_trans (h.1 u hu) q⟩
  obtain ⟨u, hu, e⟩ := h.2 hne
  exact e ▸ q u hu
theorem ws_cons {l : List Value} {z : Nat} {zs : List Nat} (h : Ws l (z :: zs)) : ∃ t r, l = .str (zt z) t :: r ∧ z < 576 ∧ Ws r zs := by
  cases l with
  | nil => exact h.elim
  | cons v r => obtain ⟨⟨t, rfl⟩, h2, h3⟩ := h; exact ⟨t, r, rfl, h2, h3⟩
def loOf (z : Nat) (l : List Nat) : List Nat := l.filter (fun u => decide (mom u ≤ mom z))
def hiOf (z : Nat) (l : List Nat) : List Nat := l.filter (fun u => decide (mom z < mom u))
theorem lo_in {z y t : Nat} {l : List Nat} (hy : l[t]? = some y) (h : mom y ≤ mom z) : loOf z (l.take (t + 1)) = loOf z (l.take t) ++ [y] ∧ hiOf z (l.take (t + 1)) = hiOf z (l.take t) := by
  have h2 : ¬ mom z < mom y := by lia
  rw [take_succ hy]
  simp [loOf, hiOf, List.filter_append, List.filter_cons, h, h2]
theorem hi_in {z y t : Nat} {l : List Nat} (hy : l[t]? = some y) (h : ¬ mom y ≤ mom z) : loOf z (l.take (t + 1)) = loOf z (l.take t) ∧ hiOf z (l.take (t + 1)) = hiOf z (l.take t) ++ [y] := by
  have h2 : mom z < mom y := by lia
  rw [take_succ hy]
  simp [loOf, hiOf, List.filter_append, List.filter_cons, h, h2]
theorem drop_at {t y : Nat} {l : List Nat} (hy : l[t]? = some y) : l.drop t = y :: l.drop (t + 1) := by
  obtain ⟨h1, h2⟩ := List.getElem?_eq_some_iff.mp hy
  rw [List.drop_eq_getElem_cons h1, h2]
theorem hi_len (z t : Nat) (l : List Nat) : (hiOf z (l.take t)).length ≤ t := Nat.le_trans (List.length_filter_le _ _) (by rw [List.length_take]; exact Nat.min_le_left _ _)
theorem Lat.hi {lat : Int} {l : List Nat} {z : Nat} (h : Lat lat l) (hne : l ≠ []) (hlt : ¬ lat ≤ mom z) : Lat lat (hiOf z l) := by
  refine ⟨fun u hu => h.1 u (List.mem_filter.mp hu).1, fun _ => ?_⟩
  obtain ⟨u, hu, e⟩ := h.2 hne
  exact ⟨u, List.mem_filter.mpr ⟨hu, decide_eq_true (by lia)⟩, e⟩
theorem pull3 {h₀ h : Heap} {L : Addr} {i a b c : Addr × Obj} {r : List (Addr × Obj)} (N : News h₀ L h (i :: a :: b :: c :: r)) : News h₀ L h (a :: b :: c :: i :: r) := fun p hp =>
  N p (match hp with | .head _ => .tail _ (.head _) | .tail _ (.head _) => .tail _ (.tail _ (.head _)) | .tail _ (.tail _ (.head _)) => .tail _ (.tail _ (.tail _ (.head _))) | .tail _ (.tail _ (.tail _ (.head _))) => .head _ | .tail _ (.tail _ (.tail _ (.tail _ h))) => .tail _ (.tail _ (.tail _ (.tail _ h))))
theorem unpull3 {h₀ h : Heap} {L : Addr} {i a b c : Addr × Obj} {r : List (Addr × Obj)} (N : News h₀ L h (a :: b :: c :: i :: r)) : News h₀ L h (i :: a :: b :: c :: r) := fun p hp =>
  N p (match hp with | .head _ => .tail _ (.tail _ (.tail _ (.head _))) | .tail _ (.head _) => .head _ | .tail _ (.tail _ (.head _)) => .tail _ (.head _) | .tail _ (.tail _ (.tail _ (.head _))) => .tail _ (.tail _ (.head _)) | .tail _ (.tail _ (.tail _ (.tail _ h))) => .tail _ (.tail _ (.tail _ (.tail _ h))))
theorem Off.same {I : Addr} {l l' : List (Addr × Obj)} (h : Off I l) (e : l.map (·.1) = l'.map (·.1)) : Off I l' := fun p hp => by
  have : p.1 ∈ l'.map (·.1) := List.mem_map_of_mem hp
  rw [← e] at this
  obtain ⟨q, hq, e'⟩ := List.mem_map.mp this
  exact e' ▸ h q hq
theorem all_cons {d : Addr} {p : Addr × Obj} {l : List (Addr × Obj)} (h1 : p.1 ≠ d) (h2 : ∀ q ∈ l, q.1 ≠ d) : ∀ q ∈ p :: l, q.1 ≠ d := List.forall_mem_cons.mpr ⟨h1, h2⟩
set_option maxHeartbeats 8000000 in
theorem round_call (B : Below A₀ base outer h₀) (F : Fr h₀ L s.heap m) (X : (top.heap_1 w.params).In h₀) (T : Top p loose mean mg mb h₀) (hk : cs.kind = .function) (hdp : dp + 20 < recursionLimit) (hun : un + 200 < cLine)
  {wa : Addr} {xs : List Value} {zs : List Nat} {nw : Nat} (hw : Ws xs zs) (hn : zs.length ≤ 63) (hz : ∀ z ∈ zs, zm z ≠ none) (N : News h₀ L s.heap ((wa, listOf xs.toArray nw) :: news)) (hret : ∀ ra ys h' tk' k, Ws ys (rnd mom zs) → Fr h₀ L h' m → News h₀ L h' ((ra, listOf ys.toArray k) :: (wa, listOf xs.toArray nw) :: news) → Q (.ref ra) { s with heap := h', toks := tk' }) :
  wpAny (model PySem.Challenge.pw_xe0013_01 w) (ktrTop dp un gd cn cs L a ccd cl outer) (call (.ref 182) [.ref wa]) Q E s := by
  refine wpAny_call ?_
  k_dflt ktr_enter
  have hlen := hw.len
  k_steps
  refine lex_call (by k_asm) (by k_asm) (by k_asm) (by k_asm) (by k_asm) rfl (by show dp + 1 + 5 < recursionLimit; lia) (by show un + 3 + 50 < cLine; lia) ?_
  intro pb x dx k1 k2 k3 k4 t1 t3 h1 tk1 F1 N1 l1 l2 l3
  (try dsimp only)
  k_steps
  show wpAny _ _ _ _ _ _
  rename_i h2 tk2 h3 h4 td h5 l5 h6 kF kN
  refine new_toks fun tk0 => ?_
  dsimp only
  have l6 : ∀ q ∈ (wa, listOf xs.toArray nw) :: news, q.1 ≠ td := all_cons (Nat.ne_of_lt l5.2.2.2.1) (allne l5.2.2.2.2)
  have l7 : @LT.lt Nat _ pb td := l5.1
  refine for_list (by assumption) (l := wa) (vs := xs.toArray) zs.length (by simpa using hlen)
    (fun i m led => m "line" = some (.ref x) ∧ m "told" = some (.ref td) ∧ m "words" = some (.ref wa) ∧ (∃ t, m "waiting" = some (.int ((lst (zs.take i)).1.length : Nat) t)) ∧ (∃ lat t, m "latest" = some (.int lat t) ∧ Lat lat (lst (zs.take i)).1)
      ∧ ∃ ls ts k k', Ws ls (lst (zs.take i)).1 ∧ Ws ts (lst (zs.take i)).2 ∧ led = (pb, listOf ls.toArray k) :: (x, instObj 82 dx) :: (dx, dictOf (lexEnts w.params pb k1 k2 k3 k4 t1 t3) 4) :: (td, listOf ts.toArray k') :: (wa, listOf xs.toArray nw) :: news) rfl ?_ ?_ ?_ ?_ rfl rfl
  · rintro i m led h ⟨_, _, _, _, _, ls, ts, k, k', _, _, rfl⟩ F N
    exact News.isList N (.tail _ (.tail _ (.tail _ (.tail _ (.head _)))))
  · k_steps
    exact ListStart.mk (by k_asm) (pull3 (by k_asm)) ⟨rfl, rfl, rfl, ⟨_, rfl⟩, ⟨_, _, rfl, Lat_nil⟩, [], [], _, _, trivial, trivial, rfl⟩
  · intro i I oI TBq hTB m led h tk v hi hv hJ off F' N'
    refine shut fun X hX => ?_
    obtain ⟨z, tz, hzi, hzl, hx⟩ := hw.at i hi
    refine hX ?_
    clear hX X
    obtain rfl : v = .str (zt z) tz := by rw [List.getElem?_toArray, hx] at hv; exact (Option.some.inj hv).symm
    have hmz := mom_is (hz z (List.mem_of_getElem? hzi))
    refine shut fun X hX => ?_
    obtain ⟨h1, h2, h3, ⟨tw, h4⟩, ⟨lat, tl, h5, hlat⟩, ls, ts, k, k', hL, hT, rfl⟩ := hJ
    refine hX ?_
    clear hX X
    have G1 := F'.known0 (n := "latest") ((if_neg (by decide)).trans h5)
    have G2 := G1.known0 (n := "waiting") ((if_neg (by decide)).trans ((if_neg (by decide)).trans h4))
    have G3 := G2.known0 (n := "words") ((if_neg (by decide)).trans ((if_neg (by decide)).trans ((if_neg (by decide)).trans h3)))
    have G4 := G3.known0 (n := "told") ((if_neg (by decide)).trans ((if_neg (by decide)).trans ((if_neg (by decide)).trans ((if_neg (by decide)).trans h2))))
    have G5 := G4.known0 (n := "line") ((if_neg (by decide)).trans ((if_neg (by decide)).trans ((if_neg (by decide)).trans ((if_neg (by decide)).trans ((if_neg (by decide)).trans h1)))))
    clear F' G1 G2 G3 G4
    have hstep : lst (zs.take (i + 1)) = stepL mom (lst (zs.take i)) z := by rw [take_succ hzi, lstS_snoc]
    have hmem : ∀ y ∈ (lst (zs.take i)).1, zm y = some (mom y) := fun y hy => mom_is (hz y (List.mem_of_mem_take (lst_mem (List.mem_append_right _ hy))))
    have hll := lst_len (zs.take i)
    have hll3 := lst_len2 (zs.take i)
    have hll2 : (zs.take i).length ≤ 63 := by rw [List.length_take]; exact Nat.le_trans (Nat.min_le_right _ _) hn
    have hlsl := hL.len
    generalize hst : lst (zs.take i) = st at *
    obtain ⟨lz, oz⟩ := st
    dsimp only at hL hT hlat hmem hll hll3 G5 hlsl
    generalize hq : lz.length = q at *
    k_steps
    refine moment_some (by k_asm) (by k_asm) (by k_asm) (by k_asm) (by k_asm) rfl (by show dp + 1 + 10 < recursionLimit; lia) (by show un + 3 + 100 < cLine; lia) hzl hmz ?_
    intro tm h6 tk6 F6 N6
    (try dsimp only)
    k_steps
    · have hnil : lz = [] := List.eq_nil_of_length_eq_zero (by lia)
      have hp : stepL mom (lz, oz) z = (lz ++ [z], oz) := stepA (.inl hnil)
      have hlat' : Lat (mom z) (lz ++ [z]) := by subst hnil; exact ⟨fun u hu => by rw [List.mem_singleton.mp hu]; exact Int.le_refl _, fun _ => ⟨z, .head _, rfl⟩⟩
      refine push_call (by k_asm) (by k_asm) (by k_asm) (by k_asm) rfl (by show dp + 1 + 5 < recursionLimit; lia) (by show un + 3 + 50 < cLine; lia) (pull3 (by k_asm)) l1 l2 (all_cons (Ne.symm (off (pb, _) (.head _))) (all_cons (Nat.ne_of_gt l7) l3)) (by rw [List.size_toArray]; lia) ?_
      intro h7 tk7 k7 F7 N7
      rw [List.push_toArray] at N7
      (try dsimp only)
      k_steps
      have hwn : ((q : Int) + 1) = ((lst (zs.take (i + 1))).1.length : Nat) := by rw [hstep, hp, List.length_append, hq]; simp
      exact hTB _ _ (TurnEnd.mk (by k_asm) (unpull3 (by k_asm)) (off.same (by rfl)) ⟨rfl, rfl, rfl, ⟨_, congrArg (fun j => some (Value.int j _)) hwn⟩, ⟨_, _, rfl, by rw [hstep, hp]; exact hlat'⟩, ls ++ [.str (zt z) tz], ts, _, _, by rw [hstep, hp]; exact hL.snoc z _ hzl, by rw [hstep, hp]; exact hT, rfl⟩)
    · have hle : lat ≤ mom z := by lia
      have hp : stepL mom (lz, oz) z = (lz ++ [z], oz) := stepA (by by_cases e : lz = []; exact .inl e; exact .inr (by rw [hlat.all e]; exact decide_eq_true hle))
      have hlat' : Lat (mom z) (lz ++ [z]) := ⟨fun u hu => by
        rcases List.mem_append.mp hu with hu | hu
        · have := hlat.1 u hu; lia
        · rw [List.mem_singleton.mp hu]; exact Int.le_refl _, fun _ => ⟨z, by simp, rfl⟩⟩
      refine push_call (by k_asm) (by k_asm) (by k_asm) (by k_asm) rfl (by show dp + 1 + 5 < recursionLimit; lia) (by show un + 3 + 50 < cLine; lia) (pull3 (by k_asm)) l1 l2 (all_cons (Ne.symm (off (pb, _) (.head _))) (all_cons (Nat.ne_of_gt l7) l3)) (by rw [List.size_toArray]; lia) ?_
      intro h7 tk7 k7 F7 N7
      rw [List.push_toArray] at N7
      (try dsimp only)
      k_steps
      have hwn : ((q : Int) + 1) = ((lst (zs.take (i + 1))).1.length : Nat) := by rw [hstep, hp, List.length_append, hq]; simp
      exact hTB _ _ (TurnEnd.mk (by k_asm) (unpull3 (by k_asm)) (off.same (by rfl)) ⟨rfl, rfl, rfl, ⟨_, congrArg (fun j => some (Value.int j _)) hwn⟩, ⟨_, _, rfl, by rw [hstep, hp]; exact hlat'⟩, ls ++ [.str (zt z) tz], ts, _, _, by rw [hstep, hp]; exact hL.snoc z _ hzl, by rw [hstep, hp]; exact hT, rfl⟩)
    · have hne : lz ≠ [] := by intro e; subst e; simp at hq; lia
      have hp : stepL mom (lz, oz) z = (hiOf z lz, oz ++ (loOf z lz ++ [z])) := stepB (by rename ¬ lat ≤ mom z => hlt; rw [hlat.all hne]; simpa using hlt)
      rename ¬ lat ≤ mom z => hlt
      have hd0 : lz.drop 0 ++ hiOf z (lz.take 0) = lz := by simp [hiOf]
      have hd1 : oz ++ loOf z (lz.take 0) = oz := by simp [loOf]
      have hw0 : (q : Int) = ((lz.drop 0 ++ hiOf z (lz.take 0)).length : Nat) := by rw [hd0, hq]
      show wpAny _ _ _ _ _ _
      refine new_toks fun tk0 => ?_
      dsimp only
      refine for_range (by assumption) (a := 0) (b := (q : Nat)) (by lia) (by lia) (by lia) (by lia) q (by lia)
        (fun t m led => m "line" = some (.ref x) ∧ m "told" = some (.ref td) ∧ m "words" = some (.ref wa) ∧ m "word" = some (.str (zt z) tz) ∧ m "moment" = some (.int (mom z) tm) ∧ m "latest" = some (.int lat tl) ∧ (∃ u, m "waiting" = some (.int ((lz.drop t ++ hiOf z (lz.take t)).length : Nat) u))
          ∧ ∃ ls ts k k', Ws ls (lz.drop t ++ hiOf z (lz.take t)) ∧ Ws ts (oz ++ loOf z (lz.take t)) ∧ led = (pb, listOf ls.toArray k) :: (x, instObj 82 dx) :: (dx, dictOf (lexEnts w.params pb k1 k2 k3 k4 t1 t3) 4) :: (I, oI) :: (td, listOf ts.toArray k') :: (wa, listOf xs.toArray nw) :: news) rfl ?_ ?_ ?_ rfl rfl
      · k_steps
        exact RangeStart.mk (by assumption) (by k_asm) (pull3 (by k_asm)) ⟨rfl, rfl, rfl, rfl, rfl, rfl, ⟨_, congrArg (fun j => some (Value.int j _)) hw0⟩, ls, ts, _, _, by rw [hd0]; exact hL, by rw [hd1]; exact hT, rfl⟩
      · intro t I2 oI2 TBq hTB m led h8 tk8 tt ht hJ off2 F2 N2
        refine shut fun X hX => ?_
        obtain ⟨j1, j2, j3, j4, j5, j6, ⟨tw2, j7⟩, ls2, ts2, k8, k9, hL2, hT2, rfl⟩ := hJ
        refine hX ?_
        clear hX X
        have K0 := F2.known0 (n := "latest") ((if_neg (by decide)).trans (j6))
        have K1 := K0.known0 (n := "word") ((if_neg (by decide)).trans ((if_neg (by decide)).trans (j4)))
        have K2 := K1.known0 (n := "words") ((if_neg (by decide)).trans ((if_neg (by decide)).trans ((if_neg (by decide)).trans (j3))))
        have K3 := K2.known0 (n := "waiting") ((if_neg (by decide)).trans ((if_neg (by decide)).trans ((if_neg (by decide)).trans ((if_neg (by decide)).trans (j7)))))
        have K4 := K3.known0 (n := "moment") ((if_neg (by decide)).trans ((if_neg (by decide)).trans ((if_neg (by decide)).trans ((if_neg (by decide)).trans ((if_neg (by decide)).trans (j5))))))
        have K5 := K4.known0 (n := "told") ((if_neg (by decide)).trans ((if_neg (by decide)).trans ((if_neg (by decide)).trans ((if_neg (by decide)).trans ((if_neg (by decide)).trans ((if_neg (by decide)).trans (j2)))))))
        have K6 := K5.known0 (n := "line") ((if_neg (by decide)).trans ((if_neg (by decide)).trans ((if_neg (by decide)).trans ((if_neg (by decide)).trans ((if_neg (by decide)).trans ((if_neg (by decide)).trans ((if_neg (by decide)).trans (j1))))))))
        clear F2 K0 K1 K2 K3 K4 K5
        have hyt : lz[t]? = some lz[t] := List.getElem?_eq_getElem (by lia)
        generalize lz[t] = y at hyt
        have hmy := hmem y (List.mem_of_getElem? hyt)
        have hlen2 := hL2.len
        rw [drop_at hyt, List.cons_append] at hL2
        refine shut fun X hX => ?_
        obtain ⟨ty, r2, rfl, hyl, hr2⟩ := ws_cons hL2
        refine hX ?_
        clear hX X
        have hrl := hr2.len
        have hhl := hi_len z t lz
        rw [List.length_append, List.length_drop] at hrl
        have hrs : r2.length ≤ 1000 := by lia
        generalize hq2 : (lz.drop t ++ hiOf z (lz.take t)).length = q2 at *
        clear hrl hhl
        have e1 : @Ne Nat I td := Ne.symm (off (td, listOf ts.toArray k') (.tail _ (.tail _ (.tail _ (.head _)))))
        have e2 : @Ne Nat I2 td := Ne.symm (off2 (td, listOf ts2.toArray k9) (.tail _ (.tail _ (.tail _ (.tail _ (.head _))))))
        have e3 : ∀ q ∈ (I2, oI2) :: (I, oI) :: (td, listOf ts2.toArray k9) :: (wa, listOf xs.toArray nw) :: news, q.1 ≠ pb := all_cons (Ne.symm (off2 (pb, _) (.head _))) (all_cons (Ne.symm (off (pb, _) (.head _))) (all_cons (Nat.ne_of_gt l7) l3))
        k_steps
        refine get_call (by k_asm) (by k_asm) (by k_asm) (by k_asm) rfl (by show dp + 1 + 5 < recursionLimit; lia) (by show un + 3 + 50 < cLine; lia) (pull3 (by k_asm)) l1 l2 e3 hrs ?_
        intro h9 tk9 k10 F9 N9
        (try dsimp only)
        k_steps
        refine moment_some (by k_asm) (by k_asm) (by k_asm) (by k_asm) (by k_asm) rfl (by show dp + 1 + 10 < recursionLimit; lia) (by show un + 3 + 100 < cLine; lia) hyl hmy ?_
        intro tm2 h10 tk10 F10 N10
        (try dsimp only)
        k_steps
        · rename mom y ≤ mom z => hle
          obtain ⟨a1, a2⟩ := lo_in hyt hle
          have b1 := hT2.len
          have b2 : (loOf z (lz.take t)).length ≤ t := Nat.le_trans (List.length_filter_le _ _) (by rw [List.length_take]; exact Nat.min_le_left _ _)
          rw [List.length_append] at b1
          refine append_K (by k_asm) (by k_asm) (by k_upd) (hsz := by rw [List.size_toArray, sizeLine_eq]; lia) ?_
          intro h11 F11 N11
          rw [List.push_toArray] at N11
          (try dsimp only)
          k_steps
          have hwn : ((q2 : Int) - 1) = ((lz.drop (t + 1) ++ hiOf z (lz.take (t + 1))).length : Nat) := by rw [a2, ← hq2, drop_at hyt]; simp; try lia
          exact hTB _ _ (TurnEnd.mk (by k_asm) (unpull3 (by k_asm)) (off2.same (by rfl)) ⟨rfl, rfl, rfl, rfl, rfl, rfl, ⟨_, congrArg (fun j => some (Value.int j _)) hwn⟩, r2, ts2 ++ [.str (zt y) ty], _, _, by rw [a2]; exact hr2, by rw [a1, ← List.append_assoc]; exact hT2.snoc y _ hyl, rfl⟩)
        · rename ¬ mom y ≤ mom z => hle
          obtain ⟨a1, a2⟩ := hi_in hyt hle
          refine push_call (by k_asm) (by k_asm) (by k_asm) (by k_asm) rfl (by show dp + 1 + 5 < recursionLimit; lia) (by show un + 3 + 50 < cLine; lia) (by k_asm) l1 l2 e3 (by rw [List.size_toArray]; lia) ?_
          intro h11 tk11 k11 F11 N11
          rw [List.push_toArray] at N11
          (try dsimp only)
          k_steps
          have hwn : (q2 : Int) = ((lz.drop (t + 1) ++ hiOf z (lz.take (t + 1))).length : Nat) := by rw [a2, ← hq2, drop_at hyt]; simp; lia
          exact hTB _ _ (TurnEnd.mk (by k_asm) (unpull3 (by k_asm)) (off2.same (by rfl)) ⟨rfl, rfl, rfl, rfl, rfl, rfl, ⟨_, congrArg (fun j => some (Value.int j _)) hwn⟩, r2 ++ [.str (zt y) ty], ts2, _, _, by rw [a2, ← List.append_assoc]; exact hr2.snoc y _ hyl, by rw [a1]; exact hT2, rfl⟩)
      · intro m led h8 tk8 hJ F2 N2
        refine shut fun X hX => ?_
        obtain ⟨j1, j2, j3, j4, j5, j6, ⟨tw2, j7⟩, ls2, ts2, k8, k9, hL2, hT2, rfl⟩ := hJ
        refine hX ?_
        clear hX X
        have K0 := F2.known0 (n := "latest") (j6)
        have K1 := K0.known0 (n := "word") ((if_neg (by decide)).trans (j4))
        have K2 := K1.known0 (n := "words") ((if_neg (by decide)).trans ((if_neg (by decide)).trans (j3)))
        have K3 := K2.known0 (n := "waiting") ((if_neg (by decide)).trans ((if_neg (by decide)).trans ((if_neg (by decide)).trans (j7))))
        have K4 := K3.known0 (n := "moment") ((if_neg (by decide)).trans ((if_neg (by decide)).trans ((if_neg (by decide)).trans ((if_neg (by decide)).trans (j5)))))
        have K5 := K4.known0 (n := "told") ((if_neg (by decide)).trans ((if_neg (by decide)).trans ((if_neg (by decide)).trans ((if_neg (by decide)).trans ((if_neg (by decide)).trans (j2))))))
        have K6 := K5.known0 (n := "line") ((if_neg (by decide)).trans ((if_neg (by decide)).trans ((if_neg (by decide)).trans ((if_neg (by decide)).trans ((if_neg (by decide)).trans ((if_neg (by decide)).trans (j1)))))))
        clear F2 K0 K1 K2 K3 K4 K5
        rw [← hq, List.drop_length, List.take_length, List.nil_append] at hL2
        rw [← hq, List.take_length] at hT2
        have e1 : @Ne Nat I td := Ne.symm (off (td, listOf ts.toArray k') (.tail _ (.tail _ (.tail _ (.head _)))))
        have b1 := hT2.len
        have b2 : (loOf z lz).length ≤ lz.length := List.length_filter_le _ _
        rw [List.length_append] at b1
        k_steps
        rename News _ _ _ _ => N11
        rw [List.push_toArray] at N11
        have hwn : ((lz.drop q ++ hiOf z (lz.take q)).length : Int) = ((lst (zs.take (i + 1))).1.length : Nat) := by rw [hstep, hp, ← hq, List.drop_length, List.take_length]; rfl
        exact hTB _ _ (TurnEnd.mk (by k_asm) (unpull3 (by k_asm)) (off.same (by rfl)) ⟨rfl, rfl, rfl, ⟨_, congrArg (fun j => some (Value.int j _)) hwn⟩, ⟨_, _, rfl, by rw [hstep, hp]; exact hlat.hi hne hlt⟩, ls2, ts2 ++ [.str (zt z) tz], _, _, by rw [hstep, hp]; exact hL2, by rw [hstep, hp, ← List.append_assoc]; exact hT2.snoc z _ hzl, rfl⟩)
  · intro m led h8 tk8 hJ F2 N2
    refine shut fun X hX => ?_
    obtain ⟨h1, h2, h3, ⟨tw, h4⟩, ⟨lat, tl, h5, hlat⟩, ls, ts, k, k', hL, hT, rfl⟩ := hJ
    refine hX ?_
    clear hX X
    rw [List.take_length] at h4 hL hT
    have K0 := F2.known0 (n := "waiting") (h4)
    have K1 := K0.known0 (n := "told") ((if_neg (by decide)).trans (h2))
    have K2 := K1.known0 (n := "line") ((if_neg (by decide)).trans ((if_neg (by decide)).trans (h1)))
    clear F2 K0 K1
    have hll := lst_len2 zs
    have hrd : rnd mom zs = (lst zs).2 ++ (lst zs).1 := rfl
    rw [hrd] at hret
    generalize lst zs = st at *
    obtain ⟨lz, oz⟩ := st
    dsimp only at hL hT hll hret h4
    generalize hq : lz.length = q at *
    k_steps
    show wpAny _ _ _ _ _ _
    refine new_toks fun tk0 => ?_
    dsimp only
    refine for_range (by assumption) (a := 0) (b := (q : Nat)) (by lia) (by lia) (by lia) (by lia) q (by lia)
      (fun t m led => m "line" = some (.ref x) ∧ m "told" = some (.ref td) ∧ ∃ ls ts k k', Ws ls (lz.drop t) ∧ Ws ts (oz ++ lz.take t) ∧ led = (pb, listOf ls.toArray k) :: (x, instObj 82 dx) :: (dx, dictOf (lexEnts w.params pb k1 k2 k3 k4 t1 t3) 4) :: (td, listOf ts.toArray k') :: (wa, listOf xs.toArray nw) :: news) rfl ?_ ?_ ?_ rfl rfl
    · k_steps
      exact RangeStart.mk (by assumption) (by k_asm) (by k_asm) ⟨rfl, rfl, ls, ts, _, _, by rw [List.drop_zero]; exact hL, by rw [List.take_zero, List.append_nil]; exact hT, rfl⟩
    · intro t I oI TBq hTB m led h8 tk8 tt ht hJ off F2 N2
      refine shut fun X hX => ?_
      obtain ⟨j1, j2, ls2, ts2, k8, k9, hL2, hT2, rfl⟩ := hJ
      refine hX ?_
      clear hX X
      have K0 := F2.known0 (n := "told") ((if_neg (by decide)).trans (j2))
      have K1 := K0.known0 (n := "line") ((if_neg (by decide)).trans ((if_neg (by decide)).trans (j1)))
      clear F2 K0
      have hyt : lz[t]? = some lz[t] := List.getElem?_eq_getElem (by lia)
      generalize lz[t] = y at hyt
      rw [drop_at hyt] at hL2
      refine shut fun X hX => ?_
      obtain ⟨ty, r2, rfl, hyl, hr2⟩ := ws_cons hL2
      refine hX ?_
      clear hX X
      have hrl := hr2.len
      rw [List.length_drop] at hrl
      have hrs : r2.length ≤ 1000 := by lia
      clear hrl
      have e2 : @Ne Nat I td := Ne.symm (off (td, listOf ts2.toArray k9) (.tail _ (.tail _ (.tail _ (.head _)))))
      have e3 : ∀ q ∈ (I, oI) :: (td, listOf ts2.toArray k9) :: (wa, listOf xs.toArray nw) :: news, q.1 ≠ pb := all_cons (Ne.symm (off (pb, _) (.head _))) (all_cons (Nat.ne_of_gt l7) l3)
      k_steps
      refine get_call (by k_asm) (by k_asm) (by k_asm) (by k_asm) rfl (by show dp + 1 + 5 < recursionLimit; lia) (by show un + 3 + 50 < cLine; lia) (pull3 (by k_asm)) l1 l2 e3 hrs ?_
      intro h9 tk9 k10 F9 N9
      (try dsimp only)
      k_steps
      have b1 := hT2.len
      rw [List.length_append, List.length_take] at b1
      refine append_K (by k_asm) (by k_asm) (by k_upd) (hsz := by rw [List.size_toArray, sizeLine_eq]; lia) ?_
      intro h11 F11 N11
      rw [List.push_toArray] at N11
      (try dsimp only)
      k_steps
      exact hTB _ _ (TurnEnd.mk (by k_asm) (unpull3 (by k_asm)) (off.same (by rfl)) ⟨rfl, rfl, r2, ts2 ++ [.str (zt y) ty], _, _, hr2, by rw [take_succ hyt, ← List.append_assoc]; exact hT2.snoc y _ hyl, rfl⟩)
    · intro m led h8 tk8 hJ F2 N2
      refine shut fun X hX => ?_
      obtain ⟨j1, j2, ls2, ts2, k8, k9, hL2, hT2, rfl⟩ := hJ
      refine hX ?_
      clear hX X
      have K0 := F2.known0 (n := "told") j2
      clear F2
      rw [← hq, List.take_length] at hT2
      k_steps
      exact hret td ts2 _ _ k9 hT2 (by k_asm) (cb_drop (by k_asm) fun p hp => by rcases List.mem_cons.mp hp with rfl | hp; exact .tail _ (.tail _ (.tail _ (.head _))); exact .tail _ (.tail _ (.tail _ (.tail _ hp))))
end
end Mine
end
section
open PySem PySem.W PyProof.Rows PySem.Calls PyProof.Rows.LCg
set_option maxRecDepth 100000
namespace Mine
section
variable {prog : Program} {w : World} {A : Around} {E : Value → Shared → Prop} {s : Shared} {h₀ : Heap} {L I l : Addr} {m : Str → Option Value} {oI : Obj} {led : List (Addr × Obj)} {i : Nat} {vs : Array Value}
/-- the loop's name lies in a cell at the ledger's head -/
def JC (c : Addr) (J : (Str → Option Value) → List (Addr × Obj) → Prop) (m : Str → Option Value) (led : List (Addr × Obj)) : Prop :=
  ∃ oc led', led = (c, oc) :: led' ∧ (∃ v, oc.data = .cell v) ∧ (∀ p ∈ led', p.1 ≠ c) ∧ J m led'
theorem for_rangeC {env : Env} {x : Str} {px pos : Pos} {iter : Expr} {body : List Stmt} {Q : Flow → Shared → Prop} {m₀ : Str → Option Value} (_F₀ : Fr h₀ env.locals s.heap m₀) {a b : Int} (hlo : 0 ≤ a) (hb : 0 ≤ b) (hlo' : a ≤ 1000000) (hb' : b ≤ 1000000) (n : Nat) (hn : (b - a).toNat = n) (c : Addr) (J : Nat → (Str → Option Value) → List (Addr × Obj) → Prop) (hh : A.handled = none)
    (start : wpAny (model prog w) A (eval iter env) (RangeStart h₀ env.locals a b s (JC c (J 0))) E s)
    (turn : ∀ i I oI (TB : Flow → Shared → Prop), (∀ f s₃, LoopB (TurnEnd h₀ env.locals I oI s (JC c (J (i + 1)))) Q f s₃ → TB f s₃) → ∀ oc m led h tk t, i < n → J i m led → Off I ((c, oc) :: led) → (∀ p ∈ led, p.1 ≠ c) → oc.data = .cell (some (.int (a + (i : Int)) t)) → Fr h₀ env.locals h m → News h₀ env.locals h ((I, oI) :: (c, oc) :: led) →
      wpAny (model prog w) A (execs body env) TB E { s with heap := h, toks := tk })
    (fin : ∀ m led h tk, JC c (J n) m led → Fr h₀ env.locals h m → News h₀ env.locals h led → Q .next { s with heap := h, toks := tk })
    (hx : env.kindOf x = some .cell) (hk : env.scope.kind = .function) (hc : env.cells.lookup x = some c)
    (hs : ∀ x, foldedSetIterable iter env x = pure x := by intro _; rfl)
    (hE : PassesOwn (model prog w) A env E := by passes_own) :
    wpAny (model prog w) A (exec (.For (.Name x px) iter body [] pos) env) Q E s := by
  refine for_own n (fun i I s' => ∃ h tk m led, s' = { s with heap := h, toks := tk } ∧ Fr h₀ env.locals h m ∧ News h₀ env.locals h ((I, riObj (a + (i : Int)) ((n : Int) - (i : Int)) 1) :: led) ∧ Off I led ∧ JC c (J i) m led) ?_ ?_ ?_ hs hE
  · refine wpAny_mono start (fun xv s₁ z => ?_) fun _ _ z => z
    refine shut fun X hX => ?_
    obtain ⟨r, t, u, v, h, tk, m, led, rfl, rfl, R, F, N, hJ⟩ := z
    refine hX ?_
    clear hX X
    refine iter_range F N R (small_one (by omega) (by omega) (by omega) (by omega)) fun I h' F' N' lt => ⟨I, rfl, h', tk, m, led, rfl, F', ?_, fun p hp => Nat.ne_of_lt (lt p hp), hJ⟩
    rw [rangeSize_nat, hn] at N'
    simpa using N'
  · intro i I _ hi hJ0
    refine shut fun X hX => ?_
    obtain ⟨h, tk, m, led, rfl, F, N, off, oc, led', rfl, ⟨v0, hv0⟩, hoff, hJ⟩ := hJ0
    refine hX ?_
    clear hX X
    refine next_range F N (by omega) off fun h' F' N' => ⟨_, rfl, ?_⟩
    have zc := N' (c, oc) (.tail _ (.head _))
    refine wpAny_storeName_cell hk hx hc ⟨oc, zc.1, hv0⟩ fun h₂ hv hs₂ => ?_
    refine shut fun X hX => ?_
    obtain ⟨o', ho', hd'⟩ := hv
    refine hX ?_
    clear hX X
    have F₂ : Fr h₀ env.locals h₂ m := ⟨F'.ns.sameBut hs₂ (Ne.symm zc.2.1), fun b ob e => (hs₂.2 b (fun q => by rw [q, zc.2.2] at e; cases e)).trans (F'.keep b ob e), F'.above⟩
    have N₂ : News h₀ env.locals h₂ ((I, riObj (a + (i : Int) + 1) ((n : Int) - (i : Int) - 1) 1) :: (c, o') :: led') := fun p hp => by
      rcases List.mem_cons.mp hp with rfl | hp
      · have z := N' _ (.head _)
        exact ⟨(hs₂.2 I (fun q => off (c, oc) (.head _) q.symm)).trans z.1, z.2⟩
      · rcases List.mem_cons.mp hp with rfl | hp
        · exact ⟨ho', zc.2⟩
        · have z := N' p (.tail _ (.tail _ hp))
          exact ⟨(hs₂.2 _ (hoff p hp)).trans z.1, z.2⟩
    have off₂ : Off I ((c, o') :: led') := fun p hp => by
      rcases List.mem_cons.mp hp with rfl | hp
      · exact off (c, oc) (.head _)
      · exact off p (.tail _ hp)
    refine wpAny_mono (turn i I _ _ (fun _ _ h => h) o' m led' h₂ _ _ hi hJ off₂ hoff hd' F₂ N₂) (fun f s₃ h₃ => ?_) fun _ _ e => e
    have go : TurnEnd h₀ env.locals I (riObj (a + (i : Int) + 1) ((n : Int) - (i : Int) - 1) 1) s (JC c (J (i + 1))) s₃ → ∃ h tk m led, s₃ = { s with heap := h, toks := tk } ∧ Fr h₀ env.locals h m ∧ News h₀ env.locals h ((I, riObj (a + ((i + 1 : Nat) : Int)) ((n : Int) - ((i + 1 : Nat) : Int)) 1) :: led) ∧ Off I led ∧ JC c (J (i + 1)) m led := by
      intro hJ0
      refine shut fun X hX => ?_
      obtain ⟨h, tk, m, led, rfl, F, N, off, hJ⟩ := hJ0
      refine hX ?_
      clear hX X
      refine ⟨h, tk, m, led, rfl, F, ?_, off, hJ⟩
      rw [show a + ((i + 1 : Nat) : Int) = a + (i : Int) + 1 by omega, show (n : Int) - ((i + 1 : Nat) : Int) = (n : Int) - (i : Int) - 1 by omega]
      exact N
    cases f with
    | next => exact go h₃
    | cont => exact go h₃
    | brk => exact h₃
    | ret v => exact h₃
  · intro I _ hJ0
    refine shut fun X hX => ?_
    obtain ⟨h, tk, m, led, rfl, F, N, off, hJ⟩ := hJ0
    refine hX ?_
    clear hX X
    exact end_range hh F N (by omega) off fun h' F' N' => ⟨rfl, fin m led h' tk hJ F' N'⟩
end
end Mine
end
section
open PySem PySem.W PyProof.Rows PySem.Calls PyProof.Rows.LCg
set_option maxRecDepth 100000
namespace Mine
/-- where a turn of a comprehension ends: the ledger as it was -/
def TurnC (h₀ : Heap) (L : Addr) (m : Str → Option Value) (s₁ : Shared) (all : List (Addr × Obj)) (R : Value → Prop) (y : Value) (s₂ : Shared) : Prop :=
  ∃ h' tk, s₂ = { s₁ with heap := h', toks := tk } ∧ Fr h₀ L h' m ∧ News h₀ L h' all ∧ R y
theorem TurnC.mk {h₀ : Heap} {L : Addr} {m : Str → Option Value} {s₁ : Shared} {all : List (Addr × Obj)} {R : Value → Prop} {y : Value} {h' : Heap} {tk : Tok}
    (F : Fr h₀ L h' m) (N : News h₀ L h' all) (r : R y) : TurnC h₀ L m s₁ all R y { s₁ with heap := h', toks := tk } := ⟨h', tk, rfl, F, N, r⟩
section
variable {prog : Program} {w : World} {A : Around} {E : Value → Shared → Prop} {s : Shared} {h₀ : Heap} {L : Addr} {m : Str → Option Value} {env : Env}
theorem compT_inv {ct elt : Expr} {x : Str} {scope : Scope} {cl : List (Str × Addr)} {S : List (Addr × Obj) → Prop} {P : Nat → Value → Prop} {Fin : List Value → List (Addr × Obj) → Prop} {news : List (Addr × Obj)} (n : Nat) (R : Nat → List Value → Prop) (hS : S news) (fin : ∀ ys, R n ys → Fin ys news)
    (step : ∀ i ys, i < n → R i ys → ∀ v I oI C oC D m₂ h tk (E' : Value → Shared → Prop), P i v → NsObj oC m₂ → m₂ x = some v → Fr h₀ L h m → News h₀ L h ((I, oI) :: (C, oC) :: (D, LCg.lst ys) :: news) → Off3 I C D news → ((@Ne Nat I C) ∧ (@Ne Nat I D) ∧ (@Ne Nat C D)) →
      wpAny (model prog w) A (isTrue ct (compEnvC scope cl C env) (eval ct (compEnvC scope cl C env))) (fun ok s' => if ok = true then
        wpAny (model prog w) A (eval elt (compEnvC scope cl C env)) (TurnC h₀ L m { s with heap := h, toks := tk } ((I, oI) :: (C, oC) :: (D, LCg.lst ys) :: news) (fun y => R (i + 1) (ys ++ [y]))) E' s'
        else TurnC h₀ L m { s with heap := h, toks := tk } ((I, oI) :: (C, oC) :: (D, LCg.lst ys) :: news) (fun _ => R (i + 1) ys) Value.none s') E' { s with heap := h, toks := tk }) :
    ∀ k i ys, i + k = n → R i ys → LCt.CompRestT prog w A h₀ L m env ct elt x scope cl s S P Fin k i ys news
  | 0, i, ys, e, r => LCt.CompRestT.zero (fin ys (by rw [← e]; exact r))
  | k + 1, i, ys, e, r => by
    refine LCt.CompRestT.succ fun v I oI C oC D m₂ h tk E' hP hN hm F N off ne => ?_
    refine wpAny_mono (step i ys (by lia) r v I oI C oC D m₂ h tk E' hP hN hm F N off ne) (fun ok s' q => ?_) fun _ _ e => e
    cases ok with
    | true =>
      simp only [if_true] at q ⊢
      refine wpAny_mono q (fun y s₂ q => ?_) fun _ _ e => e
      obtain ⟨h', tk', rfl, F', N', r'⟩ := q
      exact ⟨h', tk', news, rfl, F', N', off, hS, compT_inv n R hS fin step k (i + 1) (ys ++ [y]) (by lia) r'⟩
    | false =>
      simp only [Bool.false_eq_true, if_false] at q ⊢
      obtain ⟨h', tk', rfl, F', N', r'⟩ := q
      exact ⟨h', tk', news, rfl, F', N', off, hS, compT_inv n R hS fin step k (i + 1) ys (by lia) r'⟩
theorem compU_inv {elt : Expr} {x : Str} {scope : Scope} {cl : List (Str × Addr)} {S : List (Addr × Obj) → Prop} {P : Nat → Value → Prop} {Fin : List Value → List (Addr × Obj) → Prop} {news : List (Addr × Obj)} (n : Nat) (R : Nat → List Value → Prop) (hS : S news) (fin : ∀ ys, R n ys → Fin ys news)
    (step : ∀ i ys, i < n → R i ys → ∀ v I oI C oC D m₂ h tk (E' : Value → Shared → Prop), P i v → NsObj oC m₂ → m₂ x = some v → Fr h₀ L h m → News h₀ L h ((I, oI) :: (C, oC) :: (D, LCg.lst ys) :: news) → Off3 I C D news → ((@Ne Nat I C) ∧ (@Ne Nat I D) ∧ (@Ne Nat C D)) →
      wpAny (model prog w) A (eval elt (compEnvC scope cl C env)) (TurnC h₀ L m { s with heap := h, toks := tk } ((I, oI) :: (C, oC) :: (D, LCg.lst ys) :: news) (fun y => R (i + 1) (ys ++ [y]))) E' { s with heap := h, toks := tk }) :
    ∀ k i ys, i + k = n → R i ys → CompRest prog w A h₀ L m env elt x scope cl s S P Fin k i ys news
  | 0, i, ys, e, r => CompRest.zero (fin ys (by rw [← e]; exact r))
  | k + 1, i, ys, e, r => by
    refine CompRest.succ fun v I oI C oC D m₂ h tk E' hP hN hm F N off ne => ?_
    refine wpAny_mono (step i ys (by lia) r v I oI C oC D m₂ h tk E' hP hN hm F N off ne) (fun y s₂ q => ?_) fun _ _ e => e
    obtain ⟨h', tk', rfl, F', N', r'⟩ := q
    exact ⟨h', tk', news, rfl, F', N', off, hS, compU_inv n R hS fin step k (i + 1) (ys ++ [y]) (by lia) r'⟩
end
theorem iaAt : ∀ {xs : List Value} {ns : List Int}, IntsAre xs ns → ∀ i, i < ns.length → ∃ t, xs[i]? = some (.int (ns.getD i 0) t)
  | _, _, .nil, _, h => absurd h (Nat.not_lt_zero _)
  | _, _, .cons n t _, 0, _ => ⟨t, rfl⟩
  | _, _, .cons _ _ r, i + 1, h => by
    obtain ⟨t, e⟩ := iaAt r i (Nat.lt_of_succ_lt_succ h)
    exact ⟨t, by simpa using e⟩
theorem iaSnoc : ∀ {xs : List Value} {ns : List Int}, IntsAre xs ns → ∀ n t, IntsAre (xs ++ [.int n t]) (ns ++ [n])
  | _, _, .nil, n, t => .cons n t .nil
  | _, _, .cons a u r, n, t => .cons a u (iaSnoc r n t)
/-- an item of a list of ints at an int place -/
theorem ints_item {xs : List Value} {ns : List Int} (h : IntsAre xs ns) {k : Int} {i : Nat} (hk : k = (i : Int)) (hi : i < ns.length) : ∃ t, xs.toArray[k.toNat]? = some (.int (ns.getD i 0) t) := by
  obtain ⟨t, e⟩ := iaAt h i hi
  refine ⟨t, ?_⟩
  rw [hk, Int.toNat_natCast, List.getElem?_toArray]
  exact e
theorem allLtMono {d e : Nat} (h : d ≤ e) : ∀ {l : List (Addr × Obj)}, AllLt d l → AllLt e l
  | [], _ => trivial
  | _ :: _, q => ⟨Nat.lt_of_lt_of_le q.1 h, allLtMono h q.2⟩
end Mine
end
section
open PySem PySem.W PyProof.Rows PySem.Calls PySem.Builtin.Re PyProof.Rows.LCg
set_option maxRecDepth 100000
namespace Mine
section
variable {w : World} {p : Program} {loose : List Str} {mean : ExcName → Option Value} {mg mb : Str → Option Value}
  {dp un : Nat} {gd : Option (List Code)} {cn : Str} {cs : Scope} {a : Addr} {ccd : Value} {cl : List (Str × Addr)} {outer : List Env} {A₀ : Around} {base h₀ : Heap} {L : Addr} {m : Str → Option Value} {s : Shared} {Q E : Value → Shared → Prop} {news : List (Addr × Obj)}
local macro_rules | `(tactic| walk_at "exec For Name Call cons nil") => `(tactic| (k_here; refine hold ?_))
local macro_rules | `(tactic| walk_at "exec For Name Name cons nil") => `(tactic| (k_here; refine hold ?_))
local macro_rules | `(tactic| walk_at "call type:range") => `(tactic| (k_here; (first | refine range1_rows (by k_asm) (by k_asm) ?_ | refine range2_rows (by k_asm) (by k_asm) ?_); intro h' tk' t₁ u₁ v₁ hR F' N' K'; (try dsimp only); (try k_fold)))
local macro_rules | `(tactic| walk_at "call builtin:len") => `(tactic| (k_here; (refine len_list (News.isList (by k_asm) (by first | exact .head _ | exact .tail _ (.head _) | exact .tail _ (.tail _ (.head _)) | exact .tail _ (.tail _ (.tail _ (.head _))) | exact .tail _ (.tail _ (.tail _ (.tail _ (.head _)))) | exact .tail _ (.tail _ (.tail _ (.tail _ (.tail _ (.head _))))) | exact .tail _ (.tail _ (.tail _ (.tail _ (.tail _ (.tail _ (.head _)))))) | exact .tail _ (.tail _ (.tail _ (.tail _ (.tail _ (.tail _ (.tail _ (.head _))))))))) (by simp only [List.size_toArray]; lia) ?_); (try simp only [List.size_toArray]); (try dsimp only); (try k_fold)))
local macro_rules | `(tactic| walk_at "subscriptTail") => `(tactic| (k_here; (refine item_list (News.isList (by k_asm) (by first | exact .head _ | exact .tail _ (.head _) | exact .tail _ (.tail _ (.head _)) | exact .tail _ (.tail _ (.tail _ (.head _))) | exact .tail _ (.tail _ (.tail _ (.tail _ (.head _)))) | exact .tail _ (.tail _ (.tail _ (.tail _ (.tail _ (.head _))))) | exact .tail _ (.tail _ (.tail _ (.tail _ (.tail _ (.tail _ (.head _)))))) | exact .tail _ (.tail _ (.tail _ (.tail _ (.tail _ (.tail _ (.tail _ (.head _))))))))) (by lia) (by lia) (by first | assumption | exact menu0 (by lia) | exact menu1 (by lia) | exact menu2 (by lia) | exact menu3 (by lia)) ?_); (try dsimp only); (try k_fold)))
local macro_rules | `(tactic| k_all) => `(tactic| first | with_reducible assumption | exact ltne (by assumption) | exact allne (by assumption))
local macro_rules | `(tactic| walk_at "eval ListComp") => `(tactic| (k_here; refine hold ?_))
local macro_rules | `(tactic| walk_at "CompSrcT") => `(tactic| (k_here; refine hold ?_))
local macro_rules | `(tactic| walk_at "CompSrc") => `(tactic| (k_here; refine hold ?_))
theorem swap2 {h₀ h : Heap} {L : Addr} {a b : Addr × Obj} {r : List (Addr × Obj)} (N : News h₀ L h (a :: b :: r)) : News h₀ L h (b :: a :: r) := fun p hp =>
  N p (match hp with | .head _ => .tail _ (.head _) | .tail _ (.head _) => .head _ | .tail _ (.tail _ h) => .tail _ (.tail _ h))
theorem rangeSize_nat2 (n : Nat) : Builtin.Range.rangeSize 0 (n : Int) 1 = ((n : Nat) : Int) := by
  have := rangeSize_nat 0 (n : Int)
  simpa using this
/-- the falls that end ahead, of the first j places -/
def FallsR (ms fs : List Int) (i j : Nat) (zs : List Value) : Prop := ∃ vs, IntsAre zs vs ∧ vs.length ≤ j ∧ (∀ v ∈ vs, ∃ k < j, ms.getD i 0 < ms.getD k 0 ∧ v = fs.getD k 0) ∧ ∀ k < j, ms.getD i 0 < ms.getD k 0 → fs.getD k 0 ∈ vs
theorem FallsR.yes {ms fs : List Int} {i j : Nat} {zs : List Value} (h : FallsR ms fs i j zs) (hlt : ms.getD i 0 < ms.getD j 0) (t : Tok) : FallsR ms fs i (j + 1) (zs ++ [.int (fs.getD j 0) t]) := by
  obtain ⟨vs, h1, h2, h3, h4⟩ := h
  refine ⟨vs ++ [fs.getD j 0], iaSnoc h1 _ _, by simp only [List.length_append, List.length_singleton]; lia, fun v hv => ?_, fun k hk hkl => ?_⟩
  · rcases List.mem_append.mp hv with hv | hv
    · obtain ⟨k, h5, h6⟩ := h3 v hv
      exact ⟨k, by lia, h6⟩
    · exact ⟨j, by lia, hlt, List.mem_singleton.mp hv⟩
  · by_cases e : k = j
    · subst e; exact List.mem_append_right _ (.head _)
    · exact List.mem_append_left _ (h4 k (by lia) hkl)
theorem FallsR.no {ms fs : List Int} {i j : Nat} {zs : List Value} (h : FallsR ms fs i j zs) (hlt : ¬ ms.getD i 0 < ms.getD j 0) : FallsR ms fs i (j + 1) zs := by
  obtain ⟨vs, h1, h2, h3, h4⟩ := h
  refine ⟨vs, h1, by lia, fun v hv => ?_, fun k hk hkl => ?_⟩
  · obtain ⟨k, h5, h6⟩ := h3 v hv
    exact ⟨k, by lia, h6⟩
  · by_cases e : k = j
    · subst e; exact absurd hkl hlt
    · exact h4 k (by lia) hkl
/-- the falls of the first places -/
def FallsTo (ms : List Int) (n : Nat) (fs : List Int) : Prop := fs.length = n ∧ ∀ p < n, 1 ≤ fs.getD p 0 ∧ (fs.getD p 0 = 1 ∨ ∃ k < p, ms.getD p 0 < ms.getD k 0 ∧ fs.getD p 0 = 1 + fs.getD k 0) ∧ ∀ k < p, ms.getD p 0 < ms.getD k 0 → 1 + fs.getD k 0 ≤ fs.getD p 0
theorem FallsTo.snoc {ms fs : List Int} {i : Nat} {vs : List Int} {M : Int} (h : FallsTo ms i fs) (h3 : ∀ v ∈ vs, ∃ k < i, ms.getD i 0 < ms.getD k 0 ∧ v = fs.getD k 0) (h4 : ∀ k < i, ms.getD i 0 < ms.getD k 0 → fs.getD k 0 ∈ vs)
    (hM : M ∈ [(0 : Int)] ++ vs) (hMx : ∀ a ∈ [(0 : Int)] ++ vs, a ≤ M) : FallsTo ms (i + 1) (fs ++ [1 + M]) := by
  have hlow : ∀ k, k < i → (fs ++ [1 + M]).getD k 0 = fs.getD k 0 := fun k hk => by
    simp only [List.getD_eq_getElem?_getD, List.getElem?_append_left (by rw [h.1]; exact hk : k < fs.length)]
  have hi : (fs ++ [1 + M]).getD i 0 = 1 + M := by
    simp only [List.getD_eq_getElem?_getD]
    rw [List.getElem?_append_right (by rw [h.1]; exact Nat.le_refl _), h.1, Nat.sub_self]; rfl
  refine ⟨by rw [List.length_append, h.1]; rfl, fun p hp => ?_⟩
  by_cases e : p = i
  · subst e
    rw [hi]
    have h0 := hMx 0 (by simp)
    refine ⟨by lia, ?_, fun k hk hkl => ?_⟩
    · rcases List.mem_append.mp hM with hM | hM
      · left; rw [List.mem_singleton.mp hM]; rfl
      · obtain ⟨k, h5, h6, h7⟩ := h3 M hM
        exact .inr ⟨k, h5, h6, by rw [hlow k h5, h7]⟩
    · have := hMx _ (List.mem_append_right _ (h4 k hk hkl))
      rw [hlow k hk]; lia
  · have hp' : p < i := by lia
    obtain ⟨h5, h6, h7⟩ := h.2 p hp'
    rw [hlow p hp']
    refine ⟨h5, h6.imp_right fun ⟨k, h8, h9, h10⟩ => ⟨k, h8, h9, by rw [hlow k (by lia)]; exact h10⟩, fun k hk hkl => by rw [hlow k (by lia)]; exact h7 k hk hkl⟩
def fmoms (ms : List Int) (k : Nat) : Int := ms.getD k 0
set_option maxHeartbeats 8000000 in
theorem falls_call (B : Below A₀ base outer h₀) (F : Fr h₀ L s.heap m) (X : (top.heap_1 w.params).In h₀) (T : Top p loose mean mg mb h₀) (hk : cs.kind = .function) (hdp : dp + 20 < recursionLimit) (hun : un + 200 < cLine)
  {ma : Addr} {xs : List Value} {ms : List Int} {nw : Nat} (hw : IntsAre xs ms) (hn : ms.length ≤ 63) (N : News h₀ L s.heap ((ma, listOf xs.toArray nw) :: news)) (hret : ∀ ra ys fs h' tk' k, IntsAre ys fs → FallsTo ms ms.length fs → Fr h₀ L h' m → News h₀ L h' ((ra, listOf ys.toArray k) :: (ma, listOf xs.toArray nw) :: news) → Q (.ref ra) { s with heap := h', toks := tk' }) :
  wpAny (model PySem.Challenge.pw_xe0013_01 w) (ktrTop dp un gd cn cs L a ccd cl outer) (call (.ref 187) [.ref ma]) Q E s := by
  refine wpAny_call ?_
  k_dflt (refine' code_defC ?k1 ?k2 ?k3 ?k4 ?k5 ?kA ?kF ?kK ?k6 ?k7 ?k8 ?k9 ?kB ?kD ?_ ?c2 ?c3 ?c4; (case kA => exact rfl); (case kF => exact rfl); (case kK => assumption); (case k1 => k_asm); (case k2 => k_asm); (case k3 => k_asm); (case k4 => k_asm); (case k5 => k_asm); (case k6 => k_is); (case k7 => k_is); (case k8 => ktr_room); (case k9 => exact BindsTo.of_eq rfl); (case kB => exact rfl); (case kD => decide +kernel); (case c2 => exact rfl); (case c3 => exact rfl); (case c4 => exact rfl); k_whole; intro g' L' h' tk' cells' FG' F' N' Y' B' X' T' l1; (try k_lt l1); obtain ⟨oc3, oc2, oc1, hE', e3', e2', e1'⟩ := CellsAre.three Y'; subst hE'; clear Y'; (try simp only [List.cons_append, List.nil_append] at N'); (try dsimp only); (try k_fold))
  replace F' : Fr g' L' h' (fun _ => none) := F'
  replace e1' : oc1.data = .cell (some (.ref ma)) := e1'
  replace e2' : oc2.data = .cell none := e2'
  replace e3' : oc3.data = .cell none := e3'
  obtain ⟨l0, l1⟩ := l1
  have q1 : AllLt (L' + 1) news := allLtMono (by lia) l1
  have q2 : AllLt (L' + 1 + 1) news := allLtMono (by lia) l1
  have q3 : AllLt (L' + 1 + 1 + 1) news := allLtMono (by lia) l1
  have hlen := hw.length
  k_steps
  show wpAny _ _ _ _ _ _
  rename_i fa h5 l5 h6 o2 d2 kF kN
  refine new_toks fun tk0 => ?_
  dsimp only
  refine for_rangeC (by assumption) (a := 0) (b := (ms.length : Nat)) (by lia) (by lia) (by lia) (by lia) ms.length (by lia) (L' + 1 + 1 + 1)
    (fun i m led => m = (fun _ => none) ∧ ∃ ys fs k, IntsAre ys fs ∧ FallsTo ms i fs ∧ led = (fa, listOf ys.toArray k) :: (L' + 1 + 1, o2) :: (L' + 1, oc1) :: (ma, listOf xs.toArray nw) :: news) rfl ?_ ?_ ?_ rfl rfl rfl
  · k_steps
    exact RangeStart.mk (by assumption) (by k_asm) (swap2 (by k_asm)) ⟨_, _, rfl, ⟨_, e3'⟩, all_cons (Nat.ne_of_gt l5.1) (all_cons (by show @Ne Nat (L' + 1 + 1) (L' + 1 + 1 + 1); lia) (all_cons (by show @Ne Nat (L' + 1) (L' + 1 + 1 + 1); lia) (all_cons (by show @Ne Nat (ma) (L' + 1 + 1 + 1); lia) (allne q3)))), rfl, [], [], _, .nil, ⟨rfl, fun p hp => absurd hp (Nat.not_lt_zero p)⟩, rfl⟩
  · rintro i I oI TBq hTB oc m led h tk t hi ⟨rfl, ys, fs, k, hys, hfs, rfl⟩ off hoff hd F N
    rw [Int.zero_add] at hd
    k_steps
    show wpAny _ _ _ _ _ _
    rename_i fl h8 l8 h9 kF2 kN2
    refine new_toks fun tk1 => ?_
    dsimp only
    k_dflt (refine LCt.ListComp_T (F₀ := by k_asm) (by with_unfolding_all rfl) (by decide) (by rfl) (by decide) (by rfl) ?_)
    k_steps
    rename_i h10 tk10 t10 u10 v10 hR F10 N10 K10
    refine LCt.CompSrcT.range (by rfl) F10 N10 hR (small_one (by lia) (by lia) (by lia) (by lia)) (rangeSize_nat2 i) (by rw [sizeLine_eq]; lia) fun g2 => ?_
    refine compT_inv i (FallsR ms fs i) trivial ?_ ?_ i 0 [] (by lia) ⟨[], .nil, Nat.le_refl _, fun _ h => (nomatch h), fun k hk => absurd hk (Nat.not_lt_zero _)⟩
    · rintro zs ⟨vs, hzs, hvl, hv1, hv2⟩
      have hz1 := hzs.length
      unfold LCg.FinE
      intro D h11 tk11 F11 N11 o11
      dsimp only
      refine add_lists (vs := [.int 0 (tk + 1)]) (ws := zs) F11 N11 (N11.isList (.tail _ (.head _))) (N11.isList (.head _)) ?_ (hsz := by simp only [List.length_singleton]; rw [sizeLine_eq]; lia)
      intro h12 F12 N12
      (try dsimp only)
      k_steps
      rename _ ∈ [(0 : Int)] ++ vs => hM1
      rename ∀ a ∈ [(0 : Int)] ++ vs, a ≤ _ => hM2
      rename News _ _ _ _ => kN3
      have N14 := cb_drop (news := (I, oI) :: (L' + 1 + 1 + 1, oc) :: (fa, listOf ys.toArray k) :: (L' + 1 + 1, o2) :: (L' + 1, oc1) :: (ma, listOf xs.toArray nw) :: news) kN3 (fun p hp => .tail _ (.tail _ (.tail _ hp)))
      have b1 : @Ne Nat I fa := Ne.symm (off (fa, listOf ys.toArray k) (.tail _ (.head _)))
      have b2 := l5.1
      have b3 : ∀ q ∈ (L' + 1 + 1, o2) :: (L' + 1, oc1) :: (ma, listOf xs.toArray nw) :: news, q.1 ≠ fa := all_cons (Nat.ne_of_lt l5.2.1) (all_cons (Nat.ne_of_lt l5.2.2.1) (all_cons (Nat.ne_of_lt l5.2.2.2.1) (allne l5.2.2.2.2)))
      have hl1 := hys.length
      have hl2 := hfs.1
      refine append_K (by k_asm) N14 (by k_upd) (hsz := by rw [List.size_toArray, sizeLine_eq]; lia) ?_
      intro h14 F15 N15
      rw [List.push_toArray] at N15
      (try dsimp only)
      k_steps
      exact hTB _ _ (TurnEnd.mk (by k_asm) N15 (off.same (by rfl)) ⟨oc, _, rfl, ⟨_, hd⟩, Off.same (I := L' + 1 + 1 + 1) hoff (by rfl), rfl, _, _, _, iaSnoc hys _ _, hfs.snoc hv1 hv2 hM1 hM2, rfl⟩)
    · rintro j zs hj hR2 v I2 oI2 C2 oC2 D2 m2 h11 tk11 E2 ⟨tv, rfl⟩ hN hm F11 N11 off3 ne
      obtain ⟨t1, g1⟩ := ints_item hw (k := 0 + (j : Int)) (i := j) (by lia) (by lia)
      obtain ⟨t2, g2⟩ := ints_item hw (k := (i : Int)) (i := i) (by lia) (by lia)
      obtain ⟨t3, g3⟩ := ints_item hys (k := 0 + (j : Int)) (i := j) (by lia) (by rw [hfs.1]; lia)
      have hl1 := hys.length
      have hl2 := hfs.1
      k_steps
      all_goals (have z1 : (0 + (j : Int)).toNat = j := by lia)
      all_goals (have z2 : ((i : Nat) : Int).toNat = i := by lia)
      · exact TurnC.mk (by k_asm) (by k_asm) (by rw [z1]; exact FallsR.yes hR2 (by simp only [z1, z2] at *; lia) _)
      · exact TurnC.mk (by k_asm) (by k_asm) (FallsR.no hR2 (by simp only [z1, z2] at *; lia))
  · intro m led h tk hJ0 F N
    refine shut fun X hX => ?_
    obtain ⟨oc, led', rfl, hv, hoff, rfl, ys, fs, k, hys, hfs, rfl⟩ := hJ0
    refine hX ?_
    clear hX X
    k_steps
    exact hret fa ys fs _ _ k hys hfs (by k_asm) (cb_drop (by k_asm) (fun p hp => by rcases List.mem_cons.mp hp with rfl | hp; exact .tail _ (.head _); exact .tail _ (.tail _ (.tail _ (.tail _ hp)))))
end
end Mine
end
section
open PySem PySem.W PyProof.Rows PySem.Calls PySem.Builtin.Re PyProof.Rows.LCg
set_option maxRecDepth 100000
namespace Mine
section
variable {w : World} {p : Program} {loose : List Str} {mean : ExcName → Option Value} {mg mb : Str → Option Value}
  {dp un : Nat} {gd : Option (List Code)} {cn : Str} {cs : Scope} {a : Addr} {ccd : Value} {cl : List (Str × Addr)} {outer : List Env} {A₀ : Around} {base h₀ : Heap} {L : Addr} {m : Str → Option Value} {s : Shared} {Q E : Value → Shared → Prop} {news : List (Addr × Obj)}
local macro_rules | `(tactic| walk_at "exec For Name Call cons nil") => `(tactic| (k_here; refine hold ?_))
local macro_rules | `(tactic| walk_at "exec For Name Name cons nil") => `(tactic| (k_here; refine hold ?_))
local macro_rules | `(tactic| walk_at "call type:range") => `(tactic| (k_here; (first | refine range1_rows (by k_asm) (by k_asm) ?_ | refine range2_rows (by k_asm) (by k_asm) ?_); intro h' tk' t₁ u₁ v₁ hR F' N' K'; (try dsimp only); (try k_fold)))
local macro_rules | `(tactic| walk_at "call builtin:len") => `(tactic| (k_here; (refine len_list (News.isList (by k_asm) (by first | exact .head _ | exact .tail _ (.head _) | exact .tail _ (.tail _ (.head _)) | exact .tail _ (.tail _ (.tail _ (.head _))) | exact .tail _ (.tail _ (.tail _ (.tail _ (.head _)))) | exact .tail _ (.tail _ (.tail _ (.tail _ (.tail _ (.head _))))) | exact .tail _ (.tail _ (.tail _ (.tail _ (.tail _ (.tail _ (.head _)))))) | exact .tail _ (.tail _ (.tail _ (.tail _ (.tail _ (.tail _ (.tail _ (.head _))))))))) (by simp only [List.size_toArray]; lia) ?_); (try simp only [List.size_toArray]); (try dsimp only); (try k_fold)))
local macro_rules | `(tactic| walk_at "subscriptTail") => `(tactic| (k_here; (refine item_list (News.isList (by k_asm) (by first | exact .head _ | exact .tail _ (.head _) | exact .tail _ (.tail _ (.head _)) | exact .tail _ (.tail _ (.tail _ (.head _))) | exact .tail _ (.tail _ (.tail _ (.tail _ (.head _)))) | exact .tail _ (.tail _ (.tail _ (.tail _ (.tail _ (.head _))))) | exact .tail _ (.tail _ (.tail _ (.tail _ (.tail _ (.tail _ (.head _)))))) | exact .tail _ (.tail _ (.tail _ (.tail _ (.tail _ (.tail _ (.tail _ (.head _))))))))) (by lia) (by lia) (by first | assumption | exact menu0 (by lia) | exact menu1 (by lia) | exact menu2 (by lia) | exact menu3 (by lia)) ?_); (try dsimp only); (try k_fold)))
local macro_rules | `(tactic| k_all) => `(tactic| first | with_reducible assumption | exact ltne (by assumption) | exact allne (by assumption))
local macro_rules | `(tactic| walk_at "eval ListComp") => `(tactic| (k_here; refine hold ?_))
local macro_rules | `(tactic| walk_at "CompSrcT") => `(tactic| (k_here; refine hold ?_))
local macro_rules | `(tactic| walk_at "CompSrc") => `(tactic| (k_here; refine hold ?_))
local macro_rules | `(tactic| walk_at "call builtin:list.append") => `(tactic| (k_here; refine hold ?_))
theorem all_app {d : Addr} {a b : List (Addr × Obj)} (h1 : ∀ q ∈ a, q.1 ≠ d) (h2 : ∀ q ∈ b, q.1 ≠ d) : ∀ q ∈ a ++ b, q.1 ≠ d := fun q hq => (List.mem_append.mp hq).elim (h1 q) (h2 q)
theorem off_ins {d : Addr} {a b c : List (Addr × Obj)} {r : Addr × Obj} (h : ∀ q ∈ a ++ (b ++ c), q.1 ≠ d) (hr : r.1 ≠ d) : ∀ q ∈ a ++ (r :: b ++ c), q.1 ≠ d := fun q hq => by
  simp only [List.mem_append, List.mem_cons, List.cons_append] at hq
  rcases hq with h1 | h1 | h1 | h1
  · exact h q (List.mem_append_left _ h1)
  · exact h1 ▸ hr
  · exact h q (List.mem_append_right _ (List.mem_append_left _ h1))
  · exact h q (List.mem_append_right _ (List.mem_append_right _ h1))
theorem cell_up {h₀ h : Heap} {L : Addr} {a i c : Addr × Obj} {r : List (Addr × Obj)} (N : News h₀ L h (a :: i :: c :: r)) : News h₀ L h (c :: a :: i :: r) := fun p hp =>
  N p (match hp with | .head _ => .tail _ (.tail _ (.head _)) | .tail _ (.head _) => .head _ | .tail _ (.tail _ (.head _)) => .tail _ (.head _) | .tail _ (.tail _ (.tail _ h)) => .tail _ (.tail _ (.tail _ h)))
/-- what a comprehension over range(j) with a test gathers -/
def CollR (c : Nat → Prop) (f : Nat → Int) (j : Nat) (zs : List Value) : Prop := ∃ vs, IntsAre zs vs ∧ vs.length ≤ j ∧ (∀ v ∈ vs, ∃ k < j, c k ∧ v = f k) ∧ ∀ k < j, c k → f k ∈ vs
theorem CollR.nil {c : Nat → Prop} {f : Nat → Int} : CollR c f 0 [] := ⟨[], .nil, Nat.le_refl _, fun _ h => (nomatch h), fun k hk => absurd hk (Nat.not_lt_zero _)⟩
theorem CollR.yes {c : Nat → Prop} {f : Nat → Int} {j : Nat} {zs : List Value} (h : CollR c f j zs) (hlt : c j) (t : Tok) : CollR c f (j + 1) (zs ++ [.int (f j) t]) := by
  obtain ⟨vs, h1, h2, h3, h4⟩ := h
  refine ⟨vs ++ [f j], iaSnoc h1 _ _, by simp only [List.length_append, List.length_singleton]; lia, fun v hv => ?_, fun k hk hkl => ?_⟩
  · rcases List.mem_append.mp hv with hv | hv
    · obtain ⟨k, h5, h6⟩ := h3 v hv
      exact ⟨k, by lia, h6⟩
    · exact ⟨j, by lia, hlt, List.mem_singleton.mp hv⟩
  · by_cases e : k = j
    · subst e; exact List.mem_append_right _ (.head _)
    · exact List.mem_append_left _ (h4 k (by lia) hkl)
theorem CollR.no {c : Nat → Prop} {f : Nat → Int} {j : Nat} {zs : List Value} (h : CollR c f j zs) (hlt : ¬ c j) : CollR c f (j + 1) zs := by
  obtain ⟨vs, h1, h2, h3, h4⟩ := h
  refine ⟨vs, h1, by lia, fun v hv => ?_, fun k hk hkl => ?_⟩
  · obtain ⟨k, h5, h6⟩ := h3 v hv
    exact ⟨k, by lia, h6⟩
  · by_cases e : k = j
    · subst e; exact absurd hkl hlt
    · exact h4 k (by lia) hkl
/-- how long k stays ahead of j -/
def KeepAt (ms fs : List Int) (j k : Nat) (v : Int) : Prop :=
  (ms.getD k 0 ≤ ms.getD j 0 ∧ v = 7) ∨ (ms.getD j 0 < ms.getD k 0 ∧ (∃ z < j, ms.getD k 0 ≤ ms.getD z 0 ∧ v = fs.getD z 0) ∧ ∀ z < j, ms.getD k 0 ≤ ms.getD z 0 → fs.getD z 0 ≤ v)
def KeepRow (ms fs : List Int) (j n : Nat) (ns : List Int) : Prop := ns.length = n ∧ ∀ k < n, KeepAt ms fs j k (ns.getD k 0)
theorem getD_low {l : List Int} {v : Int} {k : Nat} (h : k < l.length) : (l ++ [v]).getD k 0 = l.getD k 0 := by
  simp only [List.getD_eq_getElem?_getD, List.getElem?_append_left h]
theorem getD_top {l : List Int} {v : Int} {k : Nat} (h : l.length = k) : (l ++ [v]).getD k 0 = v := by
  simp only [List.getD_eq_getElem?_getD]
  rw [List.getElem?_append_right (by rw [h]; exact Nat.le_refl _), h, Nat.sub_self]; rfl
theorem KeepRow.snoc {ms fs ns : List Int} {j n : Nat} {v : Int} (h : KeepRow ms fs j n ns) (hv : KeepAt ms fs j n v) : KeepRow ms fs j (n + 1) (ns ++ [v]) := by
  refine ⟨by rw [List.length_append, h.1]; rfl, fun k hk => ?_⟩
  by_cases e : k = n
  · subst e; rw [getD_top h.1]; exact hv
  · rw [getD_low (by rw [h.1]; lia)]; exact h.2 k (by lia)
/-- the rows made so far -/
def Rows (ms fs : List Int) (n : Nat) (kv : List Value) (rows : List (Addr × Obj)) : Prop :=
  kv.length = n ∧ ∀ j < n, ∃ r xs ns k, kv[j]? = some (.ref r) ∧ (r, listOf xs.toArray k) ∈ rows ∧ IntsAre xs ns ∧ KeepRow ms fs j j ns
theorem Rows.snoc {ms fs : List Int} {n : Nat} {kv : List Value} {rows : List (Addr × Obj)} (h : Rows ms fs n kv rows) {r : Addr} {xs : List Value} {ns : List Int} {k : Nat} (hx : IntsAre xs ns) (hr : KeepRow ms fs n n ns) : Rows ms fs (n + 1) (kv ++ [.ref r]) ((r, listOf xs.toArray k) :: rows) := by
  refine ⟨by rw [List.length_append, h.1]; rfl, fun j hj => ?_⟩
  by_cases e : j = n
  · subst e
    exact ⟨r, xs, ns, k, by rw [List.getElem?_append_right (by rw [h.1]; exact Nat.le_refl _), h.1, Nat.sub_self]; rfl, .head _, hx, hr⟩
  · obtain ⟨r', xs', ns', k', h1, h2, h3, h4⟩ := h.2 j (by lia)
    exact ⟨r', xs', ns', k', by rw [List.getElem?_append_left (by rw [h.1]; lia)]; exact h1, .tail _ h2, h3, h4⟩
set_option maxHeartbeats 8000000 in
theorem keeps_call (B : Below A₀ base outer h₀) (F : Fr h₀ L s.heap m) (X : (top.heap_1 w.params).In h₀) (T : Top p loose mean mg mb h₀) (hk : cs.kind = .function) (hdp : dp + 20 < recursionLimit) (hun : un + 200 < cLine)
  {ma fa : Addr} {xs ys : List Value} {ms fs : List Int} {nw nf : Nat} (hw : IntsAre xs ms) (hf : IntsAre ys fs) (hfl : fs.length = ms.length) (hn : ms.length ≤ 63) (N : News h₀ L s.heap ((ma, listOf xs.toArray nw) :: (fa, listOf ys.toArray nf) :: news)) (hret : ∀ ka kv rows h' tk' k, Rows ms fs ms.length kv rows → (∀ p ∈ rows, p.1 ≠ ka) → Fr h₀ L h' m → News h₀ L h' ((ka, listOf kv.toArray k) :: (ma, listOf xs.toArray nw) :: (fa, listOf ys.toArray nf) :: (rows ++ news)) → Q (.ref ka) { s with heap := h', toks := tk' }) :
  wpAny (model PySem.Challenge.pw_xe0013_01 w) (ktrTop dp un gd cn cs L a ccd cl outer) (call (.ref 192) [.ref ma, .ref fa]) Q E s := by
  refine wpAny_call ?_
  k_dflt (refine' code_defC ?k1 ?k2 ?k3 ?k4 ?k5 ?kA ?kF ?kK ?k6 ?k7 ?k8 ?k9 ?kB ?kD ?_ ?c2 ?c3 ?c4; (case kA => exact rfl); (case kF => exact rfl); (case kK => assumption); (case k1 => k_asm); (case k2 => k_asm); (case k3 => k_asm); (case k4 => k_asm); (case k5 => k_asm); (case k6 => k_is); (case k7 => k_is); (case k8 => ktr_room); (case k9 => exact BindsTo.of_eq rfl); (case kB => exact rfl); (case kD => decide +kernel); (case c2 => exact rfl); (case c3 => exact rfl); (case c4 => exact rfl); k_whole; intro g' L' h' tk' cells' FG' F' N' Y' B' X' T' l1; (try k_lt l1); obtain ⟨oc3, oc2, oc1, hE', e3', e2', e1'⟩ := CellsAre.three Y'; subst hE'; clear Y'; (try simp only [List.cons_append, List.nil_append] at N'); (try dsimp only); (try k_fold))
  replace F' : Fr g' L' h' (fun _ => none) := F'
  replace e1' : oc1.data = .cell (some (.ref ma)) := e1'
  replace e2' : oc2.data = .cell (some (.ref fa)) := e2'
  replace e3' : oc3.data = .cell none := e3'
  refine shut fun X hX => ?_
  obtain ⟨l0, l0', l1⟩ := l1
  refine hX ?_
  clear hX X
  have q1 : AllLt (L' + 1) news := allLtMono (by lia) l1
  have q2 : AllLt (L' + 1 + 1) news := allLtMono (by lia) l1
  have q3 : AllLt (L' + 1 + 1 + 1) news := allLtMono (by lia) l1
  have hlen := hw.length
  have hlf := hf.length
  k_steps
  show wpAny _ _ _ _ _ _
  rename_i ka h5 l5 h6 kF kN
  refine new_toks fun tk0 => ?_
  dsimp only
  have l5' : @LT.lt Nat _ (L' + 1 + 1 + 1) ka := l5.1
  have l6 : ∀ rows : List (Addr × Obj), (∀ q ∈ rows, q.1 ≠ ka) → ∀ q ∈ (L' + 1 + 1, oc2) :: (L' + 1, oc1) :: (ma, listOf xs.toArray nw) :: (fa, listOf ys.toArray nf) :: (rows ++ news), q.1 ≠ ka := fun rows hr => all_cons (Nat.ne_of_lt l5.2.1) (all_cons (Nat.ne_of_lt l5.2.2.1) (all_cons (Nat.ne_of_lt l5.2.2.2.1) (all_cons (Nat.ne_of_lt l5.2.2.2.2.1) (all_app hr (allne l5.2.2.2.2.2)))))
  have l7 : ∀ rows : List (Addr × Obj), (∀ q ∈ rows, q.1 ≠ L' + 1 + 1 + 1) → ∀ q ∈ (L' + 1 + 1, oc2) :: (L' + 1, oc1) :: (ma, listOf xs.toArray nw) :: (fa, listOf ys.toArray nf) :: (rows ++ news), q.1 ≠ L' + 1 + 1 + 1 := fun rows hr => all_cons (by show @Ne Nat (L' + 1 + 1) _; lia) (all_cons (by show @Ne Nat (L' + 1) _; lia) (all_cons (by show @Ne Nat ma _; lia) (all_cons (by show @Ne Nat fa _; lia) (all_app hr (allne q3)))))
  clear l5
  refine for_range (by assumption) (a := 0) (b := (ms.length : Nat)) (by lia) (by lia) (by lia) (by lia) ms.length (by lia)
    (fun i m led => m "keeps" = some (.ref ka) ∧ ∃ oc kv k rows, (∃ v, oc.data = .cell v) ∧ Rows ms fs i kv rows ∧ (∀ p ∈ rows, p.1 ≠ ka) ∧ (∀ p ∈ rows, p.1 ≠ L' + 1 + 1 + 1) ∧ led = (L' + 1 + 1 + 1, oc) :: (ka, listOf kv.toArray k) :: (L' + 1 + 1, oc2) :: (L' + 1, oc1) :: (ma, listOf xs.toArray nw) :: (fa, listOf ys.toArray nf) :: (rows ++ news)) rfl ?_ ?_ ?_ rfl rfl
  · k_steps
    exact RangeStart.mk (by assumption) (by k_asm) (swap2 (by k_asm)) ⟨rfl, oc3, [], _, [], ⟨_, e3'⟩, ⟨rfl, fun p hp => absurd hp (Nat.not_lt_zero p)⟩, fun _ h => (nomatch h), fun _ h => (nomatch h), rfl⟩
  · rintro i I oI TBq hTB m led h tk t hi ⟨j1, oc, kv, k, rows, ⟨v0, hv0⟩, hrows, hr1, hr2, rfl⟩ off F N
    have K0 := F.known0 (n := "keeps") ((if_neg (by decide)).trans j1)
    clear F
    rw [Int.zero_add] at K0
    k_steps
    show wpAny _ _ _ _ _ _
    rename_i r h8 f8 n8 l8 h9 kF2 kN2
    refine new_toks fun tk1 => ?_
    dsimp only
    have l6' := l6 rows hr1
    have l7' := l7 rows hr2
    have b1 : @Ne Nat I ka := Ne.symm (off (ka, _) (.tail _ (.head _)))
    have b2 : @Ne Nat I (L' + 1 + 1 + 1) := Ne.symm (off (L' + 1 + 1 + 1, _) (.head _))
    have b3 : @LT.lt Nat _ (L' + 1 + 1 + 1) r := l8.2.1
    have b4 : @LT.lt Nat _ ka r := l8.2.2.1
    have b5 : ∀ q ∈ (I, oI) :: (ka, listOf kv.toArray k) :: (L' + 1 + 1, oc2) :: (L' + 1, oc1) :: (ma, listOf xs.toArray nw) :: (fa, listOf ys.toArray nf) :: (rows ++ news), q.1 ≠ r := all_cons (Nat.ne_of_lt l8.1) (all_cons (Nat.ne_of_lt l8.2.2.1) (all_cons (Nat.ne_of_lt l8.2.2.2.1) (all_cons (Nat.ne_of_lt l8.2.2.2.2.1) (all_cons (Nat.ne_of_lt l8.2.2.2.2.2.1) (all_cons (Nat.ne_of_lt l8.2.2.2.2.2.2.1) (allne l8.2.2.2.2.2.2.2))))))
    have b6 : ∀ q ∈ (I, oI) :: (ka, listOf kv.toArray k) :: (L' + 1 + 1, oc2) :: (L' + 1, oc1) :: (ma, listOf xs.toArray nw) :: (fa, listOf ys.toArray nf) :: (rows ++ news), q.1 ≠ L' + 1 + 1 + 1 := all_cons b2 (all_cons (Nat.ne_of_gt l5') l7')
    have b9 : @LT.lt Nat _ I r := l8.1
    clear l8
    refine for_rangeC (by assumption) (a := 0) (b := (i : Nat)) (by lia) (by lia) (by lia) (by lia) i (by lia) (L' + 1 + 1 + 1)
      (fun kk m led => m "keeps" = some (.ref ka) ∧ m "row" = some (.ref r) ∧ m "place" = some (.int i t) ∧ ∃ rx rn k', IntsAre rx rn ∧ KeepRow ms fs i kk rn ∧ led = (r, listOf rx.toArray k') :: (I, oI) :: (ka, listOf kv.toArray k) :: (L' + 1 + 1, oc2) :: (L' + 1, oc1) :: (ma, listOf xs.toArray nw) :: (fa, listOf ys.toArray nf) :: (rows ++ news)) rfl ?_ ?_ ?_ rfl rfl rfl
    · k_steps
      exact RangeStart.mk (by assumption) (by k_asm) (cell_up (by k_asm)) ⟨oc, _, rfl, ⟨_, hv0⟩, all_cons (Nat.ne_of_gt b3) b6, rfl, rfl, rfl, [], [], _, .nil, ⟨rfl, fun p hp => absurd hp (Nat.not_lt_zero p)⟩, rfl⟩
    · rintro kk I2 oI2 TBq hTB oc' m led h10 tk10 t10 hkk ⟨j1, j2, j3, rx, rn, k', hrx, hrn, rfl⟩ off2 hoff2 hd F N
      rw [Int.zero_add] at hd
      have K0 := F.known0 (n := "place") (j3)
      have K1 := K0.known0 (n := "row") ((if_neg (by decide)).trans (j2))
      have K2 := K1.known0 (n := "keeps") ((if_neg (by decide)).trans ((if_neg (by decide)).trans (j1)))
      clear F K0 K1
      obtain ⟨tx1, g1⟩ := ints_item hw (k := (kk : Int)) (i := kk) rfl (by lia)
      obtain ⟨tx2, g2⟩ := ints_item hw (k := (i : Int)) (i := i) rfl (by lia)
      have hrl := hrx.length
      have hrl2 := hrn.1
      have b7 : @Ne Nat I2 r := Ne.symm (off2 (r, _) (.tail _ (.head _)))
      k_steps
      · show wpAny _ _ _ _ _ _
        have hle : ms.getD kk 0 ≤ ms.getD i 0 := by simp only [Int.toNat_natCast] at *; lia
        refine append_K (by k_asm) (by k_asm) (by k_upd) (hsz := by rw [List.size_toArray, sizeLine_eq]; lia) ?_
        intro h11 F11 N11
        rw [List.push_toArray] at N11
        (try dsimp only)
        k_steps
        exact hTB _ _ (TurnEnd.mk (by k_asm) N11 (off2.same (by rfl)) ⟨oc', _, rfl, ⟨_, hd⟩, Off.same (I := L' + 1 + 1 + 1) hoff2 (by rfl), rfl, rfl, rfl, _, _, _, iaSnoc hrx 7 _, hrn.snoc (.inl ⟨hle, rfl⟩), rfl⟩)
      · show wpAny _ _ _ _ _ _
        have hlt : ms.getD i 0 < ms.getD kk 0 := by simp only [Int.toNat_natCast] at *; lia
        refine new_toks fun tk2 => ?_
        dsimp only
        k_dflt (refine LCt.ListComp_T (F₀ := by k_asm) (by with_unfolding_all rfl) (by decide) (by rfl) (by decide) (by rfl) ?_)
        k_steps
        rename_i h12 tk12 t12 u12 v12 hR F12 N12 K12
        refine LCt.CompSrcT.range (by rfl) F12 N12 hR (small_one (by lia) (by lia) (by lia) (by lia)) (rangeSize_nat2 i) (by rw [sizeLine_eq]; lia) fun g2 => ?_
        refine compT_inv i (CollR (fun z => ms.getD kk 0 ≤ ms.getD z 0) (fun z => fs.getD z 0)) trivial ?_ ?_ i 0 [] (by lia) CollR.nil
        · rintro zs ⟨vs, hzs, hvl, hv1, hv2⟩
          have hz1 := hzs.length
          unfold LCg.FinE
          intro D h13 tk13 F13 N13 o13
          dsimp only
          k_steps
          refine max_list_N (by rfl) F13 N13 (N13.isList (.head _)) hzs (List.length_pos_of_mem (hv2 kk hkk (Int.le_refl _))) ?_
          intro h14 M t14 tk14 F14 N14 hM1 hM2
          (try dsimp only)
          k_steps
          show wpAny _ _ _ _ _ _
          have N15 := cb_drop N14 (fun p hp => .tail _ hp)
          refine append_K (by k_asm) N15 (by k_upd) (hsz := by rw [List.size_toArray, sizeLine_eq]; lia) ?_
          intro h11 F11 N11
          rw [List.push_toArray] at N11
          (try dsimp only)
          k_steps
          have hka : KeepAt ms fs i kk M := .inr ⟨hlt, by obtain ⟨z, h1, h2, h3⟩ := hv1 M hM1; exact ⟨z, h1, h2, h3⟩, fun z hz1 hz2 => hM2 _ (hv2 z hz1 hz2)⟩
          exact hTB _ _ (TurnEnd.mk (by k_asm) N11 (off2.same (by rfl)) ⟨oc', _, rfl, ⟨_, hd⟩, Off.same (I := L' + 1 + 1 + 1) hoff2 (by rfl), rfl, rfl, rfl, _, _, _, iaSnoc hrx M _, hrn.snoc hka, rfl⟩)
        · rintro j zs hj hR2 v I3 oI3 C3 oC3 D3 m3 h13 tk13 E3 ⟨tv, rfl⟩ hN hm F13 N13 off3 ne
          obtain ⟨t1, g1⟩ := ints_item hw (k := 0 + (j : Int)) (i := j) (by lia) (by lia)
          obtain ⟨t2, g2⟩ := ints_item hw (k := (kk : Int)) (i := kk) (by lia) (by lia)
          obtain ⟨t3, g3⟩ := ints_item hf (k := 0 + (j : Int)) (i := j) (by lia) (by lia)
          k_steps
          all_goals (have z1 : (0 + (j : Int)).toNat = j := by lia)
          all_goals (have z2 : ((kk : Nat) : Int).toNat = kk := by lia)
          · exact TurnC.mk (by k_asm) (by k_asm) (by rw [z1]; exact CollR.yes (f := fun z => fs.getD z 0) hR2 (by simp only [z1, z2] at *; lia) _)
          · exact TurnC.mk (by k_asm) (by k_asm) (CollR.no hR2 (by simp only [z1, z2] at *; lia))
    · intro m led h10 tk10 hJ0 F N
      refine shut fun X hX => ?_
      obtain ⟨oc', led', rfl, hv, hoff, j1, j2, j3, rx, rn, k', hrx, hrn, rfl⟩ := hJ0
      refine hX ?_
      clear hX X
      have K0 := F.known0 (n := "row") (j2)
      have K1 := K0.known0 (n := "keeps") ((if_neg (by decide)).trans (j1))
      clear F K0
      have b8 := hrows.1
      k_steps
      show wpAny _ _ _ _ _ _
      refine append_K (by k_asm) (by k_asm) (by k_upd) (hsz := by rw [List.size_toArray, sizeLine_eq]; lia) ?_
      intro h11 F11 N11
      rw [List.push_toArray] at N11
      (try dsimp only)
      k_steps
      have N12 := cb_drop (news := (I, oI) :: (L' + 1 + 1 + 1, oc') :: (ka, listOf (kv ++ [Value.ref r]).toArray (k + 1)) :: (L' + 1 + 1, oc2) :: (L' + 1, oc1) :: (ma, listOf xs.toArray nw) :: (fa, listOf ys.toArray nf) :: ((r, listOf rx.toArray k') :: rows ++ news)) N11 (by repeat' first | exact sub_rfl | refine sub_cons (by repeat first | exact .head _ | refine .tail _ ?_ | refine List.mem_append_right _ ?_) ?_ | refine sub_skip ?_ | exact sub_inl | refine sub_app ?_ ?_ | refine sub_inr ?_)
      exact hTB _ _ (TurnEnd.mk (by k_asm) N12 (Off.same (I := I) (off_ins (r := (r, listOf rx.toArray k')) (a := [_, _, _, _, _, _]) off (Nat.ne_of_gt b9)) (by rfl)) ⟨rfl, oc', kv ++ [Value.ref r], _, _, hv, hrows.snoc hrx hrn, all_cons (Nat.ne_of_gt b4) hr1, all_cons (Nat.ne_of_gt b3) hr2, rfl⟩)
  · intro m led h tk hJ0 F N
    refine shut fun X hX => ?_
    obtain ⟨j1, oc, kv, k, rows, hv, hrows, hr1, hr2, rfl⟩ := hJ0
    refine hX ?_
    clear hX X
    have K0 := F.known0 (n := "keeps") j1
    clear F
    k_steps
    exact hret ka kv rows _ _ k hrows hr1 (by k_asm) (cb_drop (by k_asm) (fun p hp => by rcases List.mem_cons.mp hp with h | hp; exact .tail _ (h ▸ .head _); exact .tail _ (.tail _ (.tail _ (.tail _ hp)))))
end
end Mine
end
section
open PySem PySem.W PyProof.Rows PySem.Calls PySem.Builtin.Re PyProof.Rows.LCg
set_option maxRecDepth 100000
namespace Mine
section
variable {w : World} {p : Program} {loose : List Str} {mean : ExcName → Option Value} {mg mb : Str → Option Value}
  {dp un : Nat} {gd : Option (List Code)} {cn : Str} {cs : Scope} {a : Addr} {ccd : Value} {cl : List (Str × Addr)} {outer : List Env} {A₀ : Around} {base h₀ : Heap} {L : Addr} {m : Str → Option Value} {s : Shared} {Q E : Value → Shared → Prop} {news : List (Addr × Obj)}
local macro_rules | `(tactic| walk_at "exec For Name Call cons nil") => `(tactic| (k_here; refine hold ?_))
local macro_rules | `(tactic| walk_at "exec For Name Name cons nil") => `(tactic| (k_here; refine hold ?_))
local macro_rules | `(tactic| walk_at "call type:range") => `(tactic| (k_here; (first | refine range1_rows (by k_asm) (by k_asm) ?_ | refine range2_rows (by k_asm) (by k_asm) ?_); intro h' tk' t₁ u₁ v₁ hR F' N' K'; (try dsimp only); (try k_fold)))
local macro_rules | `(tactic| walk_at "call builtin:len") => `(tactic| (k_here; (refine len_list (News.isList (by k_asm) (by first | exact .head _ | exact .tail _ (.head _) | exact .tail _ (.tail _ (.head _)) | exact .tail _ (.tail _ (.tail _ (.head _))) | exact .tail _ (.tail _ (.tail _ (.tail _ (.head _)))) | exact .tail _ (.tail _ (.tail _ (.tail _ (.tail _ (.head _))))) | exact .tail _ (.tail _ (.tail _ (.tail _ (.tail _ (.tail _ (.head _)))))) | exact .tail _ (.tail _ (.tail _ (.tail _ (.tail _ (.tail _ (.tail _ (.head _))))))))) (by simp only [List.size_toArray]; lia) ?_); (try simp only [List.size_toArray]); (try dsimp only); (try k_fold)))
local macro_rules | `(tactic| walk_at "subscriptTail") => `(tactic| (k_here; (refine item_list (News.isList (by k_asm) (by first | exact .head _ | exact .tail _ (.head _) | exact .tail _ (.tail _ (.head _)) | exact .tail _ (.tail _ (.tail _ (.head _))) | exact .tail _ (.tail _ (.tail _ (.tail _ (.head _)))) | exact .tail _ (.tail _ (.tail _ (.tail _ (.tail _ (.head _))))) | exact .tail _ (.tail _ (.tail _ (.tail _ (.tail _ (.tail _ (.head _)))))) | exact .tail _ (.tail _ (.tail _ (.tail _ (.tail _ (.tail _ (.tail _ (.head _))))))))) (by lia) (by lia) (by first | assumption | exact menu0 (by lia) | exact menu1 (by lia) | exact menu2 (by lia) | exact menu3 (by lia)) ?_); (try dsimp only); (try k_fold)))
local macro_rules | `(tactic| k_all) => `(tactic| first | with_reducible assumption | exact ltne (by assumption) | exact allne (by assumption))
local macro_rules | `(tactic| walk_at "eval ListComp") => `(tactic| (k_here; refine hold ?_))
local macro_rules | `(tactic| walk_at "CompSrcT") => `(tactic| (k_here; refine hold ?_))
local macro_rules | `(tactic| walk_at "CompSrc") => `(tactic| (k_here; refine hold ?_))
local macro_rules | `(tactic| walk_at "call builtin:list.append") => `(tactic| (k_here; refine hold ?_))
local macro_rules | `(tactic| walk_at "binaryOp Mult ref int") => `(tactic| (k_here; refine hold ?_))
local macro_rules | `(tactic| walk_at "binaryOp Mult") => `(tactic| (k_here; refine hold ?_))
local macro_rules | `(tactic| walk_at "setItem ref int") => `(tactic| (k_here; refine hold ?_))
theorem setL_at : ∀ {l : List Value} {i : Nat} {v : Value}, i < l.length → ki_setL l i v = some (l.set i v)
  | x :: r, 0, v, _ => rfl
  | x :: r, i + 1, v, h => by
    have := setL_at (l := r) (i := i) (v := v) (Nat.lt_of_succ_lt_succ h)
    simp only [ki_setL, this, List.set_cons_succ]
theorem rep_one (v : Value) : ∀ n : Nat, (List.replicate n [v]).flatten = List.replicate n v
  | 0 => rfl
  | n + 1 => by rw [List.replicate_succ, List.replicate_succ, List.flatten_cons, rep_one v n]; rfl
local macro_rules | `(tactic| walk_at "subscriptTail") => `(tactic| (k_here; (refine item_list (by assumption) (by lia) (by lia) (by assumption) ?_); (try dsimp only); (try k_fold)))
/-- how many are ahead -/
def cntA (P : Nat → Nat → Bool) (n p : Nat) : Nat := ((List.range p).filter (P p)).length + ((List.range' (p + 1) (n - (p + 1))).filter (fun k => !P k p)).length
/-- the row that is due, as far as it is written -/
def DueTo (row zs : List Nat) (p : Nat) (ys : List Value) : Prop := ys.length = zs.length ∧ ∀ q < zs.length, ∃ t, ys[q]? = some (.str (if row.getD q 0 < p then zt (zs.getD (row.getD q 0) 0) else "") t)
theorem rangeSize_nat3 (p n : Nat) : Builtin.Range.rangeSize ((p : Int) + 1) (n : Int) 1 = ((n - (p + 1) : Nat) : Int) := by
  rw [rangeSize_nat]; lia
theorem cnt_yes {f : Nat → Bool} {j : Nat} {l : List Value} (h : l.length = ((List.range j).filter f).length) (hf : f j = true) (v : Value) : (l ++ [v]).length = ((List.range (j + 1)).filter f).length := by
  rw [List.range_succ, List.filter_append, List.length_append, List.length_append, h, List.filter_cons, if_pos hf]; rfl
theorem cnt_no {f : Nat → Bool} {j : Nat} {l : List Value} (h : l.length = ((List.range j).filter f).length) (hf : ¬ f j = true) : l.length = ((List.range (j + 1)).filter f).length := by
  rw [List.range_succ, List.filter_append, List.length_append, h, List.filter_cons, if_neg hf]; rfl
theorem cntr_yes {f : Nat → Bool} {j a : Nat} {l : List Value} (h : l.length = ((List.range' a j).filter f).length) (hf : f (a + j) = true) (v : Value) : (l ++ [v]).length = ((List.range' a (j + 1)).filter f).length := by
  rw [List.range'_concat, List.filter_append, List.length_append, List.length_append, h, List.filter_cons, Nat.one_mul, if_pos hf]; rfl
theorem cntr_no {f : Nat → Bool} {j a : Nat} {l : List Value} (h : l.length = ((List.range' a j).filter f).length) (hf : f (a + j) = false) : l.length = ((List.range' a (j + 1)).filter f).length := by
  rw [List.range'_concat, List.filter_append, List.length_append, h, List.filter_cons, Nat.one_mul, if_neg (by rw [hf]; decide)]; rfl
theorem DueTo.zero {row zs : List Nat} {t : Tok} : DueTo row zs 0 (List.replicate zs.length (.str "" t)) :=
  ⟨List.length_replicate, fun q hq => ⟨t, by rw [List.getElem?_replicate, if_pos hq, if_neg (Nat.not_lt_zero _)]⟩⟩
theorem ws_of : ∀ {ys : List Value} {zs : List Nat}, ys.length = zs.length → (∀ q < zs.length, ∃ t, ys[q]? = some (.str (zt (zs.getD q 0)) t)) → (∀ z ∈ zs, z < 576) → Ws ys zs
  | [], [], _, _, _ => trivial
  | y :: ys, z :: zs, h, h2, h3 => by
    refine ⟨?_, h3 z (.head _), ws_of (Nat.succ.inj h) (fun q hq => ?_) (fun z hz => h3 z (.tail _ hz))⟩
    · obtain ⟨t, e⟩ := h2 0 (Nat.zero_lt_succ _)
      exact ⟨t, by simpa using e⟩
    · obtain ⟨t, e⟩ := h2 (q + 1) (Nat.succ_lt_succ hq)
      exact ⟨t, by simpa using e⟩
theorem DueTo.ws {row zs : List Nat} {ys : List Value} (h : DueTo row zs zs.length ys) (hrl : row.length = zs.length) (hrn : ∀ p ∈ row, p < zs.length) (hlt : ∀ z ∈ zs, z < 576) : Ws ys (row.map (fun p => zs.getD p 0)) := by
  have hg : ∀ q, q < row.length → (row.map (fun p => zs.getD p 0)).getD q 0 = zs.getD (row.getD q 0) 0 := fun q hq => by
    simp only [List.getD_eq_getElem?_getD, List.getElem?_map, List.getElem?_eq_getElem hq, Option.map_some, Option.getD_some]
  have hin : ∀ q, q < row.length → row.getD q 0 < zs.length := fun q hq => by
    rw [List.getD_eq_getElem?_getD, List.getElem?_eq_getElem hq]; exact hrn _ (List.getElem_mem hq)
  refine ws_of (by rw [h.1, List.length_map, hrl]) (fun q hq => ?_) (fun z hz => ?_)
  · rw [List.length_map] at hq
    obtain ⟨t, e⟩ := h.2 q (by lia)
    rw [if_pos (hin q hq)] at e
    exact ⟨t, by rw [hg q hq]; exact e⟩
  · obtain ⟨p, hp, rfl⟩ := List.mem_map.mp hz
    have := hrn p hp
    rw [List.getD_eq_getElem?_getD, List.getElem?_eq_getElem this]
    exact hlt _ (List.getElem_mem this)
theorem DueTo.step {row zs : List Nat} {p c : Nat} {ys : List Value} (h : DueTo row zs p ys) (hnd : row.Nodup) (hrl : row.length = zs.length) (hc : row[c]? = some p) (t : Tok) : DueTo row zs (p + 1) (ys.set c (.str (zt (zs.getD p 0)) t)) := by
  obtain ⟨hc1, hc2⟩ := List.getElem?_eq_some_iff.mp hc
  refine ⟨by rw [List.length_set]; exact h.1, fun q hq => ?_⟩
  by_cases e : c = q
  · subst e
    refine ⟨t, ?_⟩
    have : row.getD c 0 = p := by rw [List.getD_eq_getElem?_getD, hc]; rfl
    rw [List.getElem?_set_self (by rw [h.1]; exact hq), this, if_pos (Nat.lt_succ_self p)]
  · obtain ⟨t', h'⟩ := h.2 q hq
    refine ⟨t', ?_⟩
    rw [List.getElem?_set_ne e, h']
    have hne : row.getD q 0 ≠ p := by
      have hq' : q < row.length := by lia
      rw [List.getD_eq_getElem?_getD, List.getElem?_eq_getElem hq', Option.getD_some]
      intro e2
      exact e ((List.getElem_inj hnd).mp (hc2.trans e2.symm))
    have : row.getD q 0 < p + 1 ↔ row.getD q 0 < p := by lia
    simp only [this]
set_option maxHeartbeats 8000000 in
theorem due_call (B : Below A₀ base outer h₀) (F : Fr h₀ L s.heap m) (X : (top.heap_1 w.params).In h₀) (T : Top p loose mean mg mb h₀) (hk : cs.kind = .function) (hdp : dp + 20 < recursionLimit) (hun : un + 200 < cLine)
  {wa ka : Addr} {r : Nat} {tr : Tok} {xs kv : List Value} {zs row : List Nat} {ms fs : List Int} {nw nk : Nat} {P : Nat → Nat → Bool} {rows : List (Addr × Obj)} (hw : Ws xs zs) (hk1 : Rows ms fs zs.length kv rows) (hn : zs.length ≤ 63)
  (hP : ∀ j < zs.length, ∀ k < j, ∀ v, KeepAt ms fs j k v → (P j k = true ↔ (r : Int) < v)) (hnd : row.Nodup) (hrn : ∀ p ∈ row, p < zs.length) (hrl : row.length = zs.length) (hrow : ∀ p < zs.length, row[cntA P zs.length p]? = some p) (N : News h₀ L s.heap ((wa, listOf xs.toArray nw) :: (ka, listOf kv.toArray nk) :: (rows ++ news))) (hret : ∀ du ys h' tk' k, Ws ys (row.map (fun p => zs.getD p 0)) → Fr h₀ L h' m → News h₀ L h' ((du, listOf ys.toArray k) :: (wa, listOf xs.toArray nw) :: (ka, listOf kv.toArray nk) :: (rows ++ news)) → Q (.ref du) { s with heap := h', toks := tk' }) :
  wpAny (model PySem.Challenge.pw_xe0013_01 w) (ktrTop dp un gd cn cs L a ccd cl outer) (call (.ref 197) [.ref wa, .ref ka, .int (r : Nat) tr]) Q E s := by
  refine wpAny_call ?_
  k_dflt (refine' code_defC ?k1 ?k2 ?k3 ?k4 ?k5 ?kA ?kF ?kK ?k6 ?k7 ?k8 ?k9 ?kB ?kD ?_ ?c2 ?c3 ?c4; (case kA => exact rfl); (case kF => exact rfl); (case kK => assumption); (case k1 => k_asm); (case k2 => k_asm); (case k3 => k_asm); (case k4 => k_asm); (case k5 => k_asm); (case k6 => k_is); (case k7 => k_is); (case k8 => ktr_room); (case k9 => exact BindsTo.of_eq rfl); (case kB => exact rfl); (case kD => decide +kernel); (case c2 => exact rfl); (case c3 => exact rfl); (case c4 => exact rfl); k_whole; intro g' L' h' tk' cells' FG' F' N' Y' B' X' T' l1; (try k_lt l1); obtain ⟨oc3, oc2, oc1, hE', e3', e2', e1'⟩ := CellsAre.three Y'; subst hE'; clear Y'; (try simp only [List.cons_append, List.nil_append] at N'); (try dsimp only); (try k_fold))
  replace F' : Fr g' L' h' (fun y => if y = "words" then some (.ref wa) else none) := F'
  replace e1' : oc1.data = .cell (some (.ref ka)) := e1'
  replace e2' : oc2.data = .cell (some (.int r tr)) := e2'
  replace e3' : oc3.data = .cell none := e3'
  refine shut fun X hX => ?_
  obtain ⟨l0, l0', l1⟩ := l1
  refine hX ?_
  clear hX X
  have q3 : AllLt (L' + 1 + 1 + 1) (rows ++ news) := allLtMono (by lia) l1
  have hlen := hw.len
  k_steps
  show wpAny _ _ _ _ _ _
  refine KMa.mul (vs := [.str "" tk']) (ws := List.replicate zs.length (.str "" tk')) (by k_asm) (by k_asm) (News.isList (by k_asm) (.head _)) (by lia) (by lia) (by simp only [List.length_singleton]; lia) (by rw [Int.toNat_natCast, rep_one, hlen]) ?_
  intro du h5 F5 N5 l5
  replace N5 := cb_drop (news := (du, listOf (List.replicate zs.length (.str "" tk')).toArray 0) :: (L' + 1 + 1 + 1, oc3) :: (L' + 1 + 1, oc2) :: (L' + 1, oc1) :: (wa, listOf xs.toArray nw) :: (ka, listOf kv.toArray nk) :: (rows ++ news)) N5 (fun p hp => by rcases List.mem_cons.mp hp with h | hp; exact h ▸ .head _; exact .tail _ (.tail _ hp))
  replace l5 := allLt_of l5
  simp only [AllLt] at l5
  (try dsimp only)
  k_steps
  show wpAny _ _ _ _ _ _
  refine new_toks fun tk0 => ?_
  dsimp only
  have l6 : @LT.lt Nat _ (L' + 1 + 1 + 1) du := l5.2.1
  have l7 : ∀ q ∈ (L' + 1 + 1, oc2) :: (L' + 1, oc1) :: (wa, listOf xs.toArray nw) :: (ka, listOf kv.toArray nk) :: (rows ++ news), q.1 ≠ du := all_cons (Nat.ne_of_lt l5.2.2.1) (all_cons (Nat.ne_of_lt l5.2.2.2.1) (all_cons (Nat.ne_of_lt l5.2.2.2.2.1) (all_cons (Nat.ne_of_lt l5.2.2.2.2.2.1) (allne l5.2.2.2.2.2.2))))
  have l8 : ∀ q ∈ (L' + 1 + 1, oc2) :: (L' + 1, oc1) :: (wa, listOf xs.toArray nw) :: (ka, listOf kv.toArray nk) :: (rows ++ news), q.1 ≠ L' + 1 + 1 + 1 := all_cons (by show @Ne Nat (L' + 1 + 1) _; lia) (all_cons (by show @Ne Nat (L' + 1) _; lia) (all_cons (by show @Ne Nat wa _; lia) (all_cons (by show @Ne Nat ka _; lia) (allne q3))))
  clear l5
  refine for_rangeC (by assumption) (a := 0) (b := (zs.length : Nat)) (by lia) (by lia) (by lia) (by lia) zs.length (by lia) (L' + 1 + 1 + 1)
    (fun p m led => m "due" = some (.ref du) ∧ m "words" = some (.ref wa) ∧ ∃ ys k, DueTo row zs p ys ∧ led = (du, listOf ys.toArray k) :: (L' + 1 + 1, oc2) :: (L' + 1, oc1) :: (wa, listOf xs.toArray nw) :: (ka, listOf kv.toArray nk) :: (rows ++ news)) rfl ?_ ?_ ?_ rfl rfl rfl
  · k_steps
    exact RangeStart.mk (by rw [← hlen]; assumption) (by k_asm) (swap2 (by k_asm)) ⟨oc3, _, rfl, ⟨_, e3'⟩, all_cons (Nat.ne_of_gt l6) l8, rfl, rfl, _, _, DueTo.zero, rfl⟩
  · rintro p I oI TBq hTB oc m led h tk t hp ⟨j1, j2, ys, k, hys, rfl⟩ off hoff hd F N
    rw [Int.zero_add] at hd
    have K0 := F.known0 (n := "words") (j2)
    have K1 := K0.known0 (n := "due") ((if_neg (by decide)).trans (j1))
    clear F K0
    k_steps
    show wpAny _ _ _ _ _ _
    refine new_toks fun tk1 => ?_
    dsimp only
    k_dflt (refine LCt.ListComp_T (F₀ := by k_asm) (by with_unfolding_all rfl) (by decide) (by rfl) (by decide) (by rfl) ?_)
    k_steps
    rename_i h12 tk12 t12 u12 v12 hR F12 N12 K12
    refine LCt.CompSrcT.range (by rfl) F12 N12 hR (small_one (by lia) (by lia) (by lia) (by lia)) (rangeSize_nat2 p) (by rw [sizeLine_eq]; lia) fun g2 => ?_
    refine shut fun X hX => ?_
    obtain ⟨rr, xs', ns', kk', hkv, hmem, hints, hrl2, hkeep⟩ := hk1.2 p hp
    refine hX ?_
    clear hX X
    refine compT_inv p (fun j l => l.length = ((List.range j).filter (P p)).length) trivial ?_ ?_ p 0 [] (by lia) rfl
    · intro c1 hc1
      have hc1' : c1.length ≤ 63 := by rw [hc1]; exact Nat.le_trans (List.length_filter_le _ _) (by rw [List.length_range]; lia)
      unfold LCg.FinE
      intro D h13 tk13 F13 N13 o13
      dsimp only
      k_steps
      show wpAny _ _ _ _ _ _
      refine new_toks fun tk2 => ?_
      dsimp only
      k_dflt (refine LCt.ListComp_T (F₀ := by k_asm) (by with_unfolding_all rfl) (by decide) (by rfl) (by decide) (by rfl) ?_)
      k_steps
      rename_i h22 tk22 t22 u22 v22 hR2 F22 N22 K22
      try rw [← hlen] at hR2
      refine LCt.CompSrcT.range (by rfl) F22 (cb_drop N22 (fun p hp => .tail _ hp)) hR2 (small_one (by lia) (by lia) (by lia) (by lia)) (rangeSize_nat3 p xs.length) (by rw [sizeLine_eq]; lia) fun g2 => ?_
      refine compT_inv (xs.length - (p + 1)) (fun j l => l.length = ((List.range' (p + 1) j).filter (fun k => !P k p)).length) trivial ?_ ?_ (xs.length - (p + 1)) 0 [] (by lia) rfl
      · intro c2 hc2
        have hc2' : c2.length ≤ 63 := by rw [hc2]; exact Nat.le_trans (List.length_filter_le _ _) (by rw [List.length_range']; lia)
        unfold LCg.FinE
        intro D h23 tk23 F23 N23 o23
        dsimp only
        refine shut fun X hX => ?_
        obtain ⟨z, tz, hz1, hz2, hz3⟩ := hw.at p hp
        refine hX ?_
        clear hX X
        have g4 : xs.toArray[((p : Nat) : Int).toNat]? = some (.str (zt z) tz) := by rw [Int.toNat_natCast, List.getElem?_toArray]; exact hz3
        k_steps
        show wpAny _ _ _ _ _ _
        have hcnt : c1.length + c2.length = cntA P zs.length p := by rw [hc1, hc2, hlen]; rfl
        have hr := hrow p hp
        rw [← hcnt] at hr
        have hlt : c1.length + c2.length < ys.length := by have := (List.getElem?_eq_some_iff.mp hr).1; rw [hys.1, ← hrl]; exact this
        have hzp : zs.getD p 0 = z := by rw [List.getD_eq_getElem?_getD, hz1]; rfl
        have b1 : @Ne Nat I du := Ne.symm (off (du, _) (.tail _ (.head _)))
        rename News _ _ _ _ => N30
        refine ki_set (q := ys.set (c1.length + c2.length) (.str (zt z) tz)) (by k_asm) (cb_drop N30 (fun p hp => .tail _ hp)) (by lia) (by have := hys.1; lia) (by rw [show ((c1.length : Int) + (c2.length : Int)).toNat = c1.length + c2.length by lia]; exact setL_at hlt) (by k_upd) ?_
        intro h31 F31 N31
        (try dsimp only)
        k_steps
        exact hTB _ _ (TurnEnd.mk (by k_asm) N31 (off.same (by rfl)) ⟨oc, _, rfl, ⟨_, hd⟩, Off.same (I := L' + 1 + 1 + 1) hoff (by rfl), rfl, rfl, _, _, hzp ▸ hys.step hnd hrl hr tz, rfl⟩)
      · rintro j l hj hl v I3 oI3 C3 oC3 D3 m3 h13 tk13 E3 ⟨tv, rfl⟩ hN hm F13 N13 off3 ne
        refine shut fun X hX => ?_
        obtain ⟨rr, xs', ns', kk', hkv, hmem, hints, hrl2, hkeep⟩ := hk1.2 (p + 1 + j) (by lia)
        refine hX ?_
        clear hX X
        have i1 : h13.IsList rr xs'.toArray := N13.isList (.tail _ (.tail _ (.tail _ (.tail _ (.tail _ (.tail _ (.tail _ (.tail _ (.tail _ (.tail _ (List.mem_append_left _ hmem)))))))))))
        have i2 : h13.IsList ka kv.toArray := N13.isList (.tail _ (.tail _ (.tail _ (.tail _ (.tail _ (.tail _ (.tail _ (.tail _ (.tail _ (.head _))))))))))
        obtain ⟨t1, g1⟩ := ints_item hints (k := (p : Int)) (i := p) (by lia) (by lia)
        have g3 : kv.toArray[((p : Int) + 1 + (j : Int)).toNat]? = some (.ref rr) := by rw [show ((p : Int) + 1 + (j : Int)).toNat = p + 1 + j by lia, List.getElem?_toArray]; exact hkv
        have hv := hP (p + 1 + j) (by lia) p (by lia) _ (hkeep p (by lia))
        have b1 := hints.length
        have b2 := hk1.1
        k_steps
        · exact TurnC.mk (by k_asm) (by k_asm) (cntr_yes hl (by cases e : P (p + 1 + j) p with | false => rfl | true => have := hv.mp e; simp only [Int.toNat_natCast] at *; lia) _)
        · exact TurnC.mk (by k_asm) (by k_asm) (cntr_no hl (by rw [hv.mpr (by simp only [Int.toNat_natCast] at *; lia)]; rfl))
    · rintro j l hj hl v I3 oI3 C3 oC3 D3 m3 h13 tk13 E3 ⟨tv, rfl⟩ hN hm F13 N13 off3 ne
      have i1 : h13.IsList rr xs'.toArray := N13.isList (.tail _ (.tail _ (.tail _ (.tail _ (.tail _ (.tail _ (.tail _ (.tail _ (.tail _ (.tail _ (List.mem_append_left _ hmem)))))))))))
      have i2 : h13.IsList ka kv.toArray := N13.isList (.tail _ (.tail _ (.tail _ (.tail _ (.tail _ (.tail _ (.tail _ (.tail _ (.tail _ (.head _))))))))))
      obtain ⟨t1, g1⟩ := ints_item hints (k := 0 + (j : Int)) (i := j) (by lia) (by lia)
      have g3 : kv.toArray[((p : Nat) : Int).toNat]? = some (.ref rr) := by rw [Int.toNat_natCast, List.getElem?_toArray]; exact hkv
      have hv := hP p hp j hj _ (hkeep j hj)
      have b1 := hints.length
      have b2 := hk1.1
      k_steps
      all_goals (have z1 : (0 + (j : Int)).toNat = j := by lia)
      · exact TurnC.mk (by k_asm) (by k_asm) (cnt_yes hl (hv.mpr (by simp only [z1] at *; lia)) _)
      · exact TurnC.mk (by k_asm) (by k_asm) (cnt_no hl (fun e => by have := hv.mp e; simp only [z1] at *; lia))
  · intro m led h tk hJ0 F N
    refine shut fun X hX => ?_
    obtain ⟨oc, led', rfl, hv, hoff, j1, j2, ys, k, hys, rfl⟩ := hJ0
    refine hX ?_
    clear hX X
    have K0 := F.known0 (n := "words") (j2)
    have K1 := K0.known0 (n := "due") ((if_neg (by decide)).trans (j1))
    clear F K0
    k_steps
    exact hret du ys _ _ k (hys.ws hrl hrn hw.lt) (by k_asm) (cb_drop (by k_asm) (fun p hp => by rcases List.mem_cons.mp hp with h | hp; exact .tail _ (h ▸ .head _); exact .tail _ (.tail _ (.tail _ (.tail _ hp)))))
end
end Mine
end
section
open PySem PySem.W PyProof.Rows PySem.Calls PySem.Builtin.Re
set_option maxRecDepth 100000
namespace Mine
section
variable {w : World} {p : Program} {loose : List Str} {mean : ExcName → Option Value} {mg mb : Str → Option Value}
  {dp un : Nat} {gd : Option (List Code)} {cn : Str} {cs : Scope} {a : Addr} {ccd : Value} {cl : List (Str × Addr)} {outer : List Env} {A₀ : Around} {base h₀ : Heap} {L : Addr} {m : Str → Option Value} {s : Shared} {Q E : Value → Shared → Prop} {news : List (Addr × Obj)}
theorem eol_method {prog : Program} {w : World} {A : Around} {E : Value → Shared → Prop} {s : Shared} {h₀ : Heap} {L : Addr} {mm : Str → Option Value} {P : Params} {pl : Sem Bool} {Q : Value × List Value → Shared → Prop} (X : (top.heap_1 P).In h₀) (F : Fr h₀ L s.heap mm) (h : Q (.builtin "re.Pattern.sub", [.ref 91]) s) : wpAny (model prog w) A (getMethod (.ref 91) "sub" pl) Q E s := by
  obtain ⟨op, os, fs, xs, n, ho, hs, hc, hdn, hdat, h5, h6, h2, hds, hcode⟩ := (eol_pat X).ex
  exact method_pat (F.keep _ _ ho) hc hdn slot_sub type_sub h
theorem eol_sub {prog : Program} {w : World} {A : Around} {E : Value → Shared → Prop} {s : Shared} {h₀ : Heap} {L : Addr} {mm : Str → Option Value} {news : List (Addr × Obj)} {P : Params} {x : PySem.Str} {t tc : Tok} {Q : Value → Shared → Prop} {r : List (List Nat × List Nat)} (X : (top.heap_1 P).In h₀)
    (hx : x.cps = (segCps r).toArray) (hr : Segs r) (hl : r.length ≤ 100) (hxs : x.cps.size ≤ 100000) (hsum : ((wSub r).map (·.length)).sum ≤ 1000000) (F : Fr h₀ L s.heap mm) (N : News h₀ L s.heap news)
    (h : ∀ h' tk t', Fr h₀ L h' mm → News h₀ L h' news → Q (.str (Str.join ⟨#[]⟩ (wSub r)) t') { s with heap := h', toks := tk }) :
    wpAny (model prog w) A (call (.builtin "re.Pattern.sub") [.ref 91, .str crlf tc, .str x t]) Q E s := by
  obtain ⟨op, os, fs, xs, n, ho, hs, hc, hdn, hdat, h5, h6, h2, hds, hcode⟩ := (eol_pat X).ex
  exact call_sub hc ho hdat h5 h6 h2 hs hds hcode hx hr hl hxs hsum F N fun h' tk t' l its cnt F' N' _ => h h' tk t' F' (cb_drop N' fun p hp => .tail _ hp)
local macro_rules | `(tactic| walk_at "getMethod ref") => `(tactic| (k_here; (refine eol_method (by k_asm) (by k_asm) ?_)))
local macro_rules | `(tactic| walk_at "call builtin:re.Pattern.sub") => `(tactic| (k_here; (refine eol_sub (by k_asm) (by assumption) (by assumption) (by assumption) (by assumption) (by assumption) (by k_asm) (by k_asm) ?_; intro h' tk' t' F' N'; (try dsimp only); (try k_fold))))
set_option maxHeartbeats 8000000 in
theorem fix_call (B : Below A₀ base outer h₀) (F : Fr h₀ L s.heap m) (X : (top.heap_1 w.params).In h₀) (N : News h₀ L s.heap news) (T : Top p loose mean mg mb h₀) (hk : cs.kind = .function) (hdp : dp + 5 < recursionLimit) (hun : un + 50 < cLine)
  {x : PySem.Str} {t : Tok} {r : List (List Nat × List Nat)} (hx : x.cps = (segCps r).toArray) (hr : Segs r) (hl : r.length ≤ 100) (hxs : x.cps.size ≤ 100000) (hsum : ((wSub r).map (·.length)).sum ≤ 1000000) (hret : ∀ t h' tk', Fr h₀ L h' m → News h₀ L h' news → Q (.str (Str.join ⟨#[]⟩ (wSub r)) t) { s with heap := h', toks := tk' }) :
  wpAny (model PySem.Challenge.pw_xe0013_01 w) (ktrTop dp un gd cn cs L a ccd cl outer) (call (.ref 142) [.str x t]) Q E s := by
  refine wpAny_call ?_
  k_dflt ktr_enter
  k_steps
  exact hret _ _ _ (by k_asm) (by k_asm)
end
end Mine
end
section
open PySem PySem.W PyProof.Rows PySem.StrLaws PySem.Builtin PySem.Builtin.Str
set_option maxRecDepth 100000
namespace Mine
/-- the text of words, each with the even line end behind it -/
noncomputable def bodyOf : List Nat → List Nat
  | [] => []
  | z :: zs => zcps z ++ (13 :: 10 :: bodyOf zs)
theorem join_cons (x : PySem.Str) (l : List PySem.Str) : (Str.join ⟨#[]⟩ (x :: l)).cps.toList = x.cps.toList ++ (Str.join ⟨#[]⟩ l).cps.toList := by
  cases l with
  | nil => simp [Str.join, Str.empty]
  | cons y r => simp [Str.join, Str.cps_append]
theorem join_body : ∀ (zs : List Nat) (r : Nat), (Str.join ⟨#[]⟩ (wSub (segsOf r zs))).cps.toList = bodyOf zs
  | [], _ => rfl
  | z :: zs, r => by
    simp only [segsOf, wSub]
    rw [join_cons, join_cons, join_body zs (r + 1)]
    rfl
theorem at_iff {x : PySem.Str} {k : Nat} : At x crlf x.length k ↔ x.cps.toList[k]? = some 13 ∧ x.cps.toList[k + 1]? = some 10 := by
  unfold At
  rw [subAt_eq]
  have hl : (crlf : PySem.Str).length = 2 := rfl
  have hc : (crlf : PySem.Str).cps.toList = [13, 10] := rfl
  have hx : x.length = x.cps.toList.length := by simp [Str.length]
  rw [hl, hc, hx]
  generalize x.cps.toList = l
  have e : (l.drop k).take 2 = [13, 10] ↔ l[k]? = some 13 ∧ l[k + 1]? = some 10 := by
    have h0 : (l.drop k)[0]? = l[k]? := by simp
    have h1 : (l.drop k)[1]? = l[k + 1]? := by simp
    rw [← h0, ← h1]
    generalize l.drop k = d
    match d with
    | [] => simp
    | [a] => simp
    | a :: b :: r => simp
  rw [beq_iff_eq, e]
  constructor
  · exact fun h => h.2
  · intro h
    refine ⟨?_, h⟩
    have := (List.getElem?_eq_some_iff.mp h.2).1
    lia
theorem not_at {x : PySem.Str} {pre w rest : List Nat} {k : Nat} (hx : x.cps.toList = pre ++ (w ++ rest)) (hw : ∀ c ∈ w, c ≠ 10 ∧ c ≠ 13) (h1 : pre.length ≤ k) (h2 : k < pre.length + w.length) : ¬ At x crlf x.length k := by
  rw [at_iff, hx]
  intro h
  have h3 := h.1
  rw [List.getElem?_append_right h1, List.getElem?_append_left (by lia)] at h3
  exact (hw 13 (List.mem_of_getElem? h3)).2 rfl
theorem is_at {x : PySem.Str} {pre w rest : List Nat} (hx : x.cps.toList = pre ++ (w ++ (13 :: 10 :: rest))) : At x crlf x.length (pre.length + w.length) := by
  rw [at_iff, hx]
  constructor
  · rw [List.getElem?_append_right (by lia), List.getElem?_append_right (by lia)]
    rw [show pre.length + w.length - pre.length - w.length = 0 by lia]
    rfl
  · rw [List.getElem?_append_right (by lia), List.getElem?_append_right (by lia)]
    rw [show pre.length + w.length + 1 - pre.length - w.length = 1 by lia]
    rfl
theorem parts_words (x : PySem.Str) : ∀ (zs : List Nat) (pre : List Nat) (cuts : List Nat) (f : Nat), (∀ z ∈ zs, z < 576) → x.cps.toList = pre ++ bodyOf zs → ChainG x crlf x.length pre.length cuts f → (∀ k, f ≤ k → ¬ At x crlf x.length k) →
    partsFrom x (crlf : PySem.Str).length pre.length cuts = zs.map zt ++ [⟨#[]⟩] ∧ (zs ≠ [] → cuts ≠ [])
  | [], pre, cuts, f, _, hx, hc, hf => by
    have hlen : x.length = pre.length := by have := congrArg List.length hx; simpa [Str.length, bodyOf] using this
    cases cuts with
    | nil =>
      refine ⟨?_, fun h => (h rfl).elim⟩
      show [strSub x pre.length x.length] = _
      refine congrArg (fun y => [y]) (Str.ext' ?_)
      rw [← Array.toList_inj, strSub_toList, hlen]
      simp
    | cons c r =>
      have h1 := hc.1
      have h2 := hc.2.1.1
      have h3 : (crlf : PySem.Str).length = 2 := rfl
      lia
  | z :: zs, pre, cuts, f, hz, hx, hc, hf => by
    have hx' : x.cps.toList = pre ++ (zcps z ++ (13 :: 10 :: bodyOf zs)) := hx
    have hat := is_at hx'
    have hno : ∀ k, pre.length ≤ k → k < pre.length + (zcps z).length → ¬ At x crlf x.length k := fun k h1 h2 => not_at hx' (zcps_clean z (hz z (.head _))) h1 h2
    cases cuts with
    | nil =>
      have e : f = pre.length := hc
      exact (hf (pre.length + (zcps z).length) (by lia) hat).elim
    | cons c r =>
      obtain ⟨h1, h2, h3, h4⟩ := hc
      have hcc : c = pre.length + (zcps z).length := by
        rcases Nat.lt_trichotomy c (pre.length + (zcps z).length) with h | h | h
        · exact (hno c h1 h h2).elim
        · exact h
        · exact (h3 _ (by lia) h hat).elim
      subst hcc
      have hl : (crlf : PySem.Str).length = 2 := rfl
      have hpl : (pre ++ (zcps z ++ [13, 10])).length = pre.length + (zcps z).length + (crlf : PySem.Str).length := by
        rw [List.length_append, List.length_append, hl, ← Nat.add_assoc]; rfl
      have ih := parts_words x zs (pre ++ (zcps z ++ [13, 10])) r f (fun z hz' => hz z (.tail _ hz')) (by rw [hx']; simp) (by
        rw [hpl]; exact h4) hf
      refine ⟨?_, fun _ h => nomatch h⟩
      show strSub x pre.length (pre.length + (zcps z).length) :: partsFrom x _ _ r = zt z :: (zs.map zt ++ [⟨#[]⟩])
      rw [hpl] at ih
      rw [ih.1]
      refine congrArg (· :: _) (Str.ext' ?_)
      rw [← Array.toList_inj, strSub_toList, hx']
      simp [zt]
theorem split_words (x : PySem.Str) (zs : List Nat) (hz : ∀ z ∈ zs, z < 576) (hx : x.cps.toList = bodyOf zs) : Txt.split x crlf = zs.map zt ++ [⟨#[]⟩] := by
  have hl : (crlf : PySem.Str).length = 2 := rfl
  have hk : ¬ Builtin.Str.strKind x < Builtin.Str.strKind crlf := by
    have : Builtin.Str.strKind crlf = 1 := by decide +kernel
    rw [this]
    unfold Builtin.Str.strKind
    (repeat' split) <;> decide
  obtain ⟨f, h1, h2⟩ := occ_tight x crlf (by rw [hl]; decide)
  have key := parts_words x zs [] _ f hz (by simpa using hx) h1 h2
  unfold Txt.split
  cases zs with
  | nil =>
    have hx0 : x = ⟨#[]⟩ := Str.ext' (by rw [← Array.toList_inj, hx]; rfl)
    subst hx0
    rw [if_pos (by decide +kernel)]
    rfl
  | cons z zs =>
    have hlen : 2 ≤ x.length := by
      have := congrArg List.length hx
      simp only [bodyOf, List.length_append, List.length_cons] at this
      have e : x.length = x.cps.toList.length := by simp [Str.length]
      lia
    rw [if_neg (by simp [hl, hk]; lia)]
    rw [if_neg (by simp only [List.isEmpty_iff]; exact key.2 (by simp))]
    rw [partsBetween_eq]
    exact key.1
end Mine
namespace Mine
theorem body_len : ∀ zs : List Nat, (bodyOf zs).length ≤ 9 * zs.length
  | [] => Nat.le_refl _
  | z :: zs => by
    have := body_len zs
    have := zcps_len z
    simp only [bodyOf, List.length_append, List.length_cons]
    lia
theorem join_len (zs : List Nat) (r : Nat) : (Str.join ⟨#[]⟩ (wSub (segsOf r zs))).length ≤ 9 * zs.length := by
  have := congrArg List.length (join_body zs r)
  have e : (Str.join ⟨#[]⟩ (wSub (segsOf r zs))).length = (Str.join ⟨#[]⟩ (wSub (segsOf r zs))).cps.toList.length := by simp [PySem.Str.length]
  rw [e, this]; exact body_len zs
end Mine
end
section
open PySem PySem.W PyProof.Rows PySem.Calls PySem.Builtin.Re PyProof.Rows.LCg
set_option maxRecDepth 100000
namespace Mine
section
variable {w : World} {p : Program} {loose : List Str} {mean : ExcName → Option Value} {mg mb : Str → Option Value}
  {dp un : Nat} {gd : Option (List Code)} {cn : Str} {cs : Scope} {a : Addr} {ccd : Value} {cl : List (Str × Addr)} {outer : List Env} {A₀ : Around} {base h₀ : Heap} {L : Addr} {m : Str → Option Value} {s : Shared} {Q E : Value → Shared → Prop} {news : List (Addr × Obj)}
local macro_rules | `(tactic| walk_at "exec For Name Call cons nil") => `(tactic| (k_here; refine hold ?_))
local macro_rules | `(tactic| walk_at "exec For Name Name cons nil") => `(tactic| (k_here; refine hold ?_))
local macro_rules | `(tactic| walk_at "call type:range") => `(tactic| (k_here; (first | refine range1_rows (by k_asm) (by k_asm) ?_ | refine range2_rows (by k_asm) (by k_asm) ?_); intro h' tk' t₁ u₁ v₁ hR F' N' K'; (try dsimp only); (try k_fold)))
local macro_rules | `(tactic| walk_at "call builtin:len") => `(tactic| (k_here; (refine len_list (News.isList (by k_asm) (by first | exact .head _ | exact .tail _ (.head _) | exact .tail _ (.tail _ (.head _)) | exact .tail _ (.tail _ (.tail _ (.head _))))) (by simp only [List.size_toArray]; lia) ?_); (try simp only [List.size_toArray]); (try dsimp only); (try k_fold)))
local macro_rules | `(tactic| walk_at "subscriptTail") => `(tactic| (k_here; (refine item_list (News.isList (by k_asm) (by first | exact .head _ | exact .tail _ (.head _) | exact .tail _ (.tail _ (.head _)) | exact .tail _ (.tail _ (.tail _ (.head _))))) (by lia) (by lia) (by first | assumption | exact menu0 (by lia) | exact menu1 (by lia) | exact menu2 (by lia) | exact menu3 (by lia)) ?_); (try dsimp only); (try k_fold)))
local macro_rules | `(tactic| walk_at "inplaceOp Add str str") => `(tactic| (k_here; refine iadd_small (by assumption) (by assumption) ?_; intro t' tk'; (try dsimp only); (try k_fold)))
theorem mail_step {zs : List Nat} {r i z : Nat} (hz : zs[i]? = some z) : mailOf r (zs.take i) ++ (zt z ++ eolS (r + i)) = mailOf r (zs.take (i + 1)) := by
  refine Str.ext' ?_
  have hi : i < zs.length := (List.getElem?_eq_some_iff.mp hz).1
  rw [Str.cps_append, Str.cps_append, take_succ hz]
  show (segCps (segsOf r (zs.take i))).toArray ++ ((zcps z).toArray ++ (eolOf (r + i)).toArray) = (segCps (segsOf r (zs.take i ++ [z]))).toArray
  rw [segsOf_snoc, List.length_take, Nat.min_eq_left (Nat.le_of_lt hi)]
  simp
local macro_rules | `(tactic| walk_at "subscriptTail") => `(tactic| (k_here; (refine item_menu3 (News.isList (by k_asm) (.head _)) (by assumption) (by assumption) ?_); intro t'; (try dsimp only); (try k_fold)))
set_option maxHeartbeats 8000000 in
theorem mail_call (B : Below A₀ base outer h₀) (F : Fr h₀ L s.heap m) (X : (top.heap_1 w.params).In h₀) (T : Top p loose mean mg mb h₀) (hk : cs.kind = .function) (hdp : dp + 10 < recursionLimit) (hun : un + 100 < cLine)
  {wa : Addr} {r : Nat} {tr : Tok} {xs : List Value} {zs : List Nat} {nw : Nat} (hw : Ws xs zs) (hn : zs.length ≤ 63) (hr63 : r ≤ 1000) (N : News h₀ L s.heap ((wa, listOf xs.toArray nw) :: news)) (hret : ∀ ra ys h' tk', Ws ys zs → Fr h₀ L h' m → News h₀ L h' ((ra, listOf ys.toArray 0) :: (wa, listOf xs.toArray nw) :: news) → Q (.ref ra) { s with heap := h', toks := tk' }) :
  wpAny (model PySem.Challenge.pw_xe0013_01 w) (ktrTop dp un gd cn cs L a ccd cl outer) (call (.ref 161) [.ref wa, .int (r : Nat) tr]) Q E s := by
  refine wpAny_call ?_
  k_dflt ktr_enter
  have hlen := hw.len
  k_steps
  show wpAny _ _ _ _ _ _
  refine new_toks fun tk0 => ?_
  dsimp only
  refine for_range (by assumption) (a := 0) (b := (zs.length : Nat)) (by lia) (by lia) (by lia) (by lia) zs.length (by lia)
    (fun i m led => m "words" = some (.ref wa) ∧ m "turn" = some (.int (r : Nat) tr) ∧ (∃ t, m "mail" = some (.str (mailOf r (zs.take i)) t)) ∧ led = (wa, listOf xs.toArray nw) :: news) rfl ?_ ?_ ?_ rfl rfl
  · rw [← hlen]
    k_steps
    exact RangeStart.mk (by assumption) (by k_asm) (by k_asm) ⟨rfl, rfl, ⟨_, rfl⟩, rfl⟩
  · intro i I oI TBq hTB m led h tk t hi hJ off F' N'
    refine shut fun X hX => ?_
    obtain ⟨h1, h2, ⟨t3, h3⟩, rfl⟩ := hJ
    refine hX ?_
    clear hX X
    have F1 := F'.known0 (n := "mail") ((if_neg (by decide)).trans h3)
    have F2 := F1.known0 (n := "turn") ((if_neg (by decide)).trans ((if_neg (by decide)).trans h2))
    have F3 := F2.known0 (n := "words") ((if_neg (by decide)).trans ((if_neg (by decide)).trans ((if_neg (by decide)).trans h1)))
    clear F' F1 F2
    refine shut fun X hX => ?_
    obtain ⟨z, tz, hz, hzl, hx⟩ := hw.at i hi
    refine hX ?_
    clear hX X
    have hx' : xs.toArray[((0 : Int) + (i : Int)).toNat]? = some (.str (zt z) tz) := by rw [show ((0 : Int) + (i : Int)).toNat = i by lia]; simpa using hx
    have hfm : ((0 : Int) + (i : Int) + (r : Int)).fmod 3 = (((r + i) % 3 : Nat) : Int) := by rw [Int.fmod_eq_emod_of_nonneg _ (by lia)]; lia
    have hk3 : 0 ≤ ((0 : Int) + (i : Int) + (r : Int)).fmod 3 ∧ ((0 : Int) + (i : Int) + (r : Int)).fmod 3 < 3 := by lia
    have hme := eolS_menu hfm
    have hl0 := mailOf_len r (zs.take i)
    have hl1 : (mailOf r (zs.take i)).length ≤ 1000 := by rw [List.length_take] at hl0; lia
    have hl2 := zt_len z
    have hl3 := eolS_len (r + i)
    have hy1 : (zt z ++ eolS (r + i)).length ≤ 1000 := by rw [Str.length_append]; lia
    have hst := mail_step (r := r) hz
    clear hfm hl0
    k_steps
    exact hTB _ _ (TurnEnd.mk (by k_asm) (by refine cb_drop (by k_asm) (fun p hp => .tail _ hp)) off ⟨rfl, rfl, ⟨_, congrArg (fun x => some (Value.str x _)) hst⟩, rfl⟩)
  · intro m led h tk hJ F' N'
    refine shut fun X hX => ?_
    obtain ⟨h1, h2, ⟨t3, h3⟩, rfl⟩ := hJ
    refine hX ?_
    clear hX X
    have F1 := F'.known0 (n := "mail") h3
    clear F'
    k_steps
    rw [List.take_length]
    have hcp := segsOf_cps zs r
    have hsm := segsOf_sum zs r
    refine fix_call (by k_asm) (by k_asm) (by k_asm) (by k_asm) (by k_asm) rfl (by show dp + 1 + 5 < recursionLimit; lia) (by show un + 3 + 50 < cLine; lia) rfl (segsOf_segs zs r hw.lt) (by rw [segsOf_len]; lia) (by simp only [mailOf, List.size_toArray]; lia) (by lia) ?_
    intro t5 h5 tk5 F5 N5
    have hsp := split_words (Str.join ⟨#[]⟩ (wSub (segsOf r zs))) zs hw.lt (join_body zs r)
    (try dsimp only)
    (try k_fold)
    k_steps
    refine splitN1 (by k_asm) (by k_asm) rfl ?_ ?_
    case refine_2 => have hjl := join_len zs r; show _ ≤ 2 ^ 24; lia
    intro l h6 k6 hl F6 N6
    have hl' : l.map (·.1) = zs.map zt ++ [⟨#[]⟩] := hl.trans hsp
    clear hl hsp
    (try dsimp only)
    (try k_fold)
    k_steps
    refine slice_list (s := ⟨h6, _, _, _, _⟩) F6 N6 (N6.isList (.head _)) .none (.int _ _) ?_ (hsz := by have e := congrArg List.length hl'; simp only [List.length_map, List.length_append, List.length_singleton] at e; show (strValues l).toArray.size ≤ 2 ^ 24; simp only [strValues, List.size_toArray, List.length_map]; lia)
    intro h7 F7 N7
    (try dsimp only)
    (try k_fold)
    k_steps
    rename_i kF kN _ _
    dsimp only at kN
    rw [cut_last l zs hl'] at kN
    exact hret _ _ _ _ (ws_cut l zs hw.lt hl') kF (cb_drop kN fun p hp => match hp with | .head _ => .head _ | .tail _ hp => .tail _ (.tail _ hp))
end
end Mine
end
section
open PySem PySem.W PyProof.Rows PySem.Calls
set_option maxRecDepth 100000
namespace Mine
theorem zcps_mod (n : Nat) : zcps n = zcps (n % 576) := by
  have e1 : n % 576 % 6 = n % 6 := by omega
  have e2 : n % 576 / 6 = n / 6 % 96 := by omega
  unfold zcps
  rw [e1, e2]
  have f1 : n / 6 % 96 % 4 = n / 6 % 4 := by omega
  have f2 : n / 6 % 96 % 3 = n / 6 % 3 := by omega
  have f3 : n / 6 % 96 / 48 % 2 = n / 6 / 48 % 2 := by omega
  have f4 : n / 6 % 96 / 3 % 4 = n / 6 / 3 % 4 := by omega
  have f5 : n / 6 % 96 / 12 % 4 = n / 6 / 12 % 4 := by omega
  unfold zName zBad zSign zTens zHour zMin
  rw [f1, f2, f3, f4, f5]
theorem zt_mod (n : Nat) : zt n = zt (n % 576) := by unfold zt; rw [zcps_mod]
theorem zm_mod (n : Nat) : zm n = zm (n % 576) := by
  have e1 : n % 576 % 6 = n % 6 := by omega
  have e2 : n % 576 / 6 = n / 6 % 96 := by omega
  have f2 : n / 6 % 96 % 3 = n / 6 % 3 := by omega
  have f3 : n % 576 / 288 % 2 = n / 288 % 2 := by omega
  have f4 : n % 576 / 18 % 4 = n / 18 % 4 := by omega
  have f5 : n / 6 % 96 / 12 % 4 = n / 6 / 12 % 4 := by omega
  unfold zm zSecs zHours zMinutes
  rw [e1, e2, f2, f3, f4, f5]
def sSign (r : Nat) : PySem.Str := ⟨(zSign r).toArray⟩
def sMin (r : Nat) : PySem.Str := ⟨(zMin r).toArray⟩
def sDig (k : Nat) : PySem.Str := ⟨#[48 + k]⟩
theorem sSign_len (r : Nat) : (sSign r).length ≤ 1 := by unfold sSign zSign; split <;> decide
theorem sMin_len (r : Nat) : (sMin r).length ≤ 2 := by unfold sMin zMin; split <;> decide
theorem sDig_len (r : Nat) : (sDig r).length = 1 := rfl
def M4 (k : Int) (e a b c d : PySem.Str) : Prop := (k = 0 → e = a) ∧ (k = 1 → e = b) ∧ (k = 2 → e = c) ∧ (k = 3 → e = d)
def M4i (k : Int) (e a b c d : Int) : Prop := (k = 0 → e = a) ∧ (k = 1 → e = b) ∧ (k = 2 → e = c) ∧ (k = 3 → e = d)
theorem sSign_menu {k : Int} {r : Nat} (h : k = (r : Int) % 3) : M3 k (sSign r) ("" : PySem.Str) ("+" : PySem.Str) ("-" : PySem.Str) := by
  unfold sSign zSign
  refine ⟨fun e => ?_, fun e => ?_, fun e => ?_⟩
  · rw [show r % 3 = 0 by omega]; rfl
  · rw [show r % 3 = 1 by omega]; rfl
  · rw [show r % 3 = 2 by omega]; rfl
theorem sMin_menu {k : Int} {r : Nat} (h : k = (r : Int) / 12 % 4) : M4 k (sMin r) ("00" : PySem.Str) ("30" : PySem.Str) ("90" : PySem.Str) ("" : PySem.Str) := by
  unfold sMin zMin
  refine ⟨fun e => ?_, fun e => ?_, fun e => ?_, fun e => ?_⟩
  · rw [show r / 12 % 4 = 0 by omega]; rfl
  · rw [show r / 12 % 4 = 1 by omega]; rfl
  · rw [show r / 12 % 4 = 2 by omega]; rfl
  · rw [show r / 12 % 4 = 3 by omega]; rfl
theorem zMin_menu {k : Int} {r : Nat} (h : k = (r : Int) / 12 % 4) : M4i k (zMinutes r) 0 30 90 0 := by
  unfold zMinutes
  refine ⟨fun e => ?_, fun e => ?_, fun e => ?_, fun e => ?_⟩
  · rw [show r / 12 % 4 = 0 by omega]; rfl
  · rw [show r / 12 % 4 = 1 by omega]; rfl
  · rw [show r / 12 % 4 = 2 by omega]; rfl
  · rw [show r / 12 % 4 = 3 by omega]; rfl
theorem zName_menu {k : Int} {n : Nat} (hd : n % 6 = 4) (h : k = (n : Int) / 6 % 4) : M4 k (zt n) ("Z" : PySem.Str) ("GMT" : PySem.Str) ("UTC" : PySem.Str) ("UT" : PySem.Str) := by
  unfold zt zcps
  rw [if_pos hd]
  unfold zName
  refine ⟨fun e => ?_, fun e => ?_, fun e => ?_, fun e => ?_⟩
  · rw [show n / 6 % 4 = 0 by omega]; rfl
  · rw [show n / 6 % 4 = 1 by omega]; rfl
  · rw [show n / 6 % 4 = 2 by omega]; rfl
  · rw [show n / 6 % 4 = 3 by omega]; rfl
theorem zBad_menu {k : Int} {n : Nat} (hd : n % 6 = 5) (h : k = (n : Int) / 6 % 4) : M4 k (zt n) ("EST" : PySem.Str) ("1:5" : PySem.Str) ("+" : PySem.Str) ("z" : PySem.Str) := by
  unfold zt zcps
  rw [if_neg (by omega), if_pos hd]
  unfold zBad
  refine ⟨fun e => ?_, fun e => ?_, fun e => ?_, fun e => ?_⟩
  · rw [show n / 6 % 4 = 0 by omega]; rfl
  · rw [show n / 6 % 4 = 1 by omega]; rfl
  · rw [show n / 6 % 4 = 2 by omega]; rfl
  · rw [show n / 6 % 4 = 3 by omega]; rfl
theorem zt_piece {n : Nat} (h : n % 6 < 4) : (zt n).cps.toList = zSign (n / 6) ++ (zTens (n % 6) (n / 6) ++ (zHour (n / 6) ++ (zColon (n % 6) ++ zMin (n / 6)))) := by
  unfold zt zcps
  rw [if_neg (by omega), if_neg (by omega)]
theorem zt_0 {n : Nat} (h : n % 6 = 0) : (sSign (n / 6) ++ (sDig (n / 6 / 3 % 4) ++ (":" : PySem.Str))) ++ sMin (n / 6) = zt n := by
  refine Str.ext' ?_
  rw [← Array.toList_inj, zt_piece (by omega), h]
  simp [Str.cps_append, sSign, sDig, sMin, zTens, zHour, zColon]; rfl
theorem zt_1 {n : Nat} (h : n % 6 = 1) : (sSign (n / 6) ++ (sDig (n / 6 / 48 % 2) ++ sDig (n / 6 / 3 % 4))) ++ sMin (n / 6) = zt n := by
  refine Str.ext' ?_
  rw [← Array.toList_inj, zt_piece (by omega), h]
  simp [Str.cps_append, sSign, sDig, sMin, zTens, zHour, zColon]
theorem zt_2 {n : Nat} (h : n % 6 = 2) : (sSign (n / 6) ++ ((sDig (n / 6 / 48 % 2) ++ sDig (n / 6 / 3 % 4)) ++ (":" : PySem.Str))) ++ sMin (n / 6) = zt n := by
  refine Str.ext' ?_
  rw [← Array.toList_inj, zt_piece (by omega), h]
  simp [Str.cps_append, sSign, sDig, sMin, zTens, zHour, zColon]; rfl
theorem zt_3 {n : Nat} (h : n % 6 = 3) : (sSign (n / 6) ++ sDig (n / 6 / 3 % 4)) ++ sMin (n / 6) = zt n := by
  refine Str.ext' ?_
  rw [← Array.toList_inj, zt_piece (by omega), h]
  simp [Str.cps_append, sSign, sDig, sMin, zTens, zHour, zColon]
section
variable {prog : Program} {w : World} {A : Around} {E : Value → Shared → Prop} {s : Shared} {value slice : Expr} {l : Addr} {k : Int} {u : Tok} {Q : Value → Shared → Prop}
theorem item_menu4 {a b c d e : PySem.Str} {ta tb tc td : Tok} (hl : s.heap.IsList l [.str a ta, .str b tb, .str c tc, .str d td].toArray)
    (hk : 0 ≤ k ∧ k < 4) (he : M4 k e a b c d) (h : ∀ t, Q (.str e t) s)
    (hs : subscripted slice false (.ref l) (.int k u) = operate [.ref l, .int k u] (getItem (.ref l) (.int k u)) := by with_unfolding_all rfl) (hg : ∀ r, letTemporaryGo value (.ref l) r = pure () := by intro _; with_unfolding_all rfl) :
    wpAny (model prog w) A (subscriptTail value slice (.ref l) (.int k u)) Q E s := by
  have hc : k = 0 ∨ k = 1 ∨ k = 2 ∨ k = 3 := by omega
  rcases hc with hc | hc | hc | hc
  · rw [he.1 hc] at h; exact item_list hl hk.1 (by omega) (menu0 (by omega)) (h _) hs hg
  · rw [he.2.1 hc] at h; exact item_list hl hk.1 (by omega) (menu1 (by omega)) (h _) hs hg
  · rw [he.2.2.1 hc] at h; exact item_list hl hk.1 (by omega) (menu2 (by omega)) (h _) hs hg
  · rw [he.2.2.2 hc] at h; exact item_list hl hk.1 (by omega) (menu3 (by omega)) (h _) hs hg
theorem item_menu4i {a b c d e : Int} {ta tb tc td : Tok} (hl : s.heap.IsList l [.int a ta, .int b tb, .int c tc, .int d td].toArray)
    (hk : 0 ≤ k ∧ k < 4) (he : M4i k e a b c d) (h : ∀ t, Q (.int e t) s)
    (hs : subscripted slice false (.ref l) (.int k u) = operate [.ref l, .int k u] (getItem (.ref l) (.int k u)) := by with_unfolding_all rfl) (hg : ∀ r, letTemporaryGo value (.ref l) r = pure () := by intro _; with_unfolding_all rfl) :
    wpAny (model prog w) A (subscriptTail value slice (.ref l) (.int k u)) Q E s := by
  have hc : k = 0 ∨ k = 1 ∨ k = 2 ∨ k = 3 := by omega
  rcases hc with hc | hc | hc | hc
  · rw [he.1 hc] at h; exact item_list hl hk.1 (by omega) (menu0 (by omega)) (h _) hs hg
  · rw [he.2.1 hc] at h; exact item_list hl hk.1 (by omega) (menu1 (by omega)) (h _) hs hg
  · rw [he.2.2.1 hc] at h; exact item_list hl hk.1 (by omega) (menu2 (by omega)) (h _) hs hg
  · rw [he.2.2.2 hc] at h; exact item_list hl hk.1 (by omega) (menu3 (by omega)) (h _) hs hg
theorem item_dig4 {t : Tok} {r : Nat} (hr : k = (r : Int)) (h4 : r < 4) (h : ∀ t k', Q (.str (sDig r) t) { s with toks := k' })
    (hs : subscripted slice false (.str ("0123" : PySem.Str) t) (.int k u) = operate [.str ("0123" : PySem.Str) t, .int k u] (getItem (.str ("0123" : PySem.Str) t) (.int k u)) := by with_unfolding_all rfl)
    (hg : ∀ r, letTemporaryGo value (.str ("0123" : PySem.Str) t) r = pure () := by intro _; with_unfolding_all rfl) :
    wpAny (model prog w) A (subscriptTail value slice (.str ("0123" : PySem.Str) t) (.int k u)) Q E s := by
  have hl : ("0123" : PySem.Str).length = 4 := by decide +kernel
  refine item_str (fitsSsize_of (N := 9223372036854775808) (by omega) (by omega) (Int.le_refl _)) (by rw [hl]; omega) (by rw [hl]; omega) (fun _ => ?_) hs hg
  have e : Txt.item ("0123" : PySem.Str) k = sDig r := by
    subst hr
    have : r = 0 ∨ r = 1 ∨ r = 2 ∨ r = 3 := by omega
    rcases this with rfl | rfl | rfl | rfl <;> decide +kernel
  rw [e]; exact h _ _
theorem item_dig2 {t : Tok} {r : Nat} (hr : k = (r : Int)) (h4 : r < 2) (h : ∀ t k', Q (.str (sDig r) t) { s with toks := k' })
    (hs : subscripted slice false (.str ("01" : PySem.Str) t) (.int k u) = operate [.str ("01" : PySem.Str) t, .int k u] (getItem (.str ("01" : PySem.Str) t) (.int k u)) := by with_unfolding_all rfl)
    (hg : ∀ r, letTemporaryGo value (.str ("01" : PySem.Str) t) r = pure () := by intro _; with_unfolding_all rfl) :
    wpAny (model prog w) A (subscriptTail value slice (.str ("01" : PySem.Str) t) (.int k u)) Q E s := by
  have hl : ("01" : PySem.Str).length = 2 := by decide +kernel
  refine item_str (fitsSsize_of (N := 9223372036854775808) (by omega) (by omega) (Int.le_refl _)) (by rw [hl]; omega) (by rw [hl]; omega) (fun _ => ?_) hs hg
  have e : Txt.item ("01" : PySem.Str) k = sDig r := by
    subst hr
    have : r = 0 ∨ r = 1 := by omega
    rcases this with rfl | rfl <;> decide +kernel
  rw [e]; exact h _ _
theorem mod_e {a b : Int} {t : Tok} (ha : 0 ≤ a) (hb : 0 < b) (h : ∀ t k', Q (.int (a % b) t) { s with toks := k' }) : wpAny (model prog w) A (binaryOp .Mod (.int a t) (.int b u)) Q E s :=
  mod_int' (by omega) (by rw [Int.fmod_eq_emod_of_nonneg _ (by omega)]; exact h _ _)
theorem div_e {a b : Int} {t : Tok} (ha : 0 ≤ a) (ha' : a < 1000000) (hb : 0 < b) (hb' : b < 1000) (h : ∀ t k', Q (.int (a / b) t) { s with toks := k' }) : wpAny (model prog w) A (binaryOp .FloorDiv (.int a t) (.int b u)) Q E s :=
  floordiv_int (by omega) (by rw [Int.fdiv_eq_ediv_of_nonneg _ (by omega)]; exact h _ _) (.inl (PyProof.noPylong_small (by omega)))
end
end Mine
namespace Mine
theorem mod_eq {prog : Program} {w : World} {A : Around} {E : Value → Shared → Prop} {s : Shared} {u : Tok} {Q : Value → Shared → Prop} {a b c : Int} {t : Tok} (ha : 0 ≤ a) (hb : 0 < b) (hc : a % b = c) (h : ∀ t k', Q (.int c t) { s with toks := k' }) : wpAny (model prog w) A (binaryOp .Mod (.int a t) (.int b u)) Q E s := by
  subst hc; exact mod_e ha hb h
theorem zm_none {n : Nat} (h : n % 6 = 5) : zm n = none := by unfold zm; rw [if_neg (by omega), if_pos h]
theorem zm_name {n : Nat} (h : n % 6 = 4) : zm n = some 0 := by unfold zm; rw [if_pos h]
end Mine
namespace Mine
section
variable {prog : Program} {w : World} {A : Around} {E : Value → Shared → Prop} {s : Shared} {value slice : Expr} {l : Addr} {u t : Tok} {Q : Value → Shared → Prop} {m c : Nat}
theorem modN {k : Int} (hk : k = (c : Int)) (hc : 0 < c) (h : ∀ t k', Q (.int ((m % c : Nat) : Int) t) { s with toks := k' }) : wpAny (model prog w) A (binaryOp .Mod (.int (m : Int) t) (.int k u)) Q E s := by
  subst hk; exact mod_e (by omega) (by omega) (by rw [← Int.natCast_emod]; exact h)
theorem modNe {k d : Int} (hk : k = (c : Int)) (hc : 0 < c) (hd : ((m % c : Nat) : Int) = d) (h : ∀ t k', Q (.int d t) { s with toks := k' }) : wpAny (model prog w) A (binaryOp .Mod (.int (m : Int) t) (.int k u)) Q E s :=
  modN hk hc (by rw [hd]; exact h)
theorem divN {k : Int} (hk : k = (c : Int)) (hc : 0 < c ∧ c < 1000) (hm : m < 1000000) (h : ∀ t k', Q (.int ((m / c : Nat) : Int) t) { s with toks := k' }) : wpAny (model prog w) A (binaryOp .FloorDiv (.int (m : Int) t) (.int k u)) Q E s := by
  subst hk; exact div_e (by omega) (by omega) (by omega) (by omega) (by rw [← Int.natCast_ediv]; exact h)
theorem menu4N {a b c d e : PySem.Str} {ta tb tc td : Tok} (hl : s.heap.IsList l [.str a ta, .str b tb, .str c tc, .str d td].toArray) (he : M4 (m : Int) e a b c d) (h : ∀ t, Q (.str e t) s) (hm : m < 4)
    (hs : subscripted slice false (.ref l) (.int (m : Int) u) = operate [.ref l, .int (m : Int) u] (getItem (.ref l) (.int (m : Int) u)) := by with_unfolding_all rfl) (hg : ∀ r, letTemporaryGo value (.ref l) r = pure () := by intro _; with_unfolding_all rfl) :
    wpAny (model prog w) A (subscriptTail value slice (.ref l) (.int (m : Int) u)) Q E s := item_menu4 hl ⟨by omega, by omega⟩ he h hs hg
theorem menu4iN {a b c d e : Int} {ta tb tc td : Tok} (hl : s.heap.IsList l [.int a ta, .int b tb, .int c tc, .int d td].toArray) (he : M4i (m : Int) e a b c d) (h : ∀ t, Q (.int e t) s) (hm : m < 4)
    (hs : subscripted slice false (.ref l) (.int (m : Int) u) = operate [.ref l, .int (m : Int) u] (getItem (.ref l) (.int (m : Int) u)) := by with_unfolding_all rfl) (hg : ∀ r, letTemporaryGo value (.ref l) r = pure () := by intro _; with_unfolding_all rfl) :
    wpAny (model prog w) A (subscriptTail value slice (.ref l) (.int (m : Int) u)) Q E s := item_menu4i hl ⟨by omega, by omega⟩ he h hs hg
theorem menu3N {a b c e : PySem.Str} {ta tb tc : Tok} (hl : s.heap.IsList l [.str a ta, .str b tb, .str c tc].toArray) (he : M3 (m : Int) e a b c) (h : ∀ t, Q (.str e t) s) (hm : m < 3)
    (hs : subscripted slice false (.ref l) (.int (m : Int) u) = operate [.ref l, .int (m : Int) u] (getItem (.ref l) (.int (m : Int) u)) := by with_unfolding_all rfl) (hg : ∀ r, letTemporaryGo value (.ref l) r = pure () := by intro _; with_unfolding_all rfl) :
    wpAny (model prog w) A (subscriptTail value slice (.ref l) (.int (m : Int) u)) Q E s := item_menu3 hl ⟨by omega, by omega⟩ he h hs hg
end
end Mine
namespace Mine
section
variable {prog : Program} {w : World} {A : Around} {E : Value → Shared → Prop} {s : Shared} {value slice : Expr} {l : Addr} {u t : Tok} {Q : Value → Shared → Prop} {m c x : Nat}
theorem modV {k : Int} (hk : k = (c : Int)) (hc : 0 < c) (hd : m % c = x) (h : ∀ t k', Q (.int (x : Int) t) { s with toks := k' }) : wpAny (model prog w) A (binaryOp .Mod (.int (m : Int) t) (.int k u)) Q E s := by
  subst hd; exact modN hk hc h
theorem divV {k : Int} (hk : k = (c : Int)) (hc : 0 < c ∧ c < 1000) (hm : m < 1000000) (hd : m / c = x) (h : ∀ t k', Q (.int (x : Int) t) { s with toks := k' }) : wpAny (model prog w) A (binaryOp .FloorDiv (.int (m : Int) t) (.int k u)) Q E s := by
  subst hd; exact divN hk hc hm h
end
end Mine
namespace Mine
section
variable {prog : Program} {w : World} {A : Around} {E : Value → Shared → Prop} {s : Shared} {value slice : Expr} {l : Addr} {u t : Tok} {Q : Value → Shared → Prop} {m c x : Nat} {k : Int}
theorem mod2 (hd : m % 2 = x) (h : ∀ t k', Q (.int (x : Int) t) { s with toks := k' }) : wpAny (model prog w) A (binaryOp .Mod (.int (m : Int) t) (.int 2 u)) Q E s := modV (c := 2) rfl (by decide) hd h
theorem mod3 (hd : m % 3 = x) (h : ∀ t k', Q (.int (x : Int) t) { s with toks := k' }) : wpAny (model prog w) A (binaryOp .Mod (.int (m : Int) t) (.int 3 u)) Q E s := modV (c := 3) rfl (by decide) hd h
theorem mod4 (hd : m % 4 = x) (h : ∀ t k', Q (.int (x : Int) t) { s with toks := k' }) : wpAny (model prog w) A (binaryOp .Mod (.int (m : Int) t) (.int 4 u)) Q E s := modV (c := 4) rfl (by decide) hd h
theorem mod6 {d : Int} (hd : ((m % 6 : Nat) : Int) = d) (h : ∀ t k', Q (.int d t) { s with toks := k' }) : wpAny (model prog w) A (binaryOp .Mod (.int (m : Int) t) (.int 6 u)) Q E s := modNe (c := 6) rfl (by decide) hd h
theorem div3 (hm : m < 1000000) (hd : m / 3 = x) (h : ∀ t k', Q (.int (x : Int) t) { s with toks := k' }) : wpAny (model prog w) A (binaryOp .FloorDiv (.int (m : Int) t) (.int 3 u)) Q E s := divV (c := 3) rfl (by decide) hm hd h
theorem div6 (hm : m < 1000000) (hd : m / 6 = x) (h : ∀ t k', Q (.int (x : Int) t) { s with toks := k' }) : wpAny (model prog w) A (binaryOp .FloorDiv (.int (m : Int) t) (.int 6 u)) Q E s := divV (c := 6) rfl (by decide) hm hd h
theorem div12 (hm : m < 1000000) (hd : m / 12 = x) (h : ∀ t k', Q (.int (x : Int) t) { s with toks := k' }) : wpAny (model prog w) A (binaryOp .FloorDiv (.int (m : Int) t) (.int 12 u)) Q E s := divV (c := 12) rfl (by decide) hm hd h
theorem div48 (hm : m < 1000000) (hd : m / 48 = x) (h : ∀ t k', Q (.int (x : Int) t) { s with toks := k' }) : wpAny (model prog w) A (binaryOp .FloorDiv (.int (m : Int) t) (.int 48 u)) Q E s := divV (c := 48) rfl (by decide) hm hd h
theorem sub_bin {a b : Expr} {op : Operator} {p : Pos} {o : Value} (ho : operate [o, .int k u] (getItem o (.int k u)) = operate [o, .int k u] (getItem o (.int k u))) : True := trivial
theorem subs_bin {a b : Expr} {op : Operator} {p : Pos} : subscripted (.BinOp a op b p) false (.ref l) (.int k u) = operate [.ref l, .int k u] (getItem (.ref l) (.int k u)) := by with_unfolding_all rfl
theorem subs_name {y : PySem.Str} {p : Pos} : subscripted (.Name y p) false (.ref l) (.int k u) = operate [.ref l, .int k u] (getItem (.ref l) (.int k u)) := by with_unfolding_all rfl
theorem subs_binS {a b : Expr} {op : Operator} {p : Pos} {y : PySem.Str} : subscripted (.BinOp a op b p) false (.str y t) (.int k u) = operate [.str y t, .int k u] (getItem (.str y t) (.int k u)) := by with_unfolding_all rfl
theorem subs_nameS {z : PySem.Str} {p : Pos} {y : PySem.Str} : subscripted (.Name z p) false (.str y t) (.int k u) = operate [.str y t, .int k u] (getItem (.str y t) (.int k u)) := by with_unfolding_all rfl
theorem gone_name {y : PySem.Str} {p : Pos} {v r : Value} : letTemporaryGo (.Name y p) v r = pure () := by with_unfolding_all rfl
theorem gone_const {c : Const} {n : Nat} {p : Pos} {z : PySem.Str} {r : Value} : letTemporaryGo (.Constant c n p) (.str z t) r = pure () := by with_unfolding_all rfl
end
end Mine
namespace Mine
section
variable {prog : Program} {w : World} {A : Around} {E : Value → Shared → Prop} {s : Shared} {value slice : Expr} {l : Addr} {u t : Tok} {Q : Value → Shared → Prop} {m : Nat} {k : Int}
theorem menu4V {a b c d e : PySem.Str} {ta tb tc td : Tok} (hl : s.heap.IsList l [.str a ta, .str b tb, .str c tc, .str d td].toArray) (he : M4 (m : Int) e a b c d) (hm : m < 4) (hs : subscripted slice false (.ref l) (.int (m : Int) u) = operate [.ref l, .int (m : Int) u] (getItem (.ref l) (.int (m : Int) u)))
    (h : ∀ t, Q (.str e t) s) : wpAny (model prog w) A (subscriptTail value slice (.ref l) (.int (m : Int) u)) Q E s :=
  kba_turn (value' := .Name "_" ⟨0, 0, 0, 0⟩) (fun _ => rfl) (menu4N hl he h hm hs fun _ => gone_name)
theorem menu4iV {a b c d e : Int} {ta tb tc td : Tok} (hl : s.heap.IsList l [.int a ta, .int b tb, .int c tc, .int d td].toArray) (he : M4i (m : Int) e a b c d) (hm : m < 4) (hs : subscripted slice false (.ref l) (.int (m : Int) u) = operate [.ref l, .int (m : Int) u] (getItem (.ref l) (.int (m : Int) u)))
    (h : ∀ t, Q (.int e t) s) : wpAny (model prog w) A (subscriptTail value slice (.ref l) (.int (m : Int) u)) Q E s :=
  kba_turn (value' := .Name "_" ⟨0, 0, 0, 0⟩) (fun _ => rfl) (menu4iN hl he h hm hs fun _ => gone_name)
theorem menu3V {a b c e : PySem.Str} {ta tb tc : Tok} (hl : s.heap.IsList l [.str a ta, .str b tb, .str c tc].toArray) (he : M3 (m : Int) e a b c) (hm : m < 3) (hs : subscripted slice false (.ref l) (.int (m : Int) u) = operate [.ref l, .int (m : Int) u] (getItem (.ref l) (.int (m : Int) u)))
    (h : ∀ t, Q (.str e t) s) : wpAny (model prog w) A (subscriptTail value slice (.ref l) (.int (m : Int) u)) Q E s :=
  kba_turn (value' := .Name "_" ⟨0, 0, 0, 0⟩) (fun _ => rfl) (menu3N hl he h hm hs fun _ => gone_name)
end
end Mine
namespace Mine
section
variable {prog : Program} {w : World} {A : Around} {E : Value → Shared → Prop} {s : Shared} {value slice : Expr} {l : Addr} {u t : Tok} {Q : Value → Shared → Prop} {m x n : Nat} {k : Int} {h₀ : Heap} {L : Addr} {mm : Str → Option Value} {led : List (Addr × Obj)}
theorem menu4L {a b c d e : PySem.Str} {ta tb tc td : Tok} (N : News h₀ L s.heap led) (hl : List.Mem (l, W.listOf #[.str a ta, .str b tb, .str c tc, .str d td] n) led) (he : M4 (m : Int) e a b c d) (hm : m < 4) (hs : subscripted slice false (.ref l) (.int (m : Int) u) = operate [.ref l, .int (m : Int) u] (getItem (.ref l) (.int (m : Int) u)))
    (h : ∀ t, Q (.str e t) s) : wpAny (model prog w) A (subscriptTail value slice (.ref l) (.int (m : Int) u)) Q E s := menu4V (News.isList N hl) he hm hs h
theorem menu4iL {a b c d e : Int} {ta tb tc td : Tok} (N : News h₀ L s.heap led) (hl : List.Mem (l, W.listOf #[.int a ta, .int b tb, .int c tc, .int d td] n) led) (he : M4i (m : Int) e a b c d) (hm : m < 4) (hs : subscripted slice false (.ref l) (.int (m : Int) u) = operate [.ref l, .int (m : Int) u] (getItem (.ref l) (.int (m : Int) u)))
    (h : ∀ t, Q (.int e t) s) : wpAny (model prog w) A (subscriptTail value slice (.ref l) (.int (m : Int) u)) Q E s := menu4iV (News.isList N hl) he hm hs h
theorem menu3L {a b c e : PySem.Str} {ta tb tc : Tok} (N : News h₀ L s.heap led) (hl : List.Mem (l, W.listOf #[.str a ta, .str b tb, .str c tc] n) led) (he : M3 (m : Int) e a b c) (hm : m < 3) (hs : subscripted slice false (.ref l) (.int (m : Int) u) = operate [.ref l, .int (m : Int) u] (getItem (.ref l) (.int (m : Int) u)))
    (h : ∀ t, Q (.str e t) s) : wpAny (model prog w) A (subscriptTail value slice (.ref l) (.int (m : Int) u)) Q E s := menu3V (News.isList N hl) he hm hs h
theorem dig4L (h4 : x < 4) (hs : subscripted slice false (.str ("0123" : PySem.Str) t) (.int (x : Int) u) = operate [.str ("0123" : PySem.Str) t, .int (x : Int) u] (getItem (.str ("0123" : PySem.Str) t) (.int (x : Int) u))) (h : ∀ t k', Q (.str (sDig x) t) { s with toks := k' }) :
    wpAny (model prog w) A (subscriptTail value slice (.str ("0123" : PySem.Str) t) (.int (x : Int) u)) Q E s :=
  kba_turn (value' := .Name "_" ⟨0, 0, 0, 0⟩) (fun _ => rfl) (item_dig4 rfl h4 h hs fun _ => gone_name)
theorem dig2L (h4 : x < 2) (hs : subscripted slice false (.str ("01" : PySem.Str) t) (.int (x : Int) u) = operate [.str ("01" : PySem.Str) t, .int (x : Int) u] (getItem (.str ("01" : PySem.Str) t) (.int (x : Int) u))) (h : ∀ t k', Q (.str (sDig x) t) { s with toks := k' }) :
    wpAny (model prog w) A (subscriptTail value slice (.str ("01" : PySem.Str) t) (.int (x : Int) u)) Q E s :=
  kba_turn (value' := .Name "_" ⟨0, 0, 0, 0⟩) (fun _ => rfl) (item_dig2 rfl h4 h hs fun _ => gone_name)
end
end Mine
namespace Mine
theorem zm_val {n : Nat} (h : n % 6 < 4) : zm n = some (if n / 6 % 3 = 2 then -zSecs n else zSecs n) := by unfold zm; rw [if_neg (by omega), if_neg (by omega)]
theorem zSecs_lo {n : Nat} (h : n % 6 = 0 ∨ n % 6 = 3) : zSecs n = 3600 * ((n / 6 / 3 % 4 : Nat) : Int) + 60 * zMinutes (n / 6) := by
  unfold zSecs zHours
  rw [if_neg (by omega), show n / 18 = n / 6 / 3 by omega]; omega
theorem zSecs_hi {n : Nat} (h : n % 6 = 1 ∨ n % 6 = 2) : zSecs n = 3600 * (((n / 6 / 3 % 4 : Nat) : Int) + 10 * ((n / 6 / 48 % 2 : Nat) : Int)) + 60 * zMinutes (n / 6) := by
  unfold zSecs zHours
  rw [if_pos h, show n / 18 = n / 6 / 3 by omega, show n / 288 = n / 6 / 48 by omega]
theorem sign_eq {g : Nat} {S : PySem.Str} (h : M3 (g : Int) S ("" : PySem.Str) ("+" : PySem.Str) ("-" : PySem.Str)) (hg : g < 3) : (S == ("-" : PySem.Str)) = decide (g = 2) := by
  have hc : g = 0 ∨ g = 1 ∨ g = 2 := by omega
  rcases hc with rfl | rfl | rfl
  · rw [h.1 rfl]; decide +kernel
  · rw [h.2.1 rfl]; decide +kernel
  · rw [h.2.2 rfl]; decide +kernel
theorem of_allLt {d : Addr} (l : List (Addr × Obj)) (h : AllLt d l) : ∀ p ∈ l, p.1 < d := by
  induction l with
  | nil => intro p hp; cases hp
  | cons x l ih =>
    intro p hp
    have h1 : x.1 < d := h.1
    have h2 : AllLt d l := h.2
    rcases List.mem_cons.mp hp with rfl | hp
    · exact h1
    · exact ih h2 p hp
end Mine
end
section
open PySem PySem.W PyProof.Rows PySem.Calls PySem.Builtin.Re
set_option pp.maxSteps 20000
set_option maxRecDepth 100000
namespace Mine
section
variable {w : World} {p : Program} {loose : List Str} {mean : ExcName → Option Value} {mg mb : Str → Option Value}
  {dp un : Nat} {gd : Option (List Code)} {cn : Str} {cs : Scope} {a : Addr} {ccd : Value} {cl : List (Str × Addr)} {outer : List Env} {A₀ : Around} {base h₀ : Heap} {L : Addr} {m : Str → Option Value} {s : Shared} {Q E : Value → Shared → Prop} {news : List (Addr × Obj)}
local macro_rules | `(tactic| walk_at "binaryOp Mod int int") => `(tactic| (k_here; first
  | (refine mod6 (by assumption) ?_; intro t' k'; (try dsimp only))
  | (refine mod4 (by assumption) ?_; intro t' k'; (try dsimp only))
  | (refine mod3 (by assumption) ?_; intro t' k'; (try dsimp only))
  | (refine mod2 (by assumption) ?_; intro t' k'; (try dsimp only))))
local macro_rules | `(tactic| walk_at "binaryOp FloorDiv int int") => `(tactic| (k_here; first
  | (refine div6 (by assumption) (by assumption) ?_; intro t' k'; (try dsimp only))
  | (refine div3 (by assumption) (by assumption) ?_; intro t' k'; (try dsimp only))
  | (refine div12 (by assumption) (by assumption) ?_; intro t' k'; (try dsimp only))
  | (refine div48 (by assumption) (by assumption) ?_; intro t' k'; (try dsimp only))))
local macro_rules | `(tactic| walk_at "subscriptTail") => `(tactic| (k_here; first
  | ((refine dig4L (by assumption) (by first | exact subs_binS | exact subs_nameS) ?_); intro t' k'; (try dsimp only))
  | ((refine dig2L (by assumption) (by first | exact subs_binS | exact subs_nameS) ?_); intro t' k'; (try dsimp only))
  | ((refine menu3L (by k_asm) (.head _) (by assumption) (by assumption) (by first | exact subs_bin | exact subs_name) ?_); intro t'; (try dsimp only))
  | ((refine menu4L (by k_asm) (.head _) (by assumption) (by assumption) (by first | exact subs_bin | exact subs_name) ?_); intro t'; (try dsimp only))
  | ((refine menu4iL (by k_asm) (.head _) (by assumption) (by assumption) (by first | exact subs_bin | exact subs_name) ?_); intro t'; (try dsimp only))))
/-- the walk is to stop ahead of a test of several parts -/
theorem holdOr {M : Model} {A : Around} {op : BoolOp} {vs : List Expr} {pb : Pos} {thn els rest : List Stmt} {q : Pos} {env : Env} {Q : Flow → Shared → Prop} {E : Value → Shared → Prop} {s : Shared} (h : Hold (wpAny M A (execs (.If (.BoolOp op vs pb) thn els q :: rest) env) Q E s)) : wpAny M A (execs (.If (.BoolOp op vs pb) thn els q :: rest) env) Q E s := h
/-- two statements, and what they leave -/
theorem cutStm {M : Model} {A : Around} {a b : Stmt} {rest : List Stmt} {env : Env} {Q : Flow → Shared → Prop} {E : Value → Shared → Prop} {s : Shared} (P : Shared → Prop) (h1 : ∀ s', P s' → wpAny M A (execs rest env) Q E s')
    (h2 : ∀ TB : Flow → Shared → Prop, (∀ s', P s' → TB .next s') → wpAny M A (exec a env) (fun f s' => match f with | .next => wpAny M A (exec b env) TB E s' | f => Q f s') E s) : wpAny M A (execs (a :: b :: rest) env) Q E s := by
  refine wpAny_execs_cons (wpAny_mono (h2 (fun f s' => match f with | .next => P s' | f => Q f s') fun _ h => h) (fun f s' h => ?_) fun _ _ e => e)
  cases f with
  | next => exact wpAny_execs_cons (wpAny_mono h (fun f s'' h => by cases f with | next => exact h1 _ h | cont => exact h | brk => exact h | ret v => exact h) fun _ _ e => e)
  | cont => exact h
  | brk => exact h
  | ret v => exact h
theorem four : ∀ {d : Nat}, d < 6 → ¬ d = 4 → ¬ d = 5 → d = 0 ∨ d = 1 ∨ d = 2 ∨ d = 3 := by decide
theorem beq_no {x y : Prop} {a b : Int} (h : ¬ a = b) (hy : y) : if (a == b) = true then x else y := by rw [beq_false_of_ne h]; exact hy
theorem beq_yes {x y : Prop} {a b : Int} (h : a = b) (hx : x) : if (a == b) = true then x else y := by rw [beq_iff_eq.mpr h]; exact hx
theorem str2_le {a b : PySem.Str} {i j k : Nat} (ha : a.length ≤ i) (hb : b.length ≤ j) (hk : i + j ≤ k) : (a ++ b).length ≤ k := by rw [Str.length_append]; omega
/-- what stands ahead of the seconds: the hours are written -/
def zmid {g h₀ : Heap} {L : Addr} {m₀ : Str → Option Value} (_ : Fr g L h₀ m₀) (s : Shared) (news : List (Addr × Obj)) (n r mm : Nat) (s' : Shared) : Prop :=
  ∃ h tk m S, ∃ H : Int, ∃ t1 t2 tS tM, s' = { s with heap := h, toks := tk } ∧ Fr g L h m ∧ News g L h news ∧ m "hour" = some (.str S t1) ∧ m "hours" = some (.int H t2) ∧ m "sign" = some (.str (sSign r) tS) ∧ m "minutes" = some (.int (mm : Nat) tM) ∧ S.length ≤ 3 ∧ 0 ≤ H ∧ H ≤ 33 ∧ (sSign r ++ S) ++ sMin r = zt n ∧ zSecs n = 3600 * H + 60 * zMinutes r
theorem zmid.mk {g h₀ : Heap} {L : Addr} {m₀ : Str → Option Value} {F₀ : Fr g L h₀ m₀} {s : Shared} {news : List (Addr × Obj)} {n r mm : Nat} {x : Addr × Obj} {h : Heap} {tk t1 t2 tS tM : Tok} {m : Str → Option Value} {S : PySem.Str} {H : Int} (F : Fr g L h m) (N : News g L h (x :: news)) (e1 : m "hour" = some (.str S t1)) (e2 : m "hours" = some (.int H t2))
  (e3 : m "sign" = some (.str (sSign r) tS)) (e4 : m "minutes" = some (.int (mm : Nat) tM)) (hS : S.length ≤ 3) (h0 : 0 ≤ H) (h1 : H ≤ 33) (hz : (sSign r ++ S) ++ sMin r = zt n) (hs : zSecs n = 3600 * H + 60 * zMinutes r) : zmid F₀ s news n r mm { s with heap := h, toks := tk } :=
  ⟨h, tk, m, S, H, t1, t2, tS, tM, rfl, F, fun p hp => N p (.tail _ hp), e1, e2, e3, e4, hS, h0, h1, hz, hs⟩
local macro_rules | `(tactic| walk_at "ite") => `(tactic| (k_here; first | refine beq_no (by assumption) ?_ | refine beq_yes (by assumption) ?_))
local macro_rules | `(tactic| walk_at "execs cons") => `(tactic| (k_here; refine holdOr ?_))
set_option maxHeartbeats 8000000 in
theorem zone_call (B : Below A₀ base outer h₀) (F : Fr h₀ L s.heap m) (X : (top.heap_1 w.params).In h₀) (N : News h₀ L s.heap (news)) (T : Top p loose mean mg mb h₀) (hk : cs.kind = .function) (hdp : dp + 10 < recursionLimit) (hun : un + 100 < cLine)
  {n : Nat} {tn : Tok} (hn : n < 1000000) (hret : ∀ ta t1 v h' tk', Fr h₀ L h' m → News h₀ L h' ((ta, { cls := .type "tuple", data := .seq #[.str (zt n) t1, v] }) :: news) → (∀ p ∈ news, p.1 < ta) → MomV v (zm n) → Q (.ref ta) { s with heap := h', toks := tk' }) :
  wpAny (model PySem.Challenge.pw_xe0013_01 w) (ktrTop dp un gd cn cs L a ccd cl outer) (call (.ref 149) [.int (n : Nat) tn]) Q E s := by
  refine wpAny_call ?_
  k_dflt ktr_enter
  rename Fr _ _ _ _ => F₁
  replace F₁ : Fr _ _ _ (fun y => List.lookup y [("figure", Value.int (n : Int) tn)]) := F₁
  obtain ⟨r, hr⟩ : ∃ r, n / 6 = r := ⟨_, rfl⟩
  obtain ⟨g, hg⟩ : ∃ g, r % 3 = g := ⟨_, rfl⟩
  obtain ⟨q, hq⟩ : ∃ q, r / 3 = q := ⟨_, rfl⟩
  obtain ⟨hh, hhh⟩ : ∃ x, q % 4 = x := ⟨_, rfl⟩
  obtain ⟨pp, hpp⟩ : ∃ x, r / 12 = x := ⟨_, rfl⟩
  obtain ⟨mm, hmm⟩ : ∃ x, pp % 4 = x := ⟨_, rfl⟩
  obtain ⟨v, hv⟩ : ∃ x, r / 48 = x := ⟨_, rfl⟩
  obtain ⟨tt, htt⟩ : ∃ x, v % 2 = x := ⟨_, rfl⟩
  obtain ⟨nm, hnm⟩ : ∃ x, r % 4 = x := ⟨_, rfl⟩
  have hrr : r < 1000000 := hr ▸ Nat.lt_of_le_of_lt (Nat.div_le_self n 6) hn
  have hg3 : g < 3 := hg ▸ Nat.mod_lt _ (by decide)
  have hh4 : hh < 4 := hhh ▸ Nat.mod_lt _ (by decide)
  have hm4 : mm < 4 := hmm ▸ Nat.mod_lt _ (by decide)
  have ht2 : tt < 2 := htt ▸ Nat.mod_lt _ (by decide)
  have hn4 : nm < 4 := hnm ▸ Nat.mod_lt _ (by decide)
  by_cases hd : n % 6 = 4
  · have hme := zName_menu hd (k := (nm : Int)) (by lia)
    have hd' : ((n % 6 : Nat) : Int) = 4 := congrArg _ hd
    k_steps
    rename_i kF kN _ _
    refine' hret _ _ _ _ _ kF (cb_drop kN ?k1) ?k2 ?k3
    case k1 =>
      intro p hp
      rcases List.mem_cons.mp hp with rfl | hp
      · exact .head _
      · exact .tail _ (.tail _ hp)
    case k2 => exact of_allLt _ (And.right (by assumption))
    case k3 => rw [zm_name hd]; trivial
  rename ¬ n % 6 = 4 => hd4
  by_cases hd : n % 6 = 5
  · have hme := zBad_menu hd (k := (nm : Int)) (by lia)
    have hd' : ((n % 6 : Nat) : Int) = 5 := congrArg _ hd
    k_steps
    rename_i kF kN _ _
    refine' hret _ _ _ _ _ kF (cb_drop kN ?k1) ?k2 ?k3
    case k1 =>
      intro p hp
      rcases List.mem_cons.mp hp with rfl | hp
      · exact .head _
      · exact .tail _ (.tail _ hp)
    case k2 => exact of_allLt _ (And.right (by assumption))
    case k3 => rw [zm_none hd]; trivial
  rename ¬ n % 6 = 5 => hd5
  have hm1 := sSign_menu (r := r) (k := (g : Int)) (by lia)
  have hm2 := sMin_menu (r := r) (k := (mm : Int)) (by lia)
  have hm3 := zMin_menu (r := r) (k := (mm : Int)) (by lia)
  have hsg := sign_eq hm1 hg3
  have hl1 := sSign_len r
  have hl2 := sMin_len r
  have hl3 := sDig_len hh
  have hl4 := sDig_len tt
  have hb1 := zMinutes_lo r
  have hb2 := zMinutes_hi r
  obtain ⟨d, hd⟩ : ∃ d, n % 6 = d := ⟨_, rfl⟩
  rw [hd] at hd4 hd5
  have hd' : ((n % 6 : Nat) : Int) = (d : Nat) := congrArg _ hd
  have hd4' : ¬ ((d : Nat) : Int) = 4 := fun e => hd4 (Int.ofNat.inj e)
  have hd5' : ¬ ((d : Nat) : Int) = 5 := fun e => hd5 (Int.ofNat.inj e)
  k_steps
  show wpAny _ _ _ _ _ _
  rename Fr _ _ _ _ => F1
  rename News _ _ _ _ => N1
  refine new_toks fun tk0 => ?_
  dsimp only
  refine cutStm (zmid F1 s news n r mm) ?_ ?_
  · rintro s' ⟨h, tk, m1, S, H, t1, t2, tS, tM, rfl, F2, N2, e1, e2, e3, e4, hS, hH0, hH, hz, hs⟩
    have K0 := F2.known0 (n := "minutes") e4
    have K1 := K0.known0 (n := "sign") ((if_neg (by decide)).trans e3)
    have K2 := K1.known0 (n := "hours") ((if_neg (by decide)).trans ((if_neg (by decide)).trans e2))
    have K3 := K2.known0 (n := "hour") ((if_neg (by decide)).trans ((if_neg (by decide)).trans ((if_neg (by decide)).trans e1)))
    clear F2 K0 K1 K2
    have hv : zm n = some (if g = 2 then -zSecs n else zSecs n) := by subst hr hg; exact zm_val (by rcases four (Nat.mod_lt _ (by decide)) (hd ▸ hd4) (hd ▸ hd5) with h | h | h | h <;> rw [h] <;> decide)
    k_steps
    all_goals
      rename_i kF kN _ _
      (try dsimp only at kF kN)
      rw [hz] at kN
      refine' hret _ _ _ _ _ kF (cb_drop kN ?k1) ?k2 ?k3
      case k1 =>
        intro p hp
        rcases List.mem_cons.mp hp with rfl | hp
        · exact .head _
        · exact .tail _ (.tail _ (.tail _ hp))
      case k2 => exact of_allLt _ (And.right (And.right (by assumption)))
      case k3 =>
        rw [hv, hs]
        first
          | (have hx : decide (g = 2) = true := hsg.symm.trans (by assumption)
             rw [if_pos (of_decide_eq_true hx)]; show _ = _; first | rfl | lia)
          | (have hx : decide (g = 2) = false := hsg.symm.trans (by assumption)
             rw [if_neg (of_decide_eq_false hx)]; show _ = _; first | rfl | lia)
  · intro TB hTB
    rcases four (hd ▸ Nat.mod_lt _ (by decide)) hd4 hd5 with hc | hc | hc | hc
    all_goals
      first | have c1 : ((d : Nat) : Int) = 1 := by rw [hc]; rfl
            | have c1 : ¬ ((d : Nat) : Int) = 1 := by rw [hc]; decide
      first | have c2 : ((d : Nat) : Int) = 2 := by rw [hc]; rfl
            | have c2 : ¬ ((d : Nat) : Int) = 2 := by rw [hc]; decide
      first | have c0 : ((d : Nat) : Int) = 0 := by rw [hc]; rfl
            | have c0 : ¬ ((d : Nat) : Int) = 0 := by rw [hc]; decide
      have hy := hd.trans hc
      k_steps
      rename Fr _ _ _ _ => kF
      rename News _ _ _ _ => kN
      refine hTB _ (zmid.mk kF kN rfl rfl rfl rfl ?_ ?_ ?_ ?_ ?_)
    · exact str2_le (Nat.le_of_eq hl3) (Nat.le_refl 1) (by decide)
    · lia
    · lia
    · subst hr hq hhh; exact zt_0 hy
    · subst hr hq hhh; exact zSecs_lo (.inl hy)
    · exact str2_le (Nat.le_of_eq hl4) (Nat.le_of_eq hl3) (by decide)
    · lia
    · lia
    · subst hr hq hhh hv htt; exact zt_1 hy
    · subst hr hq hhh hv htt; exact zSecs_hi (.inl hy)
    · exact str2_le (str2_le (Nat.le_of_eq hl4) (Nat.le_of_eq hl3) (Nat.le_refl _)) (Nat.le_refl 1) (by decide)
    · lia
    · lia
    · subst hr hq hhh hv htt; exact zt_2 hy
    · subst hr hq hhh hv htt; exact zSecs_hi (.inr hy)
    · exact Nat.le_trans (Nat.le_of_eq hl3) (by decide)
    · lia
    · lia
    · subst hr hq hhh; exact zt_3 hy
    · subst hr hq hhh; exact zSecs_lo (.inr hy)
end
end Mine
end
section
open PySem PySem.W PyProof.Rows PySem.Calls PySem.Builtin.Re PyProof.Rows.LCg
set_option maxRecDepth 100000
namespace Mine
section
variable {w : World} {p : Program} {loose : List Str} {mean : ExcName → Option Value} {mg mb : Str → Option Value}
  {dp un : Nat} {gd : Option (List Code)} {cn : Str} {cs : Scope} {a : Addr} {ccd : Value} {cl : List (Str × Addr)} {outer : List Env} {A₀ : Around} {base h₀ : Heap} {L : Addr} {m : Str → Option Value} {s : Shared} {Q E : Value → Shared → Prop} {news : List (Addr × Obj)}
local macro_rules | `(tactic| walk_at "exec For Name Call cons nil") => `(tactic| (k_here; refine hold ?_))
local macro_rules | `(tactic| walk_at "exec For Name Name cons nil") => `(tactic| (k_here; refine hold ?_))
local macro_rules | `(tactic| walk_at "call type:range") => `(tactic| (k_here; (first | refine range1_rows (by k_asm) (by k_asm) ?_ | refine range2_rows (by k_asm) (by k_asm) ?_); intro h' tk' t₁ u₁ v₁ hR F' N' K'; (try dsimp only); (try k_fold)))
local macro_rules | `(tactic| walk_at "call builtin:len") => `(tactic| (k_here; (refine len_list (News.isList (by k_asm) (by first | exact .head _ | exact .tail _ (.head _) | exact .tail _ (.tail _ (.head _)) | exact .tail _ (.tail _ (.tail _ (.head _))) | exact .tail _ (.tail _ (.tail _ (.tail _ (.head _)))) | exact .tail _ (.tail _ (.tail _ (.tail _ (.tail _ (.head _))))) | exact .tail _ (.tail _ (.tail _ (.tail _ (.tail _ (.tail _ (.head _)))))) | exact .tail _ (.tail _ (.tail _ (.tail _ (.tail _ (.tail _ (.tail _ (.head _))))))))) (by simp only [List.size_toArray]; lia) ?_); (try simp only [List.size_toArray]); (try dsimp only); (try k_fold)))
local macro_rules | `(tactic| walk_at "subscriptTail") => `(tactic| (k_here; (refine item_list (News.isList (by k_asm) (by first | exact .head _ | exact .tail _ (.head _) | exact .tail _ (.tail _ (.head _)) | exact .tail _ (.tail _ (.tail _ (.head _))) | exact .tail _ (.tail _ (.tail _ (.tail _ (.head _)))) | exact .tail _ (.tail _ (.tail _ (.tail _ (.tail _ (.head _))))) | exact .tail _ (.tail _ (.tail _ (.tail _ (.tail _ (.tail _ (.head _)))))) | exact .tail _ (.tail _ (.tail _ (.tail _ (.tail _ (.tail _ (.tail _ (.head _))))))))) (by lia) (by lia) (by first | assumption | exact menu0 (by lia) | exact menu1 (by lia) | exact menu2 (by lia) | exact menu3 (by lia)) ?_); (try dsimp only); (try k_fold)))
local macro_rules | `(tactic| k_all) => `(tactic| first | with_reducible assumption | exact ltne (by assumption) | exact allne (by assumption))
local macro_rules | `(tactic| walk_at "eval ListComp") => `(tactic| (k_here; refine hold ?_))
local macro_rules | `(tactic| walk_at "CompSrcT") => `(tactic| (k_here; refine hold ?_))
local macro_rules | `(tactic| walk_at "CompSrc") => `(tactic| (k_here; refine hold ?_))
local macro_rules | `(tactic| walk_at "call builtin:list.append") => `(tactic| (k_here; refine hold ?_))
local macro_rules | `(tactic| walk_at "subscriptTail") => `(tactic| (k_here; (refine item_list (by assumption) (by lia) (by lia) (by assumption) ?_); (try dsimp only); (try k_fold)))
/-- the zones as told: each a tuple of its text and its moment -/
def Tups (zs : List Nat) (kv : List Value) (tups : List (Addr × Obj)) : Prop :=
  kv.length = zs.length ∧ ∀ j < zs.length, ∃ ta z t v, zs[j]? = some z ∧ z < 576 ∧ kv[j]? = some (.ref ta) ∧ (ta, ({ cls := .type "tuple", data := .seq #[.str (zt z) t, v] } : Obj)) ∈ tups ∧ MomV v (zm z)
theorem Tups.snoc {zs : List Nat} {kv : List Value} {tups : List (Addr × Obj)} (h : Tups zs kv tups) {ta : Addr} {z : Nat} {t : Tok} {v : Value} (hz : z < 576) (hv : MomV v (zm z)) :
    Tups (zs ++ [z]) (kv ++ [.ref ta]) ((ta, { cls := .type "tuple", data := .seq #[.str (zt z) t, v] }) :: tups) := by
  refine ⟨by rw [List.length_append, List.length_append, h.1]; rfl, fun j hj => ?_⟩
  rw [List.length_append, List.length_singleton] at hj
  by_cases e : j = zs.length
  · subst e
    exact ⟨ta, z, t, v, by rw [List.getElem?_append_right (Nat.le_refl _), Nat.sub_self]; rfl, hz, by rw [List.getElem?_append_right (by rw [h.1]; exact Nat.le_refl _), h.1, Nat.sub_self]; rfl, .head _, hv⟩
  · obtain ⟨ta', z', t', v', h1, h2, h3, h4, h5⟩ := h.2 j (by lia)
    exact ⟨ta', z', t', v', by rw [List.getElem?_append_left (by lia)]; exact h1, h2, by rw [List.getElem?_append_left (by rw [h.1]; lia)]; exact h3, .tail _ h4, h5⟩
theorem own_ints (a b c d e f : Tok) : IntsAre [.int 36 a, .int 133 b, .int 23 c, .int 164 d, .int 105 e, .int 4 f] [36, 133, 23, 164, 105, 4] := .cons _ _ (.cons _ _ (.cons _ _ (.cons _ _ (.cons _ _ (.cons _ _ .nil)))))
set_option maxHeartbeats 8000000 in
theorem zones_call (B : Below A₀ base outer h₀) (F : Fr h₀ L s.heap m) (X : (top.heap_1 w.params).In h₀) (N : News h₀ L s.heap (news)) (T : Top p loose mean mg mb h₀) (hk : cs.kind = .function) (hdp : dp + 30 < recursionLimit) (hun : un + 300 < cLine)
  {sa : Addr} {xs : List Value} {ns : List Int} (hl : h₀.IsList sa xs.toArray) (hi : IntsAre xs ns) (hn : ns.length ≤ 63) (hret : ∀ za kv zs tups h' tk' k, Tups zs kv tups → zs.length = 6 → (∀ p ∈ tups, p.1 ≠ za) → Fr h₀ L h' m → News h₀ L h' ((za, listOf kv.toArray k) :: (tups ++ news)) → Q (.ref za) { s with heap := h', toks := tk' }) :
  wpAny (model PySem.Challenge.pw_xe0013_01 w) (ktrTop dp un gd cn cs L a ccd cl outer) (call (.ref 154) [.ref sa]) Q E s := by
  refine wpAny_call ?_
  k_dflt (refine' code_def ?k1 ?k2 ?k3 ?k4 ?k5 ?kA ?kF ?kK ?k6 ?k7 ?k8 ?k9 ?kB ?_ ?c2 ?c3 ?c4 ?c5; (case kA => exact rfl); (case kF => exact rfl); (case kK => assumption); (case k1 => k_asm); (case k2 => k_asm); (case k3 => k_asm); (case k4 => k_asm); (case k5 => k_asm); (case k6 => k_is); (case k7 => k_is); (case k8 => ktr_room); (case k9 => exact BindsTo.of_eq rfl); (case c5 => decide); (case kB => exact locs rfl); (case c2 => exact rfl); (case c3 => exact rfl); (case c4 => exact rfl); k_whole; intro g' L' h' FG' F' N' B' X' T'; (try dsimp only); (try k_fold))
  have hl' := stays_list (base := h₀) (h := _) FG'.keep hl
  k_steps
  show wpAny _ _ _ _ _ _
  rename_i oa h1 l1 h2 td h3 l2 h4 kF kN
  have hov : ∃ ov, IntsAre ov [36, 133, 23, 164, 105, 4] ∧ News g' L' h4 ((td, listOf #[] 0) :: (oa, listOf ov.toArray 0) :: news) := ⟨_, own_ints _ _ _ _ _ _, kN⟩
  clear kN
  refine shut fun X hX => ?_
  obtain ⟨ov, hov, kN⟩ := hov
  refine hX ?_
  clear hX X
  refine new_toks fun tk0 => ?_
  dsimp only
  replace kF := kF.known0 (n := "script") (w := .ref sa) rfl
  have b0 : @LT.lt Nat _ oa td := l2.1
  refine for_range (by assumption) (a := 0) (b := 6) (by lia) (by lia) (by lia) (by lia) 6 (by lia)
    (fun i m led => m "script" = some (.ref sa) ∧ m "own" = some (.ref oa) ∧ m "told" = some (.ref td) ∧ ∃ kv zs tups k, Tups zs kv tups ∧ zs.length = i ∧ (∀ p ∈ tups, p.1 ≠ td) ∧ led = (td, listOf kv.toArray k) :: (oa, listOf ov.toArray 0) :: (tups ++ news)) rfl ?_ ?_ ?_ rfl rfl
  · k_steps
    exact RangeStart.mk (by assumption) (by k_asm) (by k_asm) ⟨rfl, rfl, rfl, [], [], [], _, ⟨rfl, fun j hj => absurd hj (Nat.not_lt_zero j)⟩, rfl, fun _ h => (nomatch h), rfl⟩
  · rintro i I oI TBq hTB m led h tk t hi6 ⟨j1, j2, j3, kv, zs, tups, k, hT, hzl, htd, rfl⟩ off F N
    have K0 := F.known0 (n := "told") ((if_neg (by decide)).trans (j3))
    have K1 := K0.known0 (n := "own") ((if_neg (by decide)).trans ((if_neg (by decide)).trans (j2)))
    have K2 := K1.known0 (n := "script") ((if_neg (by decide)).trans ((if_neg (by decide)).trans ((if_neg (by decide)).trans (j1))))
    clear F K0 K1
    rw [Int.zero_add] at K2
    obtain ⟨to, g1⟩ := ints_item hov (k := (i : Int)) (i := i) rfl (by exact hi6)
    have i1 : h.IsList oa ov.toArray := N.isList (.tail _ (.tail _ (.head _)))
    k_steps
    show wpAny _ _ _ _ _ _
    refine new_toks fun tk1 => ?_
    dsimp only
    k_dflt (refine LCg.ListComp_U (F₀ := by k_asm) (by with_unfolding_all rfl) (by decide) (by rfl) (by decide) (by rfl) ?_)
    k_steps
    rename_i t12 h12 F12 N12
    have hpk := hi.pick (some (i : Int)) (some 63) (some 6)
    have hps := slicePick_size_le xs.toArray (some (i : Int)) (some 63) (some 6)
    generalize slicePick xs.toArray (some (i : Int)) (some 63) (some 6) = its at *
    generalize pickNums ns (some (i : Int)) (some 63) (some 6) = pn at *
    have hxl := hi.length
    simp only [List.size_toArray, Array.length_toList] at hps
    refine LCg.CompSrc.ledger (by rfl) F12 N12 (.head _) (by rw [sizeLine_eq]; lia) fun g2 => ?_
    refine compU_inv its.size (fun j l => ∃ vs, IntsAre l vs) (.inr ⟨_, .head _, rfl, _, rfl⟩) ?_ ?_ its.size 0 [] (by lia) ⟨[], .nil⟩
    · rintro l ⟨vs, hvs⟩
      unfold LCg.FinE
      intro D h13 tk13 F13 N13 o13
      dsimp only
      k_steps
      have hf1 := Int.fmod_nonneg_of_pos ([36, 133, 23, 164, 105, 4].getD (i : Int).toNat 0 + vs.sum) (show (0 : Int) < 1000000 by decide)
      have hf2 := Int.fmod_lt_of_pos ([36, 133, 23, 164, 105, 4].getD (i : Int).toNat 0 + vs.sum) (show (0 : Int) < 1000000 by decide)
      generalize ([36, 133, 23, 164, 105, 4].getD (i : Int).toNat 0 + vs.sum).fmod 1000000 = fv at *
      obtain ⟨n, rfl⟩ := Int.eq_ofNat_of_zero_le hf1
      refine zone_call (by k_asm) (by k_asm) (by k_asm) (by k_asm) (by k_asm) rfl (by show dp + 1 + 10 < recursionLimit; lia) (by show un + 3 + 100 < cLine; lia) (by lia) ?_
      intro ta tt v h14 tk14 F14 N14 l14 hmv
      rw [zt_mod] at N14
      rw [zm_mod] at hmv
      (try dsimp only)
      k_steps
      show wpAny _ _ _ _ _ _
      have b1 : @Ne Nat I td := Ne.symm (off (td, _) (.head _))
      have b2 : @LT.lt Nat _ td ta := l14 (td, listOf kv.toArray k) (.tail _ (.tail _ (.tail _ (.head _))))
      have b3 : ∀ q ∈ (oa, listOf ov.toArray 0) :: ((ta, ({ cls := .type "tuple", data := .seq #[.str (zt (n % 576)) tt, v] } : Obj)) :: tups ++ news), q.1 ≠ td := all_cons (Nat.ne_of_lt b0) (all_cons (Nat.ne_of_gt b2) (all_app htd (allne l2.2)))
      have b4 := hT.1
      have N15 := cb_drop (news := (I, oI) :: (td, listOf kv.toArray k) :: (oa, listOf ov.toArray 0) :: ((ta, ({ cls := .type "tuple", data := .seq #[.str (zt (n % 576)) tt, v] } : Obj)) :: tups ++ news)) N14 (by repeat' first | exact sub_rfl | refine sub_cons (by repeat first | exact .head _ | refine .tail _ ?_ | refine List.mem_append_right _ ?_) ?_ | refine sub_skip ?_ | exact sub_inl | refine sub_app ?_ ?_ | refine sub_inr ?_)
      refine append_K (by k_asm) N15 (by k_upd) (hsz := by rw [List.size_toArray, sizeLine_eq]; lia) ?_
      intro h16 F16 N16
      rw [List.push_toArray] at N16
      (try dsimp only)
      k_steps
      exact hTB _ _ (TurnEnd.mk (by k_asm) N16 (Off.same (I := I) (off_ins (r := (ta, { cls := .type "tuple", data := .seq #[.str (zt (n % 576)) tt, v] })) (a := [_, _]) off (Ne.symm (Nat.ne_of_lt (l14 (I, oI) (.tail _ (.tail _ (.head _))))))) (by rfl)) ⟨rfl, rfl, rfl, _, _, _, _, hT.snoc (Nat.mod_lt _ (by decide)) hmv, by rw [List.length_append, hzl]; rfl, all_cons (Nat.ne_of_gt b2) htd, rfl⟩)
    · rintro j l hj ⟨vs, hvs⟩ v I3 oI3 C3 oC3 D3 m3 h13 tk13 E3 hPv hN hm F13 N13 off3 ne
      obtain ⟨tv, hv⟩ := iaAt hpk j (by have := hpk.length; rw [Array.length_toList] at this; lia)
      rw [Array.getElem?_toList, hPv] at hv
      obtain rfl := Option.some.inj hv
      k_steps
      exact TurnC.mk (by k_asm) (by k_asm) ⟨_, iaSnoc hvs _ _⟩
  · intro m led h tk hJ0 F N
    refine shut fun X hX => ?_
    obtain ⟨j1, j2, j3, kv, zs, tups, k, hT, hzl, htd, rfl⟩ := hJ0
    refine hX ?_
    clear hX X
    have K0 := F.known0 (n := "told") (j3)
    clear F 
    k_steps
    exact hret td kv zs tups _ _ k hT hzl htd (by k_asm) (cb_drop (by k_asm) (fun p hp => by rcases List.mem_cons.mp hp with h | hp; exact h ▸ .head _; exact .tail _ (.tail _ hp)))
end
end Mine
end
section
open PySem PySem.W PyProof.Rows PySem.Calls PyProof.Rows.LCg
set_option maxRecDepth 100000
namespace Mine
section
variable {prog : Program} {w : World} {A : Around} {E : Value → Shared → Prop} {s : Shared} {I l : Addr} {oI : Obj} {led : List (Addr × Obj)} {i : Nat} {vs : Array Value}
/-- where a turn ends whose base may have turned -/
def TurnG (L I : Addr) (oI : Obj) (s : Shared) (J : Heap → (Str → Option Value) → List (Addr × Obj) → Prop) (s₃ : Shared) : Prop :=
  ∃ g h tk m led, s₃ = { s with heap := h, toks := tk } ∧ Fr g L h m ∧ News g L h ((I, oI) :: led) ∧ Off I led ∧ J g m led
theorem TurnG.mk {L I : Addr} {oI : Obj} {s : Shared} {J : Heap → (Str → Option Value) → List (Addr × Obj) → Prop} {g h : Heap} {tk : Tok} {m : Str → Option Value} {led : List (Addr × Obj)} (F : Fr g L h m) (N : News g L h ((I, oI) :: led)) (off : Off I led) (hJ : J g m led) :
    TurnG L I oI s J { s with heap := h, toks := tk } := ⟨g, h, tk, m, led, rfl, F, N, off, hJ⟩
def StartG (L l : Addr) (s : Shared) (J : Heap → (Str → Option Value) → List (Addr × Obj) → Prop) (xv : Value) (s₁ : Shared) : Prop :=
  ∃ g h tk m led, xv = .ref l ∧ s₁ = { s with heap := h, toks := tk } ∧ Fr g L h m ∧ News g L h led ∧ J g m led
theorem StartG.mk {L l : Addr} {s : Shared} {J : Heap → (Str → Option Value) → List (Addr × Obj) → Prop} {g h : Heap} {tk : Tok} {m : Str → Option Value} {led : List (Addr × Obj)} (F : Fr g L h m) (N : News g L h led) (hJ : J g m led) :
    StartG L l s J (.ref l) { s with heap := h, toks := tk } := ⟨g, h, tk, m, led, rfl, rfl, F, N, hJ⟩
theorem for_listG {env : Env} {x : Str} {px pos : Pos} {iter : Expr} {body : List Stmt} {Q : Flow → Shared → Prop} {l : Addr} {vs : Array Value} (n : Nat) (hn : vs.size = n) (J : Nat → Heap → (Str → Option Value) → List (Addr × Obj) → Prop) (hh : A.handled = none)
    (hl : ∀ i g m led h, J i g m led → Fr g env.locals h m → News g env.locals h led → h.IsList l vs)
    (start : wpAny (model prog w) A (eval iter env) (StartG env.locals l s (J 0)) E s)
    (turn : ∀ i I oI (TB : Flow → Shared → Prop), (∀ f s₃, LoopB (TurnG env.locals I oI s (J (i + 1))) Q f s₃ → TB f s₃) → ∀ g m led h tk v, i < n → vs[i]? = some v → J i g m led → Off I led → Fr g env.locals h (fun y => if y = x then some v else m y) → News g env.locals h ((I, oI) :: led) →
      wpAny (model prog w) A (execs body env) TB E { s with heap := h, toks := tk })
    (fin : ∀ g m led h tk, J n g m led → Fr g env.locals h m → News g env.locals h led → Q .next { s with heap := h, toks := tk })
    (hx : env.kindOf x = some .local) (hp : (env.scope.kind == .class || (env.scope.kind == .module && env.locals != env.globals)) = false)
    (hs : ∀ x, foldedSetIterable iter env x = pure x := by intro _; rfl)
    (hE : PassesOwn (model prog w) A env E := by passes_own) :
    wpAny (model prog w) A (exec (.For (.Name x px) iter body [] pos) env) Q E s := by
  refine for_own n (fun i I s' => ∃ oI g h tk m led, s' = { s with heap := h, toks := tk } ∧ IsLI oI l i ∧ Fr g env.locals h m ∧ News g env.locals h ((I, oI) :: led) ∧ Off I led ∧ J i g m led) ?_ ?_ ?_ hs hE
  · refine wpAny_mono start (fun xv s₁ z => ?_) fun _ _ z => z
    refine shut fun X hX => ?_
    obtain ⟨g, h, tk, m, led, rfl, rfl, F, N, hJ⟩ := z
    refine hX ?_
    clear hX X
    exact iter_list F N (hl _ _ _ _ _ hJ F N) fun I oI h' hI F' N' lt _ => ⟨I, rfl, oI, g, h', tk, m, led, rfl, hI, F', N', fun p hp => Nat.ne_of_lt (lt p hp), hJ⟩
  · intro i I _ hi hJ0
    refine shut fun X hX => ?_
    obtain ⟨oI, g, h, tk, m, led, rfl, hI, F, N, off, hJ⟩ := hJ0
    refine hX ?_
    clear hX X
    have hv : vs[i]? = some vs[i] := by simp [hn, hi]
    refine next_list F N hI (hl _ _ _ _ _ hJ F fun p hp => N p (.tail _ hp)) hv off fun oI' h' hI' F' N' => ⟨_, rfl, ?_⟩
    refine wpAny_storeName_local hx F'.ns (fun h₂ hn₂ hs₂ => ?_) hp
    refine wpAny_mono (turn i I oI' _ (fun _ _ h => h) g m led h₂ _ _ hi hv hJ off (F'.set hn₂ hs₂) (N'.set hs₂)) (fun f s₃ h₃ => ?_) fun _ _ e => e
    have go : TurnG env.locals I oI' s (J (i + 1)) s₃ → ∃ oI g h tk m led, s₃ = { s with heap := h, toks := tk } ∧ IsLI oI l (i + 1) ∧ Fr g env.locals h m ∧ News g env.locals h ((I, oI) :: led) ∧ Off I led ∧ J (i + 1) g m led := by
      intro hJ0
      refine shut fun X hX => ?_
      obtain ⟨g, h, tk, m, led, rfl, F, N, off, hJ⟩ := hJ0
      refine hX ?_
      clear hX X
      exact ⟨oI', g, h, tk, m, led, rfl, hI', F, N, off, hJ⟩
    cases f with
    | next => exact go h₃
    | cont => exact go h₃
    | brk => exact h₃
    | ret v => exact h₃
  · intro I _ hJ0
    refine shut fun X hX => ?_
    obtain ⟨oI, g, h, tk, m, led, rfl, hI, F, N, off, hJ⟩ := hJ0
    refine hX ?_
    clear hX X
    exact end_list hh F N hI (hl _ _ _ _ _ hJ F fun p hp => N p (.tail _ hp)) (by simp [hn]) off fun h' F' N' => ⟨rfl, fin g m led h' tk hJ F' N'⟩
end
end Mine
end
section
open PySem PySem.W PyProof.Rows PySem.Calls PySem.Builtin.Re PyProof.Rows.LCg
set_option maxRecDepth 100000
namespace Mine
section
variable {w : World} {p : Program} {loose : List Str} {mean : ExcName → Option Value} {mg mb : Str → Option Value}
  {dp un : Nat} {gd : Option (List Code)} {cn : Str} {cs : Scope} {a : Addr} {ccd : Value} {cl : List (Str × Addr)} {outer : List Env} {A₀ : Around} {base h₀ : Heap} {L : Addr} {m : Str → Option Value} {s : Shared} {Q E : Value → Shared → Prop} {news : List (Addr × Obj)}
local macro_rules | `(tactic| walk_at "exec For Name Call cons nil") => `(tactic| (k_here; refine hold ?_))
local macro_rules | `(tactic| walk_at "exec For Name Name cons nil") => `(tactic| (k_here; refine hold ?_))
local macro_rules | `(tactic| walk_at "call type:range") => `(tactic| (k_here; (first | refine range1_rows (by k_asm) (by k_asm) ?_ | refine range2_rows (by k_asm) (by k_asm) ?_); intro h' tk' t₁ u₁ v₁ hR F' N' K'; (try dsimp only); (try k_fold)))
local macro_rules | `(tactic| walk_at "call builtin:len") => `(tactic| (k_here; (refine len_list (News.isList (by k_asm) (by first | exact .head _ | exact .tail _ (.head _) | exact .tail _ (.tail _ (.head _)) | exact .tail _ (.tail _ (.tail _ (.head _))) | exact .tail _ (.tail _ (.tail _ (.tail _ (.head _)))) | exact .tail _ (.tail _ (.tail _ (.tail _ (.tail _ (.head _))))) | exact .tail _ (.tail _ (.tail _ (.tail _ (.tail _ (.tail _ (.head _)))))) | exact .tail _ (.tail _ (.tail _ (.tail _ (.tail _ (.tail _ (.tail _ (.head _))))))))) (by simp only [List.size_toArray]; lia) ?_); (try simp only [List.size_toArray]); (try dsimp only); (try k_fold)))
local macro_rules | `(tactic| walk_at "subscriptTail") => `(tactic| (k_here; (refine item_list (News.isList (by k_asm) (by first | exact .head _ | exact .tail _ (.head _) | exact .tail _ (.tail _ (.head _)) | exact .tail _ (.tail _ (.tail _ (.head _))) | exact .tail _ (.tail _ (.tail _ (.tail _ (.head _)))) | exact .tail _ (.tail _ (.tail _ (.tail _ (.tail _ (.head _))))) | exact .tail _ (.tail _ (.tail _ (.tail _ (.tail _ (.tail _ (.head _)))))) | exact .tail _ (.tail _ (.tail _ (.tail _ (.tail _ (.tail _ (.tail _ (.head _))))))))) (by lia) (by lia) (by first | assumption | exact menu0 (by lia) | exact menu1 (by lia) | exact menu2 (by lia) | exact menu3 (by lia)) ?_); (try dsimp only); (try k_fold)))
local macro_rules | `(tactic| k_all) => `(tactic| first | with_reducible assumption | exact ltne (by assumption) | exact allne (by assumption))
local macro_rules | `(tactic| walk_at "call builtin:list.append") => `(tactic| (k_here; refine hold ?_))
/-- the refused as told: each a tuple of 554 and its text -/
def RTups (zs : List Nat) (kv : List Value) (tups : List (Addr × Obj)) : Prop :=
  kv.length = zs.length ∧ ∀ j < zs.length, ∃ ta z t u, zs[j]? = some z ∧ z < 576 ∧ kv[j]? = some (.ref ta) ∧ (ta, ({ cls := .type "tuple", data := .seq #[.int 554 u, .str (zt z) t] } : Obj)) ∈ tups
theorem RTups.snoc {zs : List Nat} {kv : List Value} {tups : List (Addr × Obj)} (h : RTups zs kv tups) {ta : Addr} {z : Nat} {t u : Tok} (hz : z < 576) :
    RTups (zs ++ [z]) (kv ++ [.ref ta]) ((ta, { cls := .type "tuple", data := .seq #[.int 554 u, .str (zt z) t] }) :: tups) := by
  refine ⟨by rw [List.length_append, List.length_append, h.1]; rfl, fun j hj => ?_⟩
  rw [List.length_append, List.length_singleton] at hj
  by_cases e : j = zs.length
  · subst e
    exact ⟨ta, z, t, u, by rw [List.getElem?_append_right (Nat.le_refl _), Nat.sub_self]; rfl, hz, by rw [List.getElem?_append_right (by rw [h.1]; exact Nat.le_refl _), h.1, Nat.sub_self]; rfl, .head _⟩
  · obtain ⟨ta', z', t', v', h1, h2, h3, h4⟩ := h.2 j (by lia)
    exact ⟨ta', z', t', v', by rw [List.getElem?_append_left (by lia)]; exact h1, h2, by rw [List.getElem?_append_left (by rw [h.1]; lia)]; exact h3, .tail _ h4⟩
theorem RTups.more {zs : List Nat} {kv : List Value} {tups : List (Addr × Obj)} (h : RTups zs kv tups) (p : Addr × Obj) : RTups zs kv (p :: tups) :=
  ⟨h.1, fun j hj => by obtain ⟨ta', z', t', v', h1, h2, h3, h4⟩ := h.2 j hj; exact ⟨ta', z', t', v', h1, h2, h3, .tail _ h4⟩⟩
theorem Tups.more {zs : List Nat} {kv : List Value} {tups : List (Addr × Obj)} (h : Tups zs kv tups) (p : Addr × Obj) : Tups zs kv (p :: tups) :=
  ⟨h.1, fun j hj => by obtain ⟨ta', z', t', v', h1, h2, h3, h4, h5⟩ := h.2 j hj; exact ⟨ta', z', t', v', h1, h2, h3, .tail _ h4, h5⟩⟩
theorem filt_yes {f : Nat → Bool} {zs : List Nat} {i z : Nat} (hz : zs[i]? = some z) (hf : f z = true) : (zs.take (i + 1)).filter f = (zs.take i).filter f ++ [z] := by
  rw [take_succ hz, List.filter_append, List.filter_cons, if_pos hf]; rfl
theorem filt_no {f : Nat → Bool} {zs : List Nat} {i z : Nat} (hz : zs[i]? = some z) (hf : f z = false) : (zs.take (i + 1)).filter f = (zs.take i).filter f := by
  rw [take_succ hz, List.filter_append, List.filter_cons, if_neg (by rw [hf]; decide)]; exact List.append_nil _
set_option maxHeartbeats 8000000 in
theorem taken_call (B : Below A₀ base [] h₀) (F : Fr h₀ L s.heap m) (X : (top.heap_1 w.params).In h₀) (T : Top p loose mean mg mb h₀) (hk : cs.kind = .function) (hdp : dp + 20 < recursionLimit) (hun : un + 200 < cLine)
  {wa : Addr} {xs : List Value} {zs : List Nat} {nw : Nat} (XB : (top.heap_1 w.params).In base) (TB : Top p loose mean mg mb base) (hw : Ws xs zs) (hn : zs.length ≤ 63) (N : News h₀ L s.heap ((wa, listOf xs.toArray nw) :: news)) (hret : ∀ tp ta ra kt kr tups h' tk' k1 k2, Tups (zs.filter (fun z => (zm z).isSome)) kt tups → RTups (zs.filter (fun z => (zm z).isNone)) kr tups → Fr h₀ L h' m → News h₀ L h' ((tp, { cls := .type "tuple", data := .seq #[.ref ta, .ref ra] }) :: (ra, listOf kr.toArray k2) :: (ta, listOf kt.toArray k1) :: (wa, listOf xs.toArray nw) :: (tups ++ news)) → Q (.ref tp) { s with heap := h', toks := tk' }) :
  wpAny (model PySem.Challenge.pw_xe0013_01 w) (ktrTop dp un gd cn cs L a ccd [] []) (call (.ref 175) [.ref wa]) Q E s := by
  refine wpAny_call ?_
  k_dflt (refine' code_defS0 ?k1 ?k2 ?k3 ?k4 ?k5 ?kA ?k6 ?k7 ?k8 ?k9 ?kB ?_ ?cK ?c2 ?c3 ?c4 ?c5; (case kA => exact rfl); (case k2 => k_asm); (case k1 => k_asm); (case k3 => k_asm); (case k4 => k_asm); (case k5 => k_asm); (case k6 => k_is); (case k7 => k_is); (case k8 => ktr_room); (case k9 => exact BindsTo.of_eq rfl); (case kB => exact locs rfl); (case cK => assumption); (case c2 => exact rfl); (case c3 => exact rfl); (case c4 => exact rfl); (case c5 => decide); k_whole; intro g' L' h' FG' F' N' B' X' T' D'; (try dsimp only); (try k_fold))
  have hlen := hw.len
  k_steps
  show wpAny _ _ _ _ _ _
  rename_i ta h0 l1 h1 ra h2 l2 h3 F2 N2
  clear h0 h1 h2
  have b0 : @LT.lt Nat _ ta ra := l2.1
  refine new_toks fun tk0 => ?_
  dsimp only
  refine for_listG (l := wa) (vs := xs.toArray) zs.length (by rw [List.size_toArray, hlen]) (fun i g m led => m "taken" = some (.ref ta) ∧ m "refused" = some (.ref ra) ∧
    (∃ kt kr tups k1 k2, Tups ((zs.take i).filter (fun z => (zm z).isSome)) kt tups ∧ RTups ((zs.take i).filter (fun z => (zm z).isNone)) kr tups ∧ (∀ p ∈ tups, p.1 ≠ ta) ∧ (∀ p ∈ tups, p.1 ≠ ra) ∧ led = (ra, listOf kr.toArray k2) :: (ta, listOf kt.toArray k1) :: (wa, listOf xs.toArray nw) :: (tups ++ news)) ∧
    KtsTurn ([envOf cn cs L a ccd].filterMap (·.frame)) g' g ∧ Below (ktrTop dp un gd cn cs L a ccd [] []) base [envOf cn cs L a ccd] g ∧ (top.heap_1 w.params).In g ∧ Top p loose mean mg mb g ∧ KtsDicts ([envOf cn cs L a ccd].filterMap (·.frame)) g) rfl ?_ ?_ ?_ ?_ rfl rfl
  · rintro i g m led h ⟨_, _, ⟨kt, kr, tups, k1, k2, _, _, _, _, rfl⟩, _⟩ F N
    exact N.isList (.tail _ (.tail _ (.head _)))
  · k_steps
    exact StartG.mk (by k_asm) (by k_asm) ⟨rfl, rfl, ⟨[], [], [], _, _, ⟨rfl, fun j hj => absurd hj (Nat.not_lt_zero j)⟩, ⟨rfl, fun j hj => absurd hj (Nat.not_lt_zero j)⟩, fun _ h => (nomatch h), fun _ h => (nomatch h), rfl⟩, KtsTurn.refl, B', X', T', D'⟩
  · rintro i I oI TBq hTB g m led h tk v hi hv ⟨j1, j2, ⟨kt, kr, tups, k1, k2, hT, hR, ht1, ht2, rfl⟩, KT, KB, KX, KTop, KD⟩ off F N
    refine shut fun X hX => ?_
    obtain ⟨z, tz, hz1, hz2, hz3⟩ := hw.at i hi
    refine hX ?_
    clear hX X
    rw [List.getElem?_toArray, hz3] at hv
    obtain rfl := Option.some.inj hv
    have K0 := F.known0 (n := "refused") ((if_neg (by decide)).trans (j2))
    have K1 := K0.known0 (n := "taken") ((if_neg (by decide)).trans ((if_neg (by decide)).trans (j1)))
    clear F K0
    have b4 := hT.1
    have b5 := hR.1
    have b6 : ((zs.take i).filter (fun z => (zm z).isSome)).length ≤ 63 := Nat.le_trans (List.length_filter_le _ _) (by rw [List.length_take]; lia)
    have b7 : ((zs.take i).filter (fun z => (zm z).isNone)).length ≤ 63 := Nat.le_trans (List.length_filter_le _ _) (by rw [List.length_take]; lia)
    have b8 : @Ne Nat I ta := Ne.symm (off (ta, _) (.tail _ (.head _)))
    have b9 : @Ne Nat I ra := Ne.symm (off (ra, _) (.head _))
    k_steps
    show wpAny _ _ _ _ _ _
    cases hm : zm z with
    | some mi =>
      refine moment_some (by k_asm) (by k_asm) (by k_asm) (by k_asm) (by k_asm) rfl (by show dp + 1 + 10 < recursionLimit; lia) (by show un + 3 + 100 < cLine; lia) hz2 hm ?_
      intro tm h14 tk14 F14 N14
      (try dsimp only)
      k_steps
      show wpAny _ _ _ _ _ _
      rename_i D1 h8 F8 N8 l9
      have d1 : @LT.lt Nat _ ta D1 := l9.2.2.1
      have d2 : @LT.lt Nat _ I D1 := l9.1
      have d3 : @LT.lt Nat _ ra D1 := l9.2.1
      have N9 := cb_drop (news := (I, oI) :: (ra, listOf kr.toArray k2) :: (ta, listOf kt.toArray k1) :: (wa, listOf xs.toArray nw) :: ((D1, ({ cls := .type "tuple", data := .seq #[.str (zt z) tz, .int mi tm] } : Obj)) :: tups ++ news)) N8 (by repeat' first | exact sub_rfl | refine sub_cons (by repeat first | exact .head _ | refine .tail _ ?_ | refine List.mem_append_right _ ?_) ?_ | refine sub_skip ?_ | exact sub_inl | refine sub_app ?_ ?_ | refine sub_inr ?_)
      have c3 : ∀ q ∈ (wa, listOf xs.toArray nw) :: ((D1, ({ cls := .type "tuple", data := .seq #[.str (zt z) tz, .int mi tm] } : Obj)) :: tups ++ news), q.1 ≠ ta := all_cons (Nat.ne_of_lt l1.1) (all_cons (Nat.ne_of_gt d1) (all_app ht1 (allne l1.2)))
      have c4 : @Ne Nat ra ta := Nat.ne_of_gt b0
      refine append_K (by k_asm) N9 (by k_upd) (hsz := by rw [List.size_toArray, sizeLine_eq]; lia) ?_
      intro h16 F16 N16
      rw [List.push_toArray] at N16
      (try dsimp only)
      k_steps
      have g1 := filt_yes (f := fun z => (zm z).isSome) hz1 (by show (zm z).isSome = true; rw [hm]; rfl)
      have g2 := filt_no (f := fun z => (zm z).isNone) hz1 (by show (zm z).isNone = false; rw [hm]; rfl)
      refine hTB _ _ (TurnG.mk (by k_asm) N16 (Off.same (I := I) (off_ins (r := (D1, { cls := .type "tuple", data := .seq #[.str (zt z) tz, .int mi tm] })) (a := [_, _, _]) off (Ne.symm (Nat.ne_of_lt d2))) (by rfl)) ⟨rfl, rfl, ⟨_, _, _, _, _, g1 ▸ hT.snoc hz2 (by rw [hm]; rfl), g2 ▸ hR.more _, all_cons (Nat.ne_of_gt d1) ht1, all_cons (Nat.ne_of_gt d3) ht2, rfl⟩, KT, KB, KX, KTop, KD⟩)
    | none =>
      refine moment_none (by k_asm) (by k_asm) (by k_asm) (by k_asm) (by k_asm) rfl (by show dp + 1 + 10 < recursionLimit; lia) (by show un + 3 + 100 < cLine; lia) hz2 hm ?_
      intro G e t dx e1 e2 t1 h14 tk14 F14 R14 U14
      (try dsimp only)
      k_steps
      refine caught_D R14 F14 KB U14 XB TB KD KT ?_
      clear KB KX KTop KD KT R14 U14 F14
      intro h15 g15 oe ws tk15 KT F15 N15 q1 q2 q3 KB KX KTop KD
      (try dsimp only)
      refine shut fun X hX => ?_
      obtain ⟨oc, od0, oda, osl⟩ := oe
      refine hX ?_
      clear hX X
      dsimp only at q1 q2 q3
      subst q1 q2 q3
      have IA : InstAt h15 e ⟨.ref 133, some dx, .fields ws, osl⟩ 133 (some (dictOf (excEnts w.params (zt z) e1 e2 t1 tz) 2)) := ⟨(N15 _ (.head _)).1, rfl, rfl, (N15 _ (.tail _ (.head _))).1⟩
      have f1 : findObj (top.heap_1 w.params) 133 (some (dictOf (excEnts w.params (zt z) e1 e2 t1 tz) 2)) "smtp_code" = some (.value (.int 554 t1)) := findObj_own (by k_is) (by k_is) (by k_is) (by rw [lookIn_dict]; k_get)
      have f2 : findObj (top.heap_1 w.params) 133 (some (dictOf (excEnts w.params (zt z) e1 e2 t1 tz) 2)) "smtp_error" = some (.value (.str (zt z) tz)) := findObj_own (by k_is) (by k_is) (by k_is) (by rw [lookIn_dict]; k_get)
      k_steps
      show wpAny _ _ _ _ _ _
      refine exc_get (inOf F15 KX) IA f1 rfl ?_
      (try dsimp only)
      k_steps
      show wpAny _ _ _ _ _ _
      refine exc_get (inOf F15 KX) IA f2 rfl ?_
      (try dsimp only)
      replace N15 := cb_drop (news := (I, oI) :: (ra, listOf kr.toArray k2) :: (ta, listOf kt.toArray k1) :: (wa, listOf xs.toArray nw) :: (tups ++ news)) N15 (fun p hp => .tail _ (.tail _ hp))
      clear f1 f2 IA
      k_steps
      show wpAny _ _ _ _ _ _
      rename_i D2 h8 F8 N8 l9
      have d1 : @LT.lt Nat _ ta D2 := l9.2.2.1
      have d2 : @LT.lt Nat _ I D2 := l9.1
      have d3 : @LT.lt Nat _ ra D2 := l9.2.1
      have N9 := cb_drop (news := (I, oI) :: (ra, listOf kr.toArray k2) :: (ta, listOf kt.toArray k1) :: (wa, listOf xs.toArray nw) :: ((D2, ({ cls := .type "tuple", data := .seq #[.int 554 t1, .str (zt z) tz] } : Obj)) :: tups ++ news)) N8 (by repeat' first | exact sub_rfl | refine sub_cons (by repeat first | exact .head _ | refine .tail _ ?_ | refine List.mem_append_right _ ?_) ?_ | refine sub_skip ?_ | exact sub_inl | refine sub_app ?_ ?_ | refine sub_inr ?_)
      have c3 : ∀ q ∈ (ta, listOf kt.toArray k1) :: (wa, listOf xs.toArray nw) :: ((D2, ({ cls := .type "tuple", data := .seq #[.int 554 t1, .str (zt z) tz] } : Obj)) :: tups ++ news), q.1 ≠ ra := all_cons (Nat.ne_of_lt b0) (all_cons (Nat.ne_of_lt l2.2.1) (all_cons (Nat.ne_of_gt d3) (all_app ht2 (allne l2.2.2))))
      refine append_K (by k_asm) N9 (by k_upd) (hsz := by rw [List.size_toArray, sizeLine_eq]; lia) ?_
      intro h16 F16 N16
      rw [List.push_toArray] at N16
      (try dsimp only)
      k_steps
      have g1 := filt_no (f := fun z => (zm z).isSome) hz1 (by show (zm z).isSome = false; rw [hm]; rfl)
      have g2 := filt_yes (f := fun z => (zm z).isNone) hz1 (by show (zm z).isNone = true; rw [hm]; rfl)
      refine hTB _ _ (TurnG.mk (by k_asm) (by k_asm) (Off.same (I := I) (off_ins (r := (D2, { cls := .type "tuple", data := .seq #[.int 554 t1, .str (zt z) tz] })) (a := [_, _, _]) off (Ne.symm (Nat.ne_of_lt d2))) (by rfl)) ⟨rfl, rfl, ⟨_, _, _, _, _, g1 ▸ hT.more _, g2 ▸ hR.snoc hz2, all_cons (Nat.ne_of_gt d1) ht1, all_cons (Nat.ne_of_gt d3) ht2, rfl⟩, KT, KB, KX, KTop, KD⟩)
  · rintro g m led h tk ⟨j1, j2, ⟨kt, kr, tups, k1, k2, hT, hR, ht1, ht2, rfl⟩, KT, KB, KX, KTop, KD⟩ F N
    have K0 := F.known0 (n := "refused") (j2)
    have K1 := K0.known0 (n := "taken") ((if_neg (by decide)).trans (j1))
    clear F K0
    rw [List.take_length] at hT hR
    k_steps
    exact hret _ _ _ _ _ _ _ _ _ _ hT hR (by k_asm) (by k_asm)
end
end Mine
end
section
open PySem PySem.W PyProof.Rows PySem.Calls PyProof.Rows.LCg
set_option maxRecDepth 100000
namespace Mine
/-- where a turn of a comprehension over pairs ends: the ledger may have grown -/
def TurnP (h₀ : Heap) (L : Addr) (m : Str → Option Value) (s₁ : Shared) (I : Addr) (oI : Obj) (C : Addr) (oC : Obj) (D : Addr) (ys : List Value) (R : Value → List (Addr × Obj) → Prop) (y : Value) (s₂ : Shared) : Prop :=
  ∃ h' tk nw, s₂ = { s₁ with heap := h', toks := tk } ∧ Fr h₀ L h' m ∧ News h₀ L h' ((I, oI) :: (C, oC) :: (D, LCg.lst ys) :: nw) ∧ Off3 I C D nw ∧ R y nw
theorem TurnP.mk {h₀ : Heap} {L : Addr} {m : Str → Option Value} {s₁ : Shared} {I : Addr} {oI : Obj} {C : Addr} {oC : Obj} {D : Addr} {ys : List Value} {R : Value → List (Addr × Obj) → Prop} {y : Value} {h' : Heap} {tk : Tok} {nw : List (Addr × Obj)}
    (F : Fr h₀ L h' m) (N : News h₀ L h' ((I, oI) :: (C, oC) :: (D, LCg.lst ys) :: nw)) (o : Off3 I C D nw) (r : R y nw) : TurnP h₀ L m s₁ I oI C oC D ys R y { s₁ with heap := h', toks := tk } := ⟨h', tk, nw, rfl, F, N, o, r⟩
section
variable {prog : Program} {w : World} {A : Around} {E : Value → Shared → Prop} {s : Shared} {h₀ : Heap} {L : Addr} {m : Str → Option Value} {env : Env}
theorem compP_inv {elt : Expr} {x x₂ : Str} {scope : Scope} {cl : List (Str × Addr)} {S : List (Addr × Obj) → Prop} {P : Nat → Value → Prop} {Fin : List Value → List (Addr × Obj) → Prop} (n : Nat) (R : Nat → List Value → List (Addr × Obj) → Prop) (hS : ∀ i ys nw, R i ys nw → S nw) (fin : ∀ ys nw, R n ys nw → Fin ys nw)
    (step : ∀ i ys nw v, i < n → R i ys nw → P i v → ∃ (t : Addr) (ot : Obj) (v₁ v₂ : Value) (nt : Nat), v = .ref t ∧ (t, ot) ∈ nw ∧ ot.cls = .type "tuple" ∧ ot.data = .seq #[v₁, v₂] nt ∧
      ∀ I oI C oC D m₂ h tk (E' : Value → Shared → Prop), NsObj oC m₂ → m₂ x = some v₁ → m₂ x₂ = some v₂ → Fr h₀ L h m → News h₀ L h ((I, oI) :: (C, oC) :: (D, LCg.lst ys) :: nw) → Off3 I C D nw → ((@Ne Nat I C) ∧ (@Ne Nat I D) ∧ (@Ne Nat C D)) →
      wpAny (model prog w) A (eval elt (compEnvC scope cl C env)) (TurnP h₀ L m { s with heap := h, toks := tk } I oI C oC D ys (fun y nw' => R (i + 1) (ys ++ [y]) nw')) E' { s with heap := h, toks := tk }) :
    ∀ k i ys nw, i + k = n → R i ys nw → LCp.CompRestP prog w A h₀ L m env elt x x₂ scope cl s S P Fin k i ys nw
  | 0, i, ys, nw, e, r => LCp.CompRestP.zero (fin ys nw (by rw [← e]; exact r))
  | k + 1, i, ys, nw, e, r => by
    refine LCp.CompRestP.succ fun v hP => ?_
    refine shut fun X hX => ?_
    obtain ⟨t, ot, v₁, v₂, nt, e1, e2, e3, e4, go⟩ := step i ys nw v (by lia) r hP
    refine hX ?_
    clear hX X
    refine ⟨t, ot, v₁, v₂, nt, e1, e2, e3, e4, fun I oI C oC D m₂ h tk E' hN hm hm₂ F N off ne => ?_⟩
    refine wpAny_mono (go I oI C oC D m₂ h tk E' hN hm hm₂ F N off ne) (fun y s₂ q => ?_) fun _ _ e => e
    refine shut fun X hX => ?_
    obtain ⟨h', tk', nw', rfl, F', N', off', r'⟩ := q
    refine hX ?_
    clear hX X
    exact ⟨h', tk', nw', rfl, F', N', off', hS _ _ _ r', compP_inv n R hS fin step k (i + 1) (ys ++ [y]) nw' (by lia) r'⟩
def SrcPT (prog : Program) (w : World) (A : Around) (h₀ : Heap) (L : Addr) (m : Str → Option Value) (env : Env) (ct elt : Expr) (x x₂ : Str) (scope : Scope) (cl : List (Str × Addr)) (Q : Value → Shared → Prop) (xv : Value) (s₁ : Shared) : Prop :=
  ∃ (ax : Addr) (its : Array Value) (news : List (Addr × Obj)) (R : Nat → List Value → List (Addr × Obj) → Prop), xv = .ref ax ∧ A.handled = none ∧ Fr h₀ L s₁.heap m ∧ News h₀ L s₁.heap news ∧ its.size ≤ sizeLine ∧
      R 0 [] news ∧ (∀ i ys nw, R i ys nw → SrcAt h₀ ax its nw) ∧
      (∀ g i ys nw v, i < its.size → R i ys nw → its[i]? = some v → ∃ (t : Addr) (ot : Obj) (v₁ v₂ : Value) (nt : Nat), v = .ref t ∧ (t, ot) ∈ nw ∧ ot.cls = .type "tuple" ∧ ot.data = .seq #[v₁, v₂] nt ∧
        ∀ I oI C oC D m₂ h tk (E' : Value → Shared → Prop), NsObj oC m₂ → m₂ x = some v₁ → m₂ x₂ = some v₂ → Fr h₀ L h m → News h₀ L h ((I, oI) :: (C, oC) :: (D, LCg.lst ys) :: nw) → Off3 I C D nw → ((@Ne Nat I C) ∧ (@Ne Nat I D) ∧ (@Ne Nat C D)) →
        wpAny (model prog w) A (isTrue ct (compEnvC scope cl C env) (eval ct (compEnvC scope cl C env))) (fun ok s' => if ok = true then
          wpAny (model prog w) A (eval elt (compEnvC scope cl C env)) (TurnP h₀ L m { s₁ with heap := h, toks := tk } I oI C oC D ys (fun y nw' => R (i + 1) (ys ++ [y]) nw')) E' s'
          else TurnP h₀ L m { s₁ with heap := h, toks := tk } I oI C oC D ys (fun _ nw' => R (i + 1) ys nw') Value.none s') E' { { s₁ with heap := g } with heap := h, toks := tk }) ∧
      (∀ ys nw, R its.size ys nw → FinE h₀ L m s₁ Q ys nw)
theorem SrcPT.ledger {ct elt : Expr} {x x₂ : Str} {scope : Scope} {cl : List (Str × Addr)} {Q : Value → Shared → Prop} {ax : Addr} {its : Array Value} {k : Nat} {news : List (Addr × Obj)} {s₁ : Shared} (n : Nat) (hn : its.size = n) (R : Nat → List Value → List (Addr × Obj) → Prop)
    (hh : A.handled = none) (F : Fr h₀ L s₁.heap m) (N : News h₀ L s₁.heap news) (hsz : n ≤ sizeLine) (R0 : R 0 [] news) (hS : ∀ i ys nw, R i ys nw → (ax, listOf its k) ∈ nw)
    (step : ∀ g i ys nw v, i < n → R i ys nw → its[i]? = some v → ∃ (t : Addr) (ot : Obj) (v₁ v₂ : Value) (nt : Nat), v = .ref t ∧ (t, ot) ∈ nw ∧ ot.cls = .type "tuple" ∧ ot.data = .seq #[v₁, v₂] nt ∧
        ∀ I oI C oC D m₂ h tk (E' : Value → Shared → Prop), NsObj oC m₂ → m₂ x = some v₁ → m₂ x₂ = some v₂ → Fr h₀ L h m → News h₀ L h ((I, oI) :: (C, oC) :: (D, LCg.lst ys) :: nw) → Off3 I C D nw → ((@Ne Nat I C) ∧ (@Ne Nat I D) ∧ (@Ne Nat C D)) →
        wpAny (model prog w) A (isTrue ct (compEnvC scope cl C env) (eval ct (compEnvC scope cl C env))) (fun ok s' => if ok = true then
          wpAny (model prog w) A (eval elt (compEnvC scope cl C env)) (TurnP h₀ L m { s₁ with heap := h, toks := tk } I oI C oC D ys (fun y nw' => R (i + 1) (ys ++ [y]) nw')) E' s'
          else TurnP h₀ L m { s₁ with heap := h, toks := tk } I oI C oC D ys (fun _ nw' => R (i + 1) ys nw') Value.none s') E' { { s₁ with heap := g } with heap := h, toks := tk })
    (fin : ∀ ys nw, R n ys nw → FinE h₀ L m s₁ Q ys nw) : SrcPT prog w A h₀ L m env ct elt x x₂ scope cl Q (.ref ax) s₁ :=
  ⟨ax, its, news, R, rfl, hh, F, N, hn ▸ hsz, R0, fun i ys nw r => .inr ⟨_, hS i ys nw r, rfl, _, rfl⟩, hn.symm ▸ step, hn.symm ▸ fin⟩
/-- a comprehension over a list of pairs with one test -/
theorem ListComp_PT {ct elt iter : Expr} {x x₂ : Str} {px px₂ tp : Pos} {tk} {scope : Scope} {cl : List (Str × Addr)} {pos : Pos} {Q : Value → Shared → Prop} (_F₀ : Fr h₀ L s.heap m)
    (hclos : closureFor scope env = pure cl) (hcell : ∀ y ∈ scope.names, y.2 ≠ .cell) (hkind : scope.kind = .function)
    (hnames : ∀ y ∈ scope.names, y.2 = .local → scope.names.lookup y.1 = some .local) (hx : scope.names.lookup x = some .local) (hx₂ : scope.names.lookup x₂ = some .local) (hxx : x ≠ x₂)
    (h : wpAny (model prog w) A (eval iter env) (SrcPT prog w A h₀ L m env ct elt x x₂ scope cl Q) E s)
    (hs : ∀ x, foldedSetIterable iter env x = pure x := by intro _; rfl) :
    wpAny (model prog w) A (eval (.ListComp elt [⟨.Tuple [.Name x px, .Name x₂ px₂] tk tp, iter, [ct], 0⟩] scope pos) env) Q E s := by
  rw [eval_ListComp]
  refine wpAny_comprehension_free (use := none) rfl hs hclos hkind hnames (wpAny_mono h (fun xv s₁ h₁ => ?_) fun _ _ e => e)
  refine shut fun X hX => ?_
  obtain ⟨ax, its, news, R, rfl, hh, F, N, hsz, R0, hSrc, step, fin⟩ := h₁
  refine hX ?_
  clear hX X
  have hl := (hSrc _ _ _ R0).list F.keep N
  have hlt : ax < s₁.heap.objs.size := by obtain ⟨_, e, _⟩ := hl; exact Heap.lt_size e
  refine wpAny_pyIter_list hl ?_
  generalize hI : s₁.heap.objs.size = I
  have up : ∀ b o, s₁.heap.get? b = some o → (s₁.heap.push { cls := .type "list_iterator", data := .fields #[.ref ax, .int 0 0] }).get? b = some o := fun b o e => Heap.get?_push_of_some _ e
  have W := Walks.list (prog := prog) (w := w) hh I ax (hI ▸ Nat.ne_of_lt hlt) its
  have gI : (s₁.heap.push { cls := .type "list_iterator", data := .fields #[.ref ax, .int 0 0] }).get? I = some { cls := .type "list_iterator", data := .fields #[.ref ax, .int 0 0] } := hI ▸ Heap.get?_push_size _ rfl
  have hst : (s₁.heap.push { cls := .type "list_iterator", data := .fields #[.ref ax, .int 0 0] }).IsListIter I ax 0 ∧ (s₁.heap.push { cls := .type "list_iterator", data := .fields #[.ref ax, .int 0 0] }).IsList ax its := ⟨⟨_, gI, rfl, rfl⟩, hl.push _⟩
  have F1 := F.keeps up
  have N1 := N.grown up
  have hIL : L ≠ I := hI ▸ Nat.ne_of_lt F.ns.lt
  have hI₀ : h₀.get? I = none := hI ▸ next_is_new F
  have offI : ∀ p ∈ news, p.1 ≠ I := fun p hp => hI ▸ Nat.ne_of_lt (Heap.lt_size (N p hp).1)
  have hIlt : I < (s₁.heap.push { cls := .type "list_iterator", data := .fields #[.ref ax, .int 0 0] }).objs.size := by rw [Heap.size_push, hI]; exact Nat.lt_succ_self _
  have haxlt : ax < (s₁.heap.push { cls := .type "list_iterator", data := .fields #[.ref ax, .int 0 0] }).objs.size := by rw [Heap.size_push]; exact Nat.lt_succ_of_lt hlt
  generalize s₁.heap.push { cls := .type "list_iterator", data := .fields #[.ref ax, .int 0 0] } = H1 at *
  refine wpAny_newObj_type (wpAny_newFunctionEnv hcell (by intro y hy; simp at hy) (fun h₁ hns₁ hsb₁ => ?_) hkind)
  dsimp only at hns₁ hsb₁ ⊢
  generalize hD : H1.objs.size = D at *
  generalize hH2 : H1.push { cls := .type "list", dict := none, data := .seq ([] : List Value).toArray } = H2 at hns₁ hsb₁ ⊢
  have hC0 : H2.objs.size = D + 1 := by rw [← hH2, Heap.size_push, hD]
  generalize hC : H2.objs.size = C at *
  have old : ∀ b o, H1.get? b = some o → h₁.get? b = some o := fun b o e => hsb₁.extBut b o (by have := Heap.lt_size e; rw [hD] at this; show @Ne Nat b C; exact Nat.ne_of_lt (by rw [hC0]; exact Nat.lt_succ_of_lt this)) (Heap.get?_push_of_some _ (hH2 ▸ Heap.get?_push_of_some _ e))
  have nDC : @Ne Nat D C := by rw [hC0]; exact Nat.ne_of_lt (Nat.lt_succ_self _)
  have nIC : @Ne Nat I C := by rw [hC0]; exact Nat.ne_of_lt (Nat.lt_succ_of_lt hIlt)
  have nID : @Ne Nat I D := Nat.ne_of_lt hIlt
  have hacc : h₁.get? D = some (LCg.lst []) := hsb₁.extBut _ _ nDC (Heap.get?_push_of_some _ (hH2 ▸ hD ▸ Heap.get?_push_size _ rfl))
  have fresh₀ : ∀ a, D ≤ a → h₀.get? a = none := fun a ha => by
    cases e : h₀.get? a with
    | none => rfl
    | some o' => have := Heap.lt_size (F1.keep a o' e); rw [hD] at this; exact absurd this (Nat.not_lt.mpr ha)
  have hD₀ := fresh₀ D (Nat.le_refl _)
  have hC₀ := fresh₀ C (by rw [hC0]; exact Nat.le_succ _)
  have hLlt : L < D := hD ▸ F1.ns.lt
  have hDL : D ≠ L := Ne.symm (Nat.ne_of_lt hLlt)
  have hCL : C ≠ L := Ne.symm (Nat.ne_of_lt (by rw [hC0]; exact Nat.lt_succ_of_lt hLlt))
  have off₀ : Off3 I C D news := Off3.of fun p hp => by
    have : p.1 < D := hD ▸ Heap.lt_size (N1 p hp).1
    exact ⟨offI p hp, Nat.ne_of_lt (by rw [hC0]; exact Nat.lt_succ_of_lt this), Nat.ne_of_lt this⟩
  have fC : C ∉ [I, ax] := by
    intro hm
    rcases List.mem_cons.mp hm with e | hm
    · exact nIC e.symm
    · have e := List.mem_singleton.mp hm
      exact absurd (e ▸ haxlt : C < D) (by rw [hC0]; exact Nat.not_lt.mpr (Nat.le_succ _))
  have fD : D ∉ [I, ax] := by
    intro hm
    rcases List.mem_cons.mp hm with e | hm
    · exact nID e.symm
    · have e := List.mem_singleton.mp hm
      exact absurd (e ▸ haxlt : D < D) (Nat.lt_irrefl _)
  have hst₁ := W.frame _ _ _ hst fun b _ o e => old b o e
  have loop : ∀ s₃ : Shared, s₃ = { s₁ with heap := h₁, toks := s₁.toks + ([] : List (Str × Value)).length } →
      codeAny (model prog w) A (.compLoop (.ListComp elt [⟨.Tuple [.Name x px, .Name x₂ px₂] tk tp, iter, [ct], 0⟩] scope pos) 0 (.ref I) (.ref D) (compEnvC scope cl C env))
        (compPost (model prog w) A E none Q (.ref D) C) s₃ := by
    rintro s₃ rfl
    refine kct_loop
      (fun k s' => ∃ h' tk i ys m' nw, s' = { s₁ with heap := h', toks := tk } ∧ i ≤ its.size ∧ k = its.size + 1 - i ∧ ys.length ≤ i ∧ (h'.IsListIter I ax i ∧ h'.IsList ax its) ∧ Fr h₀ L h' m ∧ h'.Ns C m' ∧ News h₀ L h' ((D, LCg.lst ys) :: nw) ∧
        Off3 I C D nw ∧ R i ys nw) ?_ (its.size + 1)
      ⟨h₁, _, 0, [], _, news, rfl, Nat.zero_le _, rfl, Nat.le_refl _, hst₁, F1.keeps old, hns₁, fun p hp => ?_, off₀, R0⟩
    · intro k s' hJ0
      refine shut fun X hX => ?_
      obtain ⟨h', tk, i, ys, m', nw, rfl, hi, rfl, hyl, hst', F', hn', N', off', R'⟩ := hJ0
      refine hX ?_
      clear hX X
      by_cases hlt : i < its.size
      · refine W.item i _ _ _ hlt hst' fun v h₂ tk₂ hPv hst₂ hk₂ => ?_
        refine shut fun X hX => ?_
        obtain ⟨t, ot, v₁, v₂, nt, rfl, hmt, hct, hdt, go⟩ := step h₂ i ys nw v hlt R' hPv
        refine hX ?_
        clear hX X
        have off3 := off'.mem
        have N₂ : News h₀ L h₂ ((D, LCg.lst ys) :: nw) := news_but N' hk₂ fun p hp => by
          rcases List.mem_cons.mp hp with rfl | hp
          · exact Ne.symm nID
          · exact (off3 p hp).1
        have ht : IsTup h₂ t #[v₁, v₂] := ⟨ot, (N₂ _ (List.mem_cons_of_mem _ hmt)).1, hct, nt, hdt⟩
        refine wpAny_letOwnedTupleGo_listiter hst₂.1 ?_
        refine assign_Tuple_tuple hh ht rfl rfl fun h₅ he => ?_
        have he' : ∀ b o, h₂.get? b = some o → h₅.get? b = some o := fun b o e => he b o (Nat.ne_of_lt (Heap.lt_size e)) e
        refine assignInOrder_cons (wpAny_assign_Name (wpAny_storeName_local (lookup_relabel_local hx) ((hn'.at' fun o e => hk₂ _ o (by simpa using Ne.symm nIC) e).at' fun o e => he' _ o e) (fun h₆ hn₆ hs₆ => ?_) (by simp [compEnvC, relabel, hkind])))
        refine assignInOrder_cons (wpAny_assign_Name (wpAny_storeName_local (lookup_relabel_local hx₂) hn₆ (fun h₃ hn₃ hs₃ => ?_) (by simp [compEnvC, relabel, hkind])))
        refine assignInOrder_nil ?_
        have old3 : ∀ b o, b ≠ C → h₂.get? b = some o → h₃.get? b = some o := fun b o hb e => hs₃.extBut b o hb (hs₆.extBut b o hb (he' b o e))
        have hst₃ := W.frame (i + 1) _ h₃ hst₂ fun b hb o e => old3 b o (fun q => fC (q ▸ hb)) e
        refine shut fun X hX => ?_
        obtain ⟨oI, heI, rI⟩ := hst₃.1
        refine hX ?_
        clear hX X
        refine shut fun X hX => ?_
        obtain ⟨oC, heC, hoC⟩ := ns_obj hn₃
        refine hX ?_
        clear hX X
        have F₃ : Fr h₀ L h₃ m := (((fr_but F' hk₂ hIL hI₀).keeps he').change hs₆ hCL hC₀).change hs₃ hCL hC₀
        have N₃ : News h₀ L h₃ ((I, oI) :: (C, oC) :: (D, LCg.lst ys) :: nw) := fun p hp => by
          rcases List.mem_cons.mp hp with rfl | hp
          · exact ⟨heI, Ne.symm hIL, hI₀⟩
          · rcases List.mem_cons.mp hp with rfl | hp
            · exact ⟨heC, hCL, hC₀⟩
            · have z := N₂ p hp
              refine ⟨old3 _ _ ?_ z.1, z.2⟩
              rcases List.mem_cons.mp hp with rfl | hp
              · exact nDC
              · exact (off3 p hp).2.1
        have stTurn : ∀ h₄ nw', News h₀ L h₄ ((I, oI) :: (C, oC) :: (D, LCg.lst ys) :: nw') → Fr h₀ L h₄ m → SrcAt h₀ ax its nw' → (h₄.IsListIter I ax (i + 1) ∧ h₄.IsList ax its) := fun h₄ nw' N₄ F₄ S₄ =>
          ⟨⟨oI, (N₄ _ (.head _)).1, rI⟩, S₄.list F₄.keep fun p hp => N₄ p (.tail _ (.tail _ (.tail _ hp)))⟩
        refine wpAny_mono (go I oI C oC D _ h₃ _ _ hoC (by simp [hxx]) (by simp) F₃ N₃ off' ⟨nIC, nID, Ne.symm nDC⟩) (fun ok s₄ h₄ => ?_) fun _ _ e => e
        cases ok with
        | false =>
          simp only [Bool.false_eq_true, if_false] at h₄ ⊢
          refine shut fun X hX => ?_
          obtain ⟨h₄, tk₄, nw₄, rfl, F₄, N₄, off₄, R₄⟩ := h₄
          refine hX ?_
          clear hX X
          exact ⟨its.size + 1 - (i + 1), by lia, h₄, tk₄, i + 1, ys, _, nw₄, rfl, hlt, rfl, by lia, stTurn _ _ N₄ F₄ (hSrc _ _ _ R₄), F₄, hoC.ns (N₄ _ (.tail _ (.head _))).1, fun p hp => N₄ p (.tail _ (.tail _ hp)), off₄, R₄⟩
        | true =>
          simp only [if_true] at h₄ ⊢
          refine wpAny_mono h₄ (fun y s₄ h₄ => ?_) fun _ _ e => e
          refine shut fun X hX => ?_
          obtain ⟨h₄, tk₄, nw₄, rfl, F₄, N₄, off₄, R₄⟩ := h₄
          refine hX ?_
          clear hX X
          have zC := (N₄ _ (.tail _ (.head _))).1
          have zD := (N₄ _ (.tail _ (.tail _ (.head _)))).1
          have hst₄ := stTurn _ _ N₄ F₄ (hSrc _ _ _ R₄)
          refine append_at (hsz := by show ys.toArray.size ≤ sizeLine; rw [List.size_toArray]; exact Nat.le_trans hyl (Nat.le_trans hi hsz)) zD fun h₅ hs₅ hD₅ => ?_
          have off4 := off₄.mem
          refine ⟨its.size + 1 - (i + 1), by lia, h₅, tk₄, i + 1, ys ++ [y], _, nw₄, rfl, hlt, rfl, by rw [List.length_append, List.length_singleton]; lia, W.frame _ _ _ hst₄ fun b hb o e => hs₅.extBut b o (fun q => fD (q ▸ hb)) e, F₄.change hs₅ hDL hD₀,
            (hoC.ns zC).sameBut hs₅ (Ne.symm nDC), fun p hp => ?_, off₄, R₄⟩
          rcases List.mem_cons.mp hp with rfl | hp
          · exact ⟨hD₅.trans (congrArg some (lst_snoc ys y)), hDL, hD₀⟩
          · exact ⟨hs₅.extBut _ _ (off4 p hp).2.2 (N₄ p (.tail _ (.tail _ (.tail _ hp)))).1, (N₄ p (.tail _ (.tail _ (.tail _ hp)))).2⟩
      · obtain rfl : i = its.size := Nat.le_antisymm hi (Nat.not_lt.mp hlt)
        refine W.done _ _ _ hst' fun h₂ tk₂ hk₂ => ?_
        have off3 := off'.mem
        have N₂ : News h₀ L h₂ ((D, LCg.lst ys) :: nw) := news_but N' hk₂ fun p hp => by
          rcases List.mem_cons.mp hp with rfl | hp
          · exact Ne.symm nID
          · exact (off3 p hp).1
        refine ⟨m', hn'.at' fun o e => hk₂ _ o (by simpa using Ne.symm nIC) e, fun h'' hs'' => fin ys nw R' D h'' tk₂ ((fr_but F' hk₂ hIL hI₀).change hs'' hCL hC₀) (fun p hp => ?_) off'.one⟩
        refine ⟨hs''.extBut _ _ ?_ (N₂ p hp).1, (N₂ p hp).2⟩
        rcases List.mem_cons.mp hp with rfl | hp
        · exact nDC
        · exact (off3 p hp).2.1
    · rcases List.mem_cons.mp hp with rfl | hp
      · exact ⟨hacc, hDL, hD₀⟩
      · exact ⟨old _ _ (N1 p hp).1, (N1 p hp).2⟩
  exact codeAny_compStart_list (loop _ rfl) (W.self 0 _ _ _ hst₁ (loop _ rfl))
end
end Mine
end
section
open PySem PySem.W PyProof.Rows PySem.Calls
set_option maxRecDepth 100000
namespace Mine
/-- the row of places behind r rounds -/
noncomputable def prow (a : Nat → Int) (n : Nat) : Nat → List Nat
  | 0 => List.range n
  | r + 1 => rnd a (prow a n r)
theorem stepL_map {α β : Type} (g : α → β) (key : β → Int) (s : List α × List α) (w : α) :
    stepL key (s.1.map g, s.2.map g) (g w) = ((stepL (fun x => key (g x)) s w).1.map g, (stepL (fun x => key (g x)) s w).2.map g) := by
  unfold stepL
  have e : (s.1.map g).all (fun u => decide (key u ≤ key (g w))) = s.1.all (fun u => decide (key (g u) ≤ key (g w))) := by rw [List.all_map]; rfl
  dsimp only
  rw [e]
  split
  · simp
  · simp [List.filter_map, Function.comp_def]
theorem fold_map {α β : Type} (g : α → β) (key : β → Int) : ∀ (l : List α) (s : List α × List α),
    (l.map g).foldl (stepL key) (s.1.map g, s.2.map g) = ((l.foldl (stepL (fun x => key (g x))) s).1.map g, (l.foldl (stepL (fun x => key (g x))) s).2.map g)
  | [], s => rfl
  | x :: l, s => by
    rw [List.map_cons, List.foldl_cons, List.foldl_cons, stepL_map]
    exact fold_map g key l (stepL (fun x => key (g x)) s x)
theorem rnd_map {α β : Type} (g : α → β) (key : β → Int) (l : List α) : rnd key (l.map g) = (rnd (fun x => key (g x)) l).map g := by
  unfold rnd
  have h := fold_map g key l ([], [])
  simp only [List.map_nil] at h
  rw [h, List.map_append]
section
variable {ms fs : List Int} {n : Nat}
theorem falls_hf (h : FallsTo ms n fs) {z r : Nat} (hz : z < n) :
    r + 1 < (fs.getD z 0).toNat ↔ ∃ k, k < z ∧ ms.getD z 0 < ms.getD k 0 ∧ r < (fs.getD k 0).toNat := by
  obtain ⟨h1, h2, h3⟩ := h.2 z hz
  constructor
  · intro hr
    rcases h2 with h2 | ⟨k, hk, hk2, hk3⟩
    · lia
    · exact ⟨k, hk, hk2, by lia⟩
  · rintro ⟨k, hk, hk2, hk3⟩
    have := h3 k hk hk2
    lia
theorem falls_le (h : FallsTo ms n fs) : ∀ z, z < n → fs.getD z 0 ≤ z + 1 := by
  intro z
  induction z using Nat.strongRecOn with
  | _ z ih =>
    intro hz
    obtain ⟨h1, h2, h3⟩ := h.2 z hz
    rcases h2 with h2 | ⟨k, hk, hk2, hk3⟩
    · lia
    · have := ih k hk (by lia)
      lia
theorem prow_good (h : FallsTo ms n fs) : ∀ r, (prow (fun p => ms.getD p 0) n r).Perm (List.range n) ∧ (prow (fun p => ms.getD p 0) n r).Pairwise (Aw (fun p => ms.getD p 0) (fun p => (fs.getD p 0).toNat) r)
  | 0 => by
    refine ⟨List.Perm.refl _, ?_⟩
    refine (List.pairwise_lt_range (n := n)).imp_of_mem (fun {x y} hx hy hxy => ⟨fun _ => .inr ⟨x, hxy, Int.le_refl _, ?_⟩, fun hyx => absurd hyx (by lia)⟩)
    have := (h.2 x (List.mem_range.mp hx)).1
    show 0 < (fs.getD x 0).toNat
    lia
  | r + 1 => by
    obtain ⟨hp, hw⟩ := prow_good h r
    have hm : ∀ t, t ∈ prow (fun p => ms.getD p 0) n r ↔ t < n := fun t => by rw [hp.mem_iff, List.mem_range]
    have := rnd_ok (a := fun p => ms.getD p 0) (f := fun p => (fs.getD p 0).toNat) (r := r) (hp.nodup_iff.mpr List.nodup_range) hw
      (fun t ht z hz => (hm z).mpr (by have := (hm t).mp ht; lia)) (fun z hz => falls_hf h ((hm z).mp hz))
    exact ⟨this.1.trans hp, this.2⟩
theorem split_at {l : List Nat} {p : Nat} (h : p ∈ l) : ∃ a b, l = a ++ p :: b := List.append_of_mem h
open Classical in
theorem prow_at (h : FallsTo ms n fs) (r : Nat) {p : Nat} (hp : p < n) :
    (prow (fun p => ms.getD p 0) n r)[cntA (fun j k => decide (Ah (fun p => ms.getD p 0) (fun p => (fs.getD p 0).toNat) r k j)) n p]? = some p := by
  obtain ⟨hpm, hpw⟩ := prow_good h r
  generalize prow (fun p => ms.getD p 0) n r = row at *
  have hnd : row.Nodup := hpm.nodup_iff.mpr List.nodup_range
  obtain ⟨u, v, rfl⟩ := split_at (hpm.mem_iff.mpr (List.mem_range.mpr hp))
  generalize (fun p => ms.getD p 0) = a at *
  generalize (fun p => (fs.getD p 0).toNat) = f at *
  let Q : Nat → Bool := fun k => if k < p then decide (Ah a f r k p) else if p < k then !decide (Ah a f r p k) else false
  rw [List.pairwise_append, List.pairwise_cons] at hpw
  rw [List.nodup_append, List.nodup_cons] at hnd
  have e1 : u.filter Q = u := by
    refine List.filter_eq_self.mpr fun k hk => ?_
    have hA := hpw.2.2 k hk p (.head _)
    have hne : k ≠ p := hnd.2.2 k hk p (.head _)
    show (if k < p then _ else _) = true
    by_cases c : k < p
    · rw [if_pos c]; exact decide_eq_true (hA.1 c)
    · have c2 : p < k := by lia
      rw [if_neg c, if_pos c2]; simp [hA.2 c2]
  have e2 : v.filter Q = [] := by
    refine List.filter_eq_nil_iff.mpr fun k hk => ?_
    have hA := hpw.2.1.1 k hk
    show ¬ (if k < p then _ else _) = true
    by_cases c : k < p
    · rw [if_pos c]; simp [hA.2 c]
    · by_cases c2 : p < k
      · rw [if_neg c, if_pos c2]; simp [hA.1 c2]
      · rw [if_neg c, if_neg c2]; decide
  have e3 : Q p = false := by show (if p < p then _ else _) = false; rw [if_neg (Nat.lt_irrefl _), if_neg (Nat.lt_irrefl _)]
  have hl := (hpm.filter Q).length_eq
  rw [List.filter_append, List.filter_cons, e3, if_neg (by decide), e1, e2, List.append_nil] at hl
  have hr : List.range n = List.range p ++ p :: List.range' (p + 1) (n - (p + 1)) := by
    have e5 : n - p = (n - (p + 1)) + 1 := by lia
    have e6 : n = p + (n - p) := by lia
    have e7 := List.range'_append_1 (s := 0) (m := p) (n := n - p)
    rw [Nat.zero_add, ← e6, e5, List.range'_succ] at e7
    rw [List.range_eq_range', List.range_eq_range']
    exact e7.symm
  rw [hr, List.filter_append, List.filter_cons, e3, if_neg (by decide), List.length_append] at hl
  have f1 : (List.range p).filter Q = (List.range p).filter (fun k => decide (Ah a f r k p)) := List.filter_congr fun k hk => by
    show (if k < p then _ else _) = _
    rw [if_pos (List.mem_range.mp hk)]
  have f2 : (List.range' (p + 1) (n - (p + 1))).filter Q = (List.range' (p + 1) (n - (p + 1))).filter (fun k => !decide (Ah a f r p k)) := List.filter_congr fun k hk => by
    have := List.mem_range'_1.mp hk
    show (if k < p then _ else _) = _
    rw [if_neg (by lia), if_pos (by lia)]
  have hc : cntA (fun j k => decide (Ah a f r k j)) n p = u.length := by
    unfold cntA
    rw [hl, f1, f2]
  rw [hc, List.getElem?_append_right (Nat.le_refl _), Nat.sub_self]
  rfl
open Classical in
theorem keep_iff (h : FallsTo ms n fs) {r : Nat} (hr : r < 7) {j k : Nat} (hj : j < n) {v : Int} (hv : KeepAt ms fs j k v) :
    (decide (Ah (fun p => ms.getD p 0) (fun p => (fs.getD p 0).toNat) r k j) = true ↔ (r : Int) < v) := by
  rw [decide_eq_true_iff]
  rcases hv with ⟨h1, rfl⟩ | ⟨h1, ⟨z, hz, hz2, rfl⟩, h3⟩
  · exact ⟨fun _ => by lia, fun _ => .inl h1⟩
  · constructor
    · rintro (h4 | ⟨z', h5, h6, h7⟩)
      · exact absurd h4 (by dsimp only; lia)
      · have := h3 z' h5 h6
        dsimp only at h7
        lia
    · intro h4
      exact .inr ⟨z, hz, hz2, by dsimp only; lia⟩
end
theorem mom_zero : mom 0 = 0 := by decide +kernel
theorem map_getD (zs : List Nat) (p : Nat) : (zs.map mom).getD p 0 = mom (zs.getD p 0) := by
  rw [List.getD_eq_getElem?_getD, List.getD_eq_getElem?_getD, List.getElem?_map]
  cases zs[p]? with
  | none => exact mom_zero.symm
  | some z => rfl
theorem prow_map (zs : List Nat) (r : Nat) :
    rnd mom ((prow (fun p => (zs.map mom).getD p 0) zs.length r).map (fun p => zs.getD p 0)) = (prow (fun p => (zs.map mom).getD p 0) zs.length (r + 1)).map (fun p => zs.getD p 0) := by
  rw [rnd_map]
  have : (fun p => mom (zs.getD p 0)) = (fun p => (zs.map mom).getD p 0) := funext fun p => (map_getD zs p).symm
  rw [this]
  rfl
theorem prow_zero (zs : List Nat) (a : Nat → Int) : (prow a zs.length 0).map (fun p => zs.getD p 0) = zs := by
  show (List.range zs.length).map _ = zs
  refine List.ext_getElem? fun i => ?_
  rw [List.getElem?_map]
  by_cases h : i < zs.length
  · rw [List.getElem?_range h, Option.map_some, List.getD_eq_getElem?_getD, List.getElem?_eq_getElem h]; rfl
  · rw [List.getElem?_eq_none (by rw [List.length_range]; lia), List.getElem?_eq_none (by lia)]; rfl
end Mine
end
section
open PySem PySem.W PyProof.Rows PySem.Calls PyProof.Rows.LCg
set_option maxRecDepth 100000
namespace Mine
theorem strOk_all : ∀ z < 576, PyData.strOk (zt z) = true := by decide +kernel
/-- a refused zone as it is told -/
def rdat (z : Nat) : Dat := .tuple [.int 554, .str (zt z)]
/-- a zone as it is told -/
def mdat : Option Int → Dat
  | none => .none
  | some i => .int i
def tdat (z : Nat) : Dat := .tuple [.str (zt z), mdat (zm z)]
def wdat (z : Nat) : Dat := .str (zt z)
theorem momDat {nw : List (Addr × Obj)} {v : Value} {o : Option Int} (h : MomV v o) : DatIn nw v (mdat o) := by
  cases o with
  | none => cases v with
    | none => exact .none
    | _ => cases h
  | some i => cases v with
    | int j t => obtain rfl : j = i := h; exact .int j t
    | _ => cases h
theorem dat_of {nw : List (Addr × Obj)} {f : Nat → Dat} : ∀ {zs : List Nat} {kv : List Value}, kv.length = zs.length → (∀ j < zs.length, ∃ v z, zs[j]? = some z ∧ kv[j]? = some v ∧ DatIn nw v (f z)) → DatAll nw kv (zs.map f)
  | [], [], _, _ => .nil
  | z :: zs, v :: kv, h, h2 => by
    refine .cons ?_ (dat_of (Nat.succ.inj h) fun j hj => ?_)
    · obtain ⟨v', z', e1, e2, d⟩ := h2 0 (Nat.zero_lt_succ _)
      obtain rfl : z = z' := Option.some.inj e1
      obtain rfl : v = v' := Option.some.inj e2
      exact d
    · obtain ⟨v', z', e1, e2, d⟩ := h2 (j + 1) (Nat.succ_lt_succ hj)
      exact ⟨v', z', by simpa using e1, by simpa using e2, d⟩
theorem rtups_dat {zs : List Nat} {kv : List Value} {tups : List (Addr × Obj)} (h : RTups zs kv tups) : DatAll tups kv (zs.map rdat) :=
  dat_of h.1 fun j hj => by
    obtain ⟨ta, z, t, u, h1, h2, h3, h4⟩ := h.2 j hj
    exact ⟨_, z, h1, h3, .tuple h4 (.cons (.int _ _) (.cons (.str _ _) .nil))⟩
theorem tups_dat {zs : List Nat} {kv : List Value} {tups : List (Addr × Obj)} (h : Tups zs kv tups) : DatAll tups kv (zs.map tdat) :=
  dat_of h.1 fun j hj => by
    obtain ⟨ta, z, t, v, h1, h2, h3, h4, h5⟩ := h.2 j hj
    exact ⟨_, z, h1, h3, .tuple h4 (.cons (.str _ _) (.cons (momDat h5) .nil))⟩
theorem ws_dat {zs : List Nat} {ys : List Value} {nw : List (Addr × Obj)} (h : Ws ys zs) : DatAll nw ys (zs.map wdat) :=
  dat_of h.len fun j hj => by
    obtain ⟨z, t, h1, h2, h3⟩ := h.at j hj
    exact ⟨_, z, h1, h3, .str _ _⟩
theorem rdat_ok {zs : List Nat} (h : ∀ z ∈ zs, z < 576) : ∀ d ∈ zs.map rdat, kqdOk 8 d = true := by
  intro d hd
  obtain ⟨z, hz, rfl⟩ := List.mem_map.mp hd
  simp [rdat, kqdOk, strOk_all z (h z hz)]
theorem tdat_ok {zs : List Nat} (h : ∀ z ∈ zs, z < 576) : ∀ d ∈ zs.map tdat, kqdOk 8 d = true := by
  intro d hd
  obtain ⟨z, hz, rfl⟩ := List.mem_map.mp hd
  cases e : zm z <;> simp [tdat, mdat, kqdOk, strOk_all z (h z hz), e]
theorem wdat_ok {zs : List Nat} (h : ∀ z ∈ zs, z < 576) : ∀ d ∈ zs.map wdat, kqdOk 8 d = true := by
  intro d hd
  obtain ⟨z, hz, rfl⟩ := List.mem_map.mp hd
  simp [wdat, kqdOk, strOk_all z (h z hz)]
theorem lt_of_tups {zs : List Nat} {kv : List Value} {tups : List (Addr × Obj)} (h : Tups zs kv tups) : ∀ z ∈ zs, z < 576 := by
  intro z hz
  obtain ⟨j, hj, e⟩ := List.getElem_of_mem hz
  obtain ⟨_, z', _, _, h1, h2, _⟩ := h.2 j hj
  rw [List.getElem?_eq_getElem hj, e] at h1
  obtain rfl := Option.some.inj h1
  exact h2
theorem lt_filter {f : Nat → Bool} {zs : List Nat} (h : ∀ z ∈ zs, z < 576) : ∀ z ∈ zs.filter f, z < 576 := fun z hz => h z (List.mem_filter.mp hz).1
section
variable {prog : Program} {w : World} {A : Around} {E : Value → Shared → Prop} {s : Shared} {h₀ : Heap} {L a b : Addr} {news n₁ n₂ : List (Addr × Obj)} {xs ys : List Value} {ka kb : Nat} {ds es : List Dat} {Q : Value → Shared → Prop}
theorem ne_same (N : News h₀ L s.heap news) (ma : (a, listOf xs.toArray ka) ∈ news) (Da : DatAll n₁ xs ds) (sa : ∀ p ∈ n₁, p ∈ news)
    (mb : (b, listOf ys.toArray kb) ∈ news) (Db : DatAll n₂ ys ds) (sb : ∀ p ∈ n₂, p ∈ news)
    (ha : ∀ d ∈ ds, kqdOk 8 d = true) (hu : A.units + 64 < cLine) (h : Q (.bool false) s) : wpAny (model prog w) A (compareOp .NotEq (.ref a) (.ref b)) Q E s :=
  kqd_ne N ma rfl rfl Da sa mb rfl rfl Db sb ha ha hu (by simpa using h)
end
theorem Off3.cons' {I C D : Addr} {p : Addr × Obj} {l : List (Addr × Obj)} (h1 : @LT.lt Nat _ I p.1) (h2 : @LT.lt Nat _ C p.1) (h3 : @LT.lt Nat _ D p.1) (o : Off3 I C D l) : Off3 I C D (p :: l) :=
  Off3.of fun q hq => by
    rcases List.mem_cons.mp hq with rfl | hq
    · exact ⟨Ne.symm (Nat.ne_of_lt h1), Ne.symm (Nat.ne_of_lt h2), Ne.symm (Nat.ne_of_lt h3)⟩
    · exact o.mem q hq
theorem max_ex : ∀ l : List Int, l ≠ [] → ∃ M ∈ l, ∀ a ∈ l, a ≤ M
  | [], h => absurd rfl h
  | [x], _ => ⟨x, .head _, fun a ha => by rw [List.mem_singleton.mp ha]; exact Int.le_refl _⟩
  | x :: y :: l, _ => by
    obtain ⟨M, hM, h2⟩ := max_ex (y :: l) (by simp)
    by_cases c : M ≤ x
    · exact ⟨x, .head _, fun a ha => by
        rcases List.mem_cons.mp ha with rfl | ha
        · exact Int.le_refl _
        · exact Int.le_trans (h2 a ha) c⟩
    · exact ⟨M, .tail _ hM, fun a ha => by
        rcases List.mem_cons.mp ha with rfl | ha
        · lia
        · exact h2 a ha⟩
theorem falls_max {ms fs : List Int} {n : Nat} (h : FallsTo ms n fs) : ∃ R : Nat, R ≤ n ∧ ∀ M, M ∈ [(0 : Int)] ++ fs → (∀ a, a ∈ [(0 : Int)] ++ fs → a ≤ M) → M = (R : Int) := by
  obtain ⟨M, hM, h2⟩ := max_ex ([(0 : Int)] ++ fs) (by simp)
  have h0 : 0 ≤ M := h2 0 (.head _)
  obtain ⟨R, rfl⟩ := Int.eq_ofNat_of_zero_le h0
  refine ⟨R, ?_, fun M' hM' h3 => Int.le_antisymm (h2 _ hM') (h3 _ hM)⟩
  rcases List.mem_cons.mp hM with e | hM
  · lia
  · replace hM : (R : Int) ∈ fs := hM
    obtain ⟨j, hj, e⟩ := List.getElem_of_mem hM
    have hj' : j < n := by rw [← h.1]; exact hj
    have := falls_le h j hj'
    rw [List.getD_eq_getElem?_getD, List.getElem?_eq_getElem hj, Option.getD_some] at this
    lia
theorem row_len {ms fs : List Int} {vs : List Nat} (h : FallsTo ms vs.length fs) (r : Nat) : ((prow (fun p => ms.getD p 0) vs.length r).map (fun p => vs.getD p 0)).length = vs.length := by
  rw [List.length_map, (prow_good h r).1.length_eq, List.length_range]
theorem row_mem {ms fs : List Int} {vs : List Nat} (h : FallsTo ms vs.length fs) {r : Nat} : ∀ z ∈ (prow (fun p => ms.getD p 0) vs.length r).map (fun p => vs.getD p 0), z ∈ vs := by
  intro z hz
  obtain ⟨p, hp, rfl⟩ := List.mem_map.mp hz
  have := List.mem_range.mp ((prow_good h r).1.mem_iff.mp hp)
  rw [List.getD_eq_getElem?_getD, List.getElem?_eq_getElem this]
  exact List.getElem_mem this
end Mine
end
section
open PySem PySem.W PyProof.Rows PySem.Calls PyProof.Rows.LCg
set_option maxRecDepth 100000
namespace Mine
section
variable {prog : Program} {w : World} {A : Around} {E : Value → Shared → Prop} {s : Shared} {h₀ : Heap} {L : Addr}
variable {env : Env} {x : Str} {px pos : Pos} {iter : Expr} {body : List Stmt} {Q : Flow → Shared → Prop}
/-- the iterator of a range is no list of the ledger -/
theorem ri_ne {L : Addr} {h₀ h : Heap} {I ra : Addr} {oI : Obj} {its : Array Value} {k : Nat} {l : List (Addr × Obj)} (N : News h₀ L h l) (h1 : (I, oI) ∈ l) (h2 : (ra, listOf its k) ∈ l) (hc : oI.cls = .type "range_iterator") : @Ne Nat ra I := by
  intro e
  have e1 := (N _ h1).1
  have e2 := (N _ h2).1
  dsimp only at e1 e2
  rw [show ra = I from e, e1] at e2
  obtain rfl := Option.some.inj e2
  have : (Value.type "list") = Value.type "range_iterator" := hc
  exact absurd this (by simp)
end
end Mine
end
section
open PySem PySem.W PyProof.Rows PySem.Calls PySem.Builtin.Re PyProof.Rows.LCg
set_option maxRecDepth 100000
namespace Mine
local macro_rules | `(tactic| walk_at "exec For Name Call cons nil") => `(tactic| (k_here; refine hold ?_))
local macro_rules | `(tactic| walk_at "exec For Name Name cons nil") => `(tactic| (k_here; refine hold ?_))
local macro_rules | `(tactic| walk_at "call type:range") => `(tactic| (k_here; (first | refine range1_rows (by k_asm) (by k_asm) ?_ | refine range2_rows (by k_asm) (by k_asm) ?_); intro h' tk' t₁ u₁ v₁ hR F' N' K'; (try dsimp only); (try k_fold)))
local macro_rules | `(tactic| walk_at "call builtin:len") => `(tactic| (k_here; (refine len_list (News.isList (by k_asm) (by first | exact .head _ | exact .tail _ (.head _) | exact .tail _ (.tail _ (.head _)) | exact .tail _ (.tail _ (.tail _ (.head _))) | exact .tail _ (.tail _ (.tail _ (.tail _ (.head _)))) | exact .tail _ (.tail _ (.tail _ (.tail _ (.tail _ (.head _))))) | exact .tail _ (.tail _ (.tail _ (.tail _ (.tail _ (.tail _ (.head _)))))) | exact .tail _ (.tail _ (.tail _ (.tail _ (.tail _ (.tail _ (.tail _ (.head _))))))))) (by simp only [List.size_toArray]; lia) ?_); (try simp only [List.size_toArray]); (try dsimp only); (try k_fold)))
local macro_rules | `(tactic| walk_at "subscriptTail") => `(tactic| (k_here; (refine item_list (News.isList (by k_asm) (by first | exact .head _ | exact .tail _ (.head _) | exact .tail _ (.tail _ (.head _)) | exact .tail _ (.tail _ (.tail _ (.head _))) | exact .tail _ (.tail _ (.tail _ (.tail _ (.head _)))) | exact .tail _ (.tail _ (.tail _ (.tail _ (.tail _ (.head _))))) | exact .tail _ (.tail _ (.tail _ (.tail _ (.tail _ (.tail _ (.head _)))))) | exact .tail _ (.tail _ (.tail _ (.tail _ (.tail _ (.tail _ (.tail _ (.head _))))))))) (by lia) (by lia) (by first | assumption | exact menu0 (by lia) | exact menu1 (by lia) | exact menu2 (by lia) | exact menu3 (by lia)) ?_); (try dsimp only); (try k_fold)))
local macro_rules | `(tactic| k_all) => `(tactic| first | with_reducible assumption | exact ltne (by assumption) | exact allne (by assumption))
local macro_rules | `(tactic| walk_at "eval ListComp") => `(tactic| (k_here; refine hold ?_))
local macro_rules | `(tactic| walk_at "CompSrcT") => `(tactic| (k_here; refine hold ?_))
local macro_rules | `(tactic| walk_at "CompSrc") => `(tactic| (k_here; refine hold ?_))
local macro_rules | `(tactic| walk_at "call ref") => `(tactic| (k_here; refine hold ?_))
local macro_rules | `(tactic| walk_at "compareOp NotEq ref ref") => `(tactic| (k_here; refine hold ?_))
local macro_rules | `(tactic| walk_at "SrcLP") => `(tactic| (k_here; refine hold ?_))
section
variable {α : Type} {a b c d e f g : α} {u v w : List α}
theorem dropA : ∀ p ∈ b :: c :: f :: (u ++ v), p ∈ a :: b :: c :: d :: (u ++ e :: f :: (v ++ [])) := by
  intro p hp; simp only [List.mem_cons, List.mem_append] at hp ⊢; rcases hp with h | h | h | h | h <;> simp only [h, true_or, or_true]
theorem dropB : ∀ p ∈ b :: u, p ∈ a :: (w ++ b :: c :: (u ++ v)) := by
  intro p hp; simp only [List.mem_cons, List.mem_append] at hp ⊢; rcases hp with h | h <;> simp only [h, true_or, or_true]
theorem dropC : ∀ p ∈ f :: f :: c :: u, p ∈ a :: b :: c :: d :: e :: (u ++ f :: g :: v) := by
  intro p hp; simp only [List.mem_cons, List.mem_append] at hp ⊢; rcases hp with h | h | h | h <;> simp only [h, true_or, or_true]
theorem dropD : ∀ p ∈ d :: a :: e :: f :: u, p ∈ a :: b :: c :: d :: e :: f :: u := by
  intro p hp; simp only [List.mem_cons] at hp ⊢; rcases hp with h | h | h | h | h <;> simp only [h, true_or, or_true]
theorem dropE : ∀ p ∈ c :: d :: (u ++ a :: b :: c :: d :: u), p ∈ a :: b :: c :: d :: u := by
  intro p hp; simp only [List.mem_cons, List.mem_append] at hp ⊢; rcases hp with h | h | h | h | h | h | h <;> simp only [h, true_or, or_true]
end
theorem ws_take {ys : List Value} {zs : List Nat} {i z : Nat} {t : Tok} (h : Ws ys (zs.take i)) (hz : zs[i]? = some z) (hl : z < 576) : Ws (ys ++ [.str (zt z) t]) (zs.take (i + 1)) := by
  rw [take_succ hz]; exact h.snoc _ _ hl
local macro_rules | `(tactic| walk_at "binaryOp Add ref ref") => `(tactic| (k_here; refine hold ?_))
local macro_rules | `(tactic| walk_at "call builtin:max") => `(tactic| (k_here; refine hold ?_))
def walk.tw10478628107036179763 : Nat := 0
set_option Elab.async true in
set_option maxHeartbeats 16000000 in
theorem walk {d : DefRec} {kwd : List (Str × Expr)} (hd : defOf view PySem.Challenge.rw_xe0013_01.row.name = some (d, kwd)) :
    WalkO view ["UTC_ZONES", "TIMEZONE_RE", "_twin_re_1"] (XL view []) (kHook top.heap_1 objs objs_eq).says PySem.Challenge.rw_xe0013_01.row.toRowW d kwd (fun f vs => PySem.call f vs) := by
  obtain ⟨h1, h2⟩ := Prod.mk.inj (Option.some.inj (hd.symm.trans (show defOf view _ = some (_, _) from rfl)))
  subst h1 h2
  clear hd
  k_go0
  all_goals (try k_fold)
  k_steps
  show wpAny _ _ _ _ _ _
  rename Heap.IsList _ _ _ => hL
  rename IntsAre _ _ => hI
  rename Fr _ _ _ _ => F0
  rename News _ _ _ _ => N0
  rename (top.heap_1 _).In _ => KX
  rename Top _ _ _ _ _ _ => KT
  refine zones_call (below_caller _) F0 KX N0 KT rfl (by decide +kernel) (by decide +kernel) hL hI (by lia) ?_
  intro za kv zs tups h2 tk2 k2 hT h6 hza F2 N2
  (try dsimp only)
  k_steps
  show wpAny _ _ _ _ _ _
  refine new_toks fun tk0 => ?_
  dsimp only
  k_dflt (refine LCp.ListComp_P (F₀ := by k_asm) (by with_unfolding_all rfl) (by decide) (by rfl) (by decide) (by rfl) (by rfl) (by decide) ?_)
  k_steps
  rename Fr _ _ _ _ => F3
  rename News _ _ _ _ => N3
  have hk6 : kv.toArray.size = 6 := by rw [List.size_toArray, hT.1, h6]
  refine LCp.SrcLP.ledger (by rfl) F3 N3 (.head _) (by rw [hk6, sizeLine_eq]; decide) fun g3 => ?_
  rw [hk6]
  refine compP_inv 6 (fun i ys nw => Ws ys (zs.take i) ∧ nw = (za, listOf kv.toArray k2) :: (tups ++ [])) (by rintro i ys nw ⟨_, rfl⟩; exact .inr ⟨_, .head _, rfl, _, rfl⟩) ?_ ?_ 6 0 [] _ rfl ⟨trivial, rfl⟩
  · rintro ys nw ⟨hys, rfl⟩
    rw [← h6, List.take_length] at hys
    unfold LCg.FinE
    intro D h13 tk13 F13 N13 o13
    dsimp only
    k_steps
    show wpAny _ _ _ _ _ _
    refine mail_call (r := 0) (below_caller _) F13 KX KT rfl (by decide +kernel) (by decide +kernel) hys (by lia) (by decide) N13 ?_
    intro ma xs h4 tk4 hxs F4 N4
    (try dsimp only)
    k_steps
    show wpAny _ _ _ _ _ _
    refine taken_call (below_caller _) F4 KX KT rfl (by decide +kernel) (by decide +kernel) KX KT hxs (by lia) N4 ?_
    intro tp ta ra kt kr tup2 h5 tk5 k3 k4 hT2 hR2 F5 N5
    (try dsimp only)
    k_steps
    show wpAny _ _ _ _ _ _
    refine new_toks fun tk6 => ?_
    dsimp only
    rename Fr _ _ _ _ => F6
    rename News _ _ _ _ => N6
    replace N6 := cb_drop (news := (ra, listOf kr.toArray k4) :: (ta, listOf kt.toArray k3) :: (za, listOf kv.toArray k2) :: (tup2 ++ tups)) N6 dropA
    k_dflt (refine ListComp_PT (_F₀ := F6) (by with_unfolding_all rfl) (by decide) (by rfl) (by decide) (by rfl) (by rfl) (by decide) ?_)
    k_steps
    refine SrcPT.ledger (k := k2) 6 hk6 (fun i ys nw => ∃ tp3, RTups ((zs.take i).filter (fun z => (zm z).isNone)) ys tp3 ∧ nw = tp3 ++ ((ra, listOf kr.toArray k4) :: (ta, listOf kt.toArray k3) :: (za, listOf kv.toArray k2) :: (tup2 ++ tups))) (by rfl) F6 N6 (by rw [sizeLine_eq]; decide) ⟨[], ⟨rfl, fun j hj => absurd hj (Nat.not_lt_zero j)⟩, rfl⟩ ?_ ?_ ?_
    · rintro i ys nw ⟨tp3, _, rfl⟩
      exact List.mem_append_right _ (.tail _ (.tail _ (.head _)))
    · rintro g i ys nw v hi6 ⟨tp3, hR3, rfl⟩ hv
      refine shut fun X hX => ?_
      obtain ⟨ta2, z, t, v2, hz1, hz2, hz3, hz4, hz5⟩ := hT.2 i (by lia)
      refine hX ?_
      clear hX X
      rw [List.getElem?_toArray, hz3] at hv
      obtain rfl := Option.some.inj hv
      refine ⟨ta2, _, .str (zt z) t, v2, _, rfl, List.mem_append_right _ (.tail _ (.tail _ (.tail _ (List.mem_append_right _ hz4)))), rfl, rfl, ?_⟩
      intro I oI C oC D m₂ h tk E' hN hm hm₂ F N off ne
      cases hmz : zm z with
      | none =>
        rw [hmz] at hz5
        cases v2 with
        | none =>
          k_steps
          rename_i D3 h8 F8 N8 l8
          have e1 := filt_yes (f := fun z => (zm z).isNone) hz1 (by show (zm z).isNone = true; rw [hmz]; rfl)
          refine TurnP.mk F8 (cb_drop N8 ?_) (Off3.cons' l8.1 l8.2.1 l8.2.2.1 off) ⟨_, e1 ▸ hR3.snoc (ta := D3) (t := t) (u := tk) hz2, rfl⟩
          intro p hp
          simp only [List.mem_cons, List.cons_append] at hp ⊢
          rcases hp with h | h | h | h | h <;> simp [h]
        | _ => cases hz5
      | some mi =>
        rw [hmz] at hz5
        cases v2 with
        | int j tj =>
          k_steps
          have e1 := filt_no (f := fun z => (zm z).isNone) hz1 (by show (zm z).isNone = false; rw [hmz]; rfl)
          exact TurnP.mk F N off ⟨_, e1 ▸ hR3, rfl⟩
        | _ => cases hz5
    · rintro ys nw ⟨tp3, hR3, rfl⟩
      rw [← h6, List.take_length] at hR3
      unfold LCg.FinE
      intro D2 h14 tk14 F14 N14 o14
      dsimp only
      k_steps
      show wpAny _ _ _ _ _ _
      refine ne_same N14 (.tail _ (List.mem_append_right _ (.head _))) (rtups_dat hR2) (fun p hp => by simp [hp]) (.head _) (rtups_dat hR3) (fun p hp => by simp [hp]) (rdat_ok (lt_filter (lt_of_tups hT))) (by ke_room) ?_
      (try dsimp only)
      replace N14 := cb_drop (news := (ta, listOf kt.toArray k3) :: (za, listOf kv.toArray k2) :: (tup2 ++ tups)) N14 (fun p hp => .tail _ (List.mem_append_right _ (.tail _ hp)))
      clear N6 F6 hR2 hR3
      k_steps
      show wpAny _ _ _ _ _ _
      refine new_toks fun tk7 => ?_
      dsimp only
      k_dflt (refine ListComp_PT (_F₀ := F14) (by with_unfolding_all rfl) (by decide) (by rfl) (by decide) (by rfl) (by rfl) (by decide) ?_)
      k_steps
      rename Fr _ _ _ _ => F6
      rename News _ _ _ _ => N6
      refine SrcPT.ledger (k := k2) 6 hk6 (fun i ys nw => ∃ tp3, Tups ((zs.take i).filter (fun z => (zm z).isSome)) ys tp3 ∧ nw = tp3 ++ ((ta, listOf kt.toArray k3) :: (za, listOf kv.toArray k2) :: (tup2 ++ tups))) (by rfl) F6 N6 (by rw [sizeLine_eq]; decide) ⟨[], ⟨rfl, fun j hj => absurd hj (Nat.not_lt_zero j)⟩, rfl⟩ ?_ ?_ ?_
      · rintro i ys nw ⟨tp3, _, rfl⟩
        exact List.mem_append_right _ (.tail _ (.head _))
      · rintro g i ys nw v hi6 ⟨tp3, hR3, rfl⟩ hv
        refine shut fun X hX => ?_
        obtain ⟨ta2, z, t, v2, hz1, hz2, hz3, hz4, hz5⟩ := hT.2 i (by lia)
        refine hX ?_
        clear hX X
        rw [List.getElem?_toArray, hz3] at hv
        obtain rfl := Option.some.inj hv
        refine ⟨ta2, _, .str (zt z) t, v2, _, rfl, List.mem_append_right _ (.tail _ (.tail _ (List.mem_append_right _ hz4))), rfl, rfl, ?_⟩
        intro I oI C oC D m₂ h tk E' hN hm hm₂ F N off ne
        cases hmz : zm z with
        | some mi =>
          rw [hmz] at hz5
          cases v2 with
          | int j tj =>
            k_steps
            rename_i D3 h8 F8 N8 l8
            have e1 := filt_yes (f := fun z => (zm z).isSome) hz1 (by show (zm z).isSome = true; rw [hmz]; rfl)
            refine TurnP.mk F8 (cb_drop N8 ?_) (Off3.cons' l8.1 l8.2.1 l8.2.2.1 off) ⟨_, e1 ▸ hR3.snoc (ta := D3) (t := t) (v := .int j tj) hz2 (by rw [hmz]; exact hz5), rfl⟩
            intro p hp
            simp only [List.mem_cons, List.cons_append] at hp ⊢
            rcases hp with h | h | h | h | h <;> simp [h]
          | _ => cases hz5
        | none =>
          rw [hmz] at hz5
          cases v2 with
          | none =>
            k_steps
            have e1 := filt_no (f := fun z => (zm z).isSome) hz1 (by show (zm z).isSome = false; rw [hmz]; rfl)
            exact TurnP.mk F N off ⟨_, e1 ▸ hR3, rfl⟩
          | _ => cases hz5
      · rintro ys nw ⟨tp3, hR3, rfl⟩
        rw [← h6, List.take_length] at hR3
        unfold LCg.FinE
        intro D4 h15 tk15 F15 N15 o15
        dsimp only
        k_steps
        show wpAny _ _ _ _ _ _
        refine ne_same N15 (.tail _ (List.mem_append_right _ (.head _))) (tups_dat hT2) (fun p hp => by simp [hp]) (.head _) (tups_dat hR3) (fun p hp => by simp [hp]) (tdat_ok (lt_filter (lt_of_tups hT))) (by ke_room) ?_
        (try dsimp only)
        replace N15 := cb_drop (news := (ta, listOf kt.toArray k3) :: tup2) N15 dropB
        clear N6 F6 hR3
        have hvl : (zs.filter (fun z => (zm z).isSome)).length ≤ 6 := Nat.le_trans (List.length_filter_le _ _) (by lia)
        have hvz : ∀ z ∈ zs.filter (fun z => (zm z).isSome), zm z ≠ none := fun z hz e => by have := (List.mem_filter.mp hz).2; rw [e] at this; cases this
        have hvt := lt_filter (f := fun z => (zm z).isSome) (lt_of_tups hT)
        generalize zs.filter (fun z => (zm z).isSome) = vs at *
        have hkl : kt.toArray.size = vs.length := by rw [List.size_toArray, hT2.1]
        k_steps
        rename Fr _ _ _ _ => F6
        rename News _ _ _ _ => N6
        refine LCp.SrcLP.ledger (by rfl) F6 N6 (.head _) (by rw [hkl, sizeLine_eq]; lia) fun g3 => ?_
        rw [hkl]
        refine compP_inv vs.length (fun i ys nw => Ws ys (vs.take i) ∧ nw = (ta, listOf kt.toArray k3) :: tup2) (by rintro i ys nw ⟨_, rfl⟩; exact .inr ⟨_, .head _, rfl, _, rfl⟩) ?_ ?_ vs.length 0 [] _ (by lia) ⟨trivial, rfl⟩
        case refine_2 =>
          rintro i ys nw v hi6 ⟨hys, rfl⟩ hv
          refine shut fun X hX => ?_
          obtain ⟨t2, z, t, v2, hz1, hz2, hz3, hz4, hz5⟩ := hT2.2 i hi6
          refine hX ?_
          clear hX X
          rw [List.getElem?_toArray, hz3] at hv
          obtain rfl := Option.some.inj hv
          refine ⟨t2, _, .str (zt z) t, v2, _, rfl, .tail _ hz4, rfl, rfl, ?_⟩
          intro I oI C oC D m₂ h tk E' hN hm hm₂ F N off ne
          k_steps
          exact TurnP.mk (by k_asm) (by k_asm) off ⟨ws_take hys hz1 hz2, rfl⟩
        rintro wx nw ⟨hwx, rfl⟩
        rw [List.take_length] at hwx
        unfold LCg.FinA
        intro wd h16 tk16 F16 N16 o16
        dsimp only
        k_steps
        refine LCp.SrcLP.ledger (by rfl) (by k_asm) N16 (.tail _ (.head _)) (by rw [hkl, sizeLine_eq]; lia) fun g4 => ?_
        rw [hkl]
        refine compP_inv vs.length (fun i ys nw => IntsAre ys ((vs.take i).map mom) ∧ nw = (wd, LCg.lst wx) :: (ta, listOf kt.toArray k3) :: tup2) (by rintro i ys nw ⟨_, rfl⟩; exact .inr ⟨_, .tail _ (.head _), rfl, _, rfl⟩) ?_ ?_ vs.length 0 [] _ (by lia) ⟨.nil, rfl⟩
        case refine_2 =>
          rintro i ys nw v hi6 ⟨hys, rfl⟩ hv
          refine shut fun X hX => ?_
          obtain ⟨t2, z, t, v2, hz1, hz2, hz3, hz4, hz5⟩ := hT2.2 i hi6
          refine hX ?_
          clear hX X
          rw [List.getElem?_toArray, hz3] at hv
          obtain rfl := Option.some.inj hv
          refine ⟨t2, _, .str (zt z) t, v2, _, rfl, .tail _ (.tail _ hz4), rfl, rfl, ?_⟩
          intro I oI C oC D m₂ h tk E' hN hm hm₂ F N off ne
          have e1 := mom_is (hvz z (List.mem_of_getElem? hz1))
          rw [e1] at hz5
          cases v2 with
          | int j tj =>
            obtain rfl : j = mom z := hz5
            k_steps
            exact TurnP.mk (by k_asm) (by k_asm) off ⟨by rw [take_succ hz1, List.map_append]; exact iaSnoc hys _ _, rfl⟩
          | _ => cases hz5
        rintro mx nw ⟨hmx, rfl⟩
        rw [List.take_length] at hmx
        unfold LCg.FinA
        intro md h17 tk17 F17 N17 o17
        dsimp only
        k_steps
        show wpAny _ _ _ _ _ _
        have hml : (vs.map mom).length = vs.length := List.length_map ..
        refine falls_call (below_caller _) F17 KX KT rfl (by decide +kernel) (by decide +kernel) hmx (by lia) N17 ?_
        intro fd fx fs h18 tk18 k18 hfx hFT F18 N18
        rw [hml] at hFT
        (try dsimp only)
        k_steps
        show wpAny _ _ _ _ _ _
        rename Fr _ _ _ _ => F19
        rename News _ _ _ _ => N19
        refine keeps_call (below_caller _) F19 KX KT rfl (by decide +kernel) (by decide +kernel) hmx hfx (by rw [hml]; exact hFT.1) (by lia) (swap2 N19) ?_
        intro ka kx rows h20 tk20 k20 hRows hrka F20 N20
        rw [hml] at hRows
        (try dsimp only)
        k_steps
        show wpAny _ _ _ _ _ _
        refine new_toks fun tk21 => ?_
        dsimp only
        rename Fr _ _ _ _ => F21
        rename News _ _ _ _ => N21
        refine shut fun X hX => ?_
        obtain ⟨R, hR6, hRM⟩ := falls_max hFT
        refine hX ?_
        clear hX X
        refine for_rangeK F21 (a := 1) (b := (R : Int) + 1) (by lia) (by lia) (by lia) (by lia) R (by lia) (fun i m led => m "words" = some (.ref wd) ∧ m "keeps" = some (.ref ka) ∧
          ∃ rw xs k, m "row" = some (.ref rw) ∧ Ws xs ((prow (fun p => (vs.map mom).getD p 0) vs.length i).map (fun p => vs.getD p 0)) ∧ led = (rw, listOf xs.toArray k) :: (wd, listOf wx.toArray wx.length) :: (ka, listOf kx.toArray k20) :: rows) rfl ?_ ?_ ?_ rfl rfl
        · k_steps
          show wpAny _ _ _ _ _ _
          rename Fr _ _ _ _ => F22
          rename News _ _ _ _ => N22
          have hfl := hfx.length
          have hfl2 := hFT.1
          refine add_lists_ints (vs := [.int 0 (tk21 + 1)]) (ws := fx) F22 N22 (N22.isList (.head _)) (N22.isList (.tail _ (.tail _ (.tail _ (.head _))))) (.cons _ _ .nil) hfx ?_ (hsz := by simp only [List.length_singleton]; rw [sizeLine_eq]; lia)
          intro h23 F23 N23 hi23
          (try dsimp only)
          k_steps
          show wpAny _ _ _ _ _ _
          refine max_list_N (by rfl) F23 N23 (N23.isList (.head _)) hi23 (Nat.zero_lt_succ _) ?_
          intro h24 M t24 tk24 F24 N24 hM1 hM2
          obtain rfl := hRM M hM1 hM2
          (try dsimp only)
          replace N24 := cb_drop (news := (wd, listOf wx.toArray wx.length) :: (wd, listOf wx.toArray wx.length) :: (ka, listOf kx.toArray k20) :: rows) N24 dropC
          k_steps
          exact RangeStart.mk (by assumption) (by k_asm) (by k_asm) ⟨rfl, rfl, wd, wx, _, rfl, (prow_zero vs _).symm ▸ hwx, rfl⟩
        · rintro i I oI TBq hTB m led h tk t hi hc ⟨j1, j2, rw, xs, k, j3, hxs, rfl⟩ off F N
          rw [show (1 : Int) + (i : Int) = ((i + 1 : Nat) : Int) by lia] at F
          have K0 := F.known0 (n := "row") ((if_neg (by decide)).trans (j3))
          have K1 := K0.known0 (n := "keeps") ((if_neg (by decide)).trans ((if_neg (by decide)).trans (j2)))
          have K2 := K1.known0 (n := "words") ((if_neg (by decide)).trans ((if_neg (by decide)).trans ((if_neg (by decide)).trans (j1))))
          clear F K0 K1
          have hrl := row_len hFT i
          k_steps
          show wpAny _ _ _ _ _ _
          refine mail_call (below_caller _) (by k_asm) KX KT rfl (by decide +kernel) (by decide +kernel) hxs (by lia) (by lia) (swap2 N) ?_
          intro ma2 ys2 h31 tk31 hy2 F31 N31
          (try dsimp only)
          k_steps
          show wpAny _ _ _ _ _ _
          refine round_call (below_caller _) F31 KX KT rfl (by decide +kernel) (by decide +kernel) hy2 (by lia) (fun z hz => hvz z (row_mem hFT z hz)) N31 ?_
          intro rb ys3 h32 tk32 k32 hy3 F32 N32
          rw [prow_map] at hy3
          have hne : @Ne Nat rb I := ri_ne N32 (.tail _ (.tail _ (.tail _ (.head _)))) (.head _) hc
          replace N32 := cb_drop (news := (I, oI) :: (rb, listOf ys3.toArray k32) :: (wd, listOf wx.toArray wx.length) :: (ka, listOf kx.toArray k20) :: rows) N32 dropD
          (try dsimp only)
          k_steps
          show wpAny _ _ _ _ _ _
          rename Fr _ _ _ _ => F33
          rename News _ _ _ _ => N33
          obtain ⟨g1, g2⟩ := prow_good hFT (i + 1)
          refine due_call (nw := wx.length) (nk := k20) (r := i + 1) (row := prow (fun p => (vs.map mom).getD p 0) vs.length (i + 1)) (rows := rows) (news := (I, oI) :: (rb, listOf ys3.toArray k32) :: (wd, listOf wx.toArray wx.length) :: (ka, listOf kx.toArray k20) :: rows) (below_caller _) F33 KX KT rfl (by decide +kernel) (by decide +kernel) hwx hRows (by lia)
            (fun j hj k hk v hv => keep_iff hFT (r := i + 1) (by lia) hj hv) (g1.nodup_iff.mpr List.nodup_range) (fun p hp => List.mem_range.mp (g1.mem_iff.mp hp)) (by rw [g1.length_eq, List.length_range]) (fun p hp => prow_at hFT (i + 1) hp)
            (cb_drop N33 dropE) ?_
          intro du ys4 h34 tk34 k34 hy4 F34 N34
          (try dsimp only)
          k_steps
          show wpAny _ _ _ _ _ _
          refine ne_same N34 (List.mem_cons_of_mem _ (List.mem_cons_of_mem _ (List.mem_cons_of_mem _ (List.mem_append_right _ (.tail _ (.head _)))))) (ws_dat (nw := []) hy3) (fun _ h => (nomatch h)) (.head _) (ws_dat (nw := []) hy4) (fun _ h => (nomatch h)) (wdat_ok (fun z hz => hvt z (row_mem hFT z hz))) (by ke_room) ?_
          (try dsimp only)
          replace N34 := cb_drop (news := (I, oI) :: (rb, listOf ys3.toArray k32) :: (wd, listOf wx.toArray wx.length) :: (ka, listOf kx.toArray k20) :: rows) N34 (fun p hp => .tail _ (.tail _ (.tail _ (List.mem_append_right _ hp))))
          k_steps
          exact hTB _ _ (TurnEnd.mk (by k_asm) (by k_asm) (fun p hp => by rcases List.mem_cons.mp hp with rfl | hp; exact hne; exact off p (.tail _ hp)) ⟨rfl, rfl, rb, ys3, _, rfl, hy3, rfl⟩)
        · intro m led h tk hJ0 F N
          refine shut fun X hX => ?_
          obtain ⟨j1, j2, rw, xs, k, j3, hxs, rfl⟩ := hJ0
          refine hX ?_
          clear hX X
          k_steps
  · rintro i ys nw v hi6 ⟨hys, rfl⟩ hv
    refine shut fun X hX => ?_
    obtain ⟨ta, z, t, v2, hz1, hz2, hz3, hz4, hz5⟩ := hT.2 i (by lia)
    refine hX ?_
    clear hX X
    rw [List.getElem?_toArray, hz3] at hv
    obtain rfl := Option.some.inj hv
    refine ⟨ta, _, .str (zt z) t, v2, _, rfl, .tail _ (List.mem_append_left _ hz4), rfl, rfl, ?_⟩
    intro I oI C oC D m₂ h tk E' hN hm hm₂ F N off ne
    k_steps
    exact TurnP.mk (by k_asm) (by k_asm) off ⟨ws_take hys hz1 hz2, rfl⟩
end Mine
end
open PySem PySem.W PyProof.Rows
namespace Mine
def hd.tw15153279154761372571 : Nat := 0
def hd.tw11389604556438737324 : Nat := 0
def hd.tw12109968657666201070 : Nat := 0
def hd.tw3650960628870763488 : Nat := 0
def hd.tw10478628107036179763 : Nat := 0
def hd.tw3039998526598829958 : Nat := 0
def hd.tw6580447716519360249 : Nat := 0
def hd.tw13353348626548451038 : Nat := 0
def hd.tw8674980644004459391 : Nat := 0
def hd.tw15613223032667037191 : Nat := 0
def hd.tw15298718440444336668 : Nat := 0
def hd.tw9210833815706959935 : Nat := 0
def hd.tw10424393626065333798 : Nat := 0
def hd.tw3452082135128663414 : Nat := 0
def hd.tw16733963527221155113 : Nat := 0
def hd.tw16064382804478563927 : Nat := 0
def hd.tw8244750085871347745 : Nat := 0
def hd.tw15529170255622000948 : Nat := 0
def hd.tw18343703819029505601 : Nat := 0
def hd.tw6598312636042714100 : Nat := 0
def hd.tw1673930711015175961 : Nat := 0
def hd.tw9641152695372364146 : Nat := 0
def hd.tw14353793391729792155 : Nat := 0
def hd.tw8112040973832200146 : Nat := 0
def hd.tw16868993833207775613 : Nat := 0
def hd.tw1439246655266547700 : Nat := 0
def hd.tw7762615721169606023 : Nat := 0
def hd.tw16904818350239718627 : Nat := 0
def hd.tw2101469004524951375 : Nat := 0
def hd.tw14530927132654537054 : Nat := 0
def hd.tw3646829019195819677 : Nat := 0
def hd.tw5343241284826551009 : Nat := 0
def hd.tw10957212852122400357 : Nat := 0
def hd.tw15616948245753086127 : Nat := 0
def hd.tw5781342201191254626 : Nat := 0
def hd.tw4086058157674990017 : Nat := 0
def hd.tw6819123309680001836 : Nat := 0
def hd.tw6060742912462422084 : Nat := 0
def hd.tw8716120427605611371 : Nat := 0
def hd.tw921402611603131450 : Nat := 0
def hd.tw11754176132448286083 : Nat := 0
def hd.tw1760603350576429475 : Nat := 0
def hd.tw12936449754285732098 : Nat := 0
def hd.tw12767517992797551901 : Nat := 0
def hd.tw15642763164714097627 : Nat := 0
def hd.tw13330244855972007585 : Nat := 0
def hd.tw12410138535482941034 : Nat := 0
def hd.tw1129884963351977449 : Nat := 0
def hd.tw6164396464334811476 : Nat := 0
def hd.tw2012604805713927918 : Nat := 0
def hd.tw7914949630228597729 : Nat := 0
def hd.tw16900609317406935518 : Nat := 0
def hd.tw6123773746684550334 : Nat := 0
def hd.tw4706079058837389440 : Nat := 0
def hd.tw1414735120719159333 : Nat := 0
def hd.tw14620637471214046174 : Nat := 0
def hd.tw17542962492245011380 : Nat := 0
def hd.tw7028611270464810887 : Nat := 0
def hd.tw5567388512258382067 : Nat := 0
def hd.tw4390796290334881974 : Nat := 0
def hd.tw9430268157657104642 : Nat := 0
def hd.tw12901994302517312135 : Nat := 0
def hd.tw11893437276241958245 : Nat := 0
def hd.tw6407587892757256292 : Nat := 0
def hd.tw12583169130044498743 : Nat := 0
def hd.tw7082855905992002993 : Nat := 0
def hd.tw16970440968685349367 : Nat := 0
def hd.tw6529220759360494435 : Nat := 0
def hd.tw1097998534492414930 : Nat := 0
def hd.tw13828106393651249627 : Nat := 0
def hd.tw4315991029959535628 : Nat := 0
def hd.tw18300207936620678264 : Nat := 0
def hd.tw14400467628812073631 : Nat := 0
def hd.tw2323474266016966308 : Nat := 0
set_option Elab.async true in
set_option maxRecDepth 100000 in
set_option maxHeartbeats 8000000 in
theorem hd : PySem.Challenge.rw_xe0013_01.Holds := by
  w_on; o_law
  o_head (kHook top.heap_1 objs objs_eq)
  (case hw => w_witness2)
  exact walk rfl
end Mine
theorem PySem.Challenge.cw_xe0013_01_holds : PySem.Challenge.rw_xe0013_01.Holds :=
  Mine.hd
