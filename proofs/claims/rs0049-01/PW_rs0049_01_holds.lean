import PyProof.Rows.All
import Wide.All
import OpenK.AllK
import Wide.FinOn
import Lean
import PySem.Challenge.RW_rs0049_01
set_option Elab.async false
section
open PySem PySem.W PyProof.Rows
set_option maxRecDepth 100000
set_option maxHeartbeats 8000000
namespace Mine
open_top hd for PySem.Challenge.rw_rs0049_01
end Mine
end
section
open PySem PySem.W PyProof.Rows
set_option maxRecDepth 100000
namespace Mine

/-- the pattern's words -/
def C4 : Array Nat := #[14, 8, 1, 2, 4294967295, 1, 1, 46, 0, 16, 46, 24, 9, 1, 4294967295, 13, 4, 8, 0, 0, 1, 6, 5, 1]

/-- no dot stands ahead of a figure -/
def NDD (T : Array Nat) : Prop := ∀ i, T.getD i 0 = 46 → Sre.isDigit (T.getD (i + 1) 0) = false

def fr4 (s : Nat) (om : Bool) : Sre.Frame := { wait := .nextStart, pc := 9, pos := s, outermost := om }
def st4 (T : Array Nat) (s : Nat) (om : Bool) (sn : Sre.Seen) : Sre.M :=
  { code := C4, text := T, lim := T.size, start := s, lastStart := T.size, pc := 9, pos := s, handed := s, outermost := om, marks := #[], frames := [fr4 s om], weight := 1, seen := sn }

theorem runFor_some {m : Sre.M} (h : m.outcome.isSome = true) : ∀ n, m.runFor n = m
  | 0 => rfl
  | n + 1 => by unfold Sre.M.runFor; rw [if_pos h]
theorem runFor_add (m : Sre.M) : ∀ a b, m.runFor (a + b) = (m.runFor a).runFor b := by
  intro a
  induction a generalizing m with
  | zero => intro b; rw [Nat.zero_add]; rfl
  | succ a ih =>
    intro b
    rw [Nat.add_right_comm]
    by_cases h : m.outcome.isSome = true
    · rw [runFor_some h, runFor_some h, runFor_some h]
    · show (if m.outcome.isSome = true then m else m.step.runFor (a + b)) = (if m.outcome.isSome = true then m else m.step.runFor a).runFor b
      rw [if_neg h, if_neg h]; exact ih m.step b

theorem runFor_next {m : Sre.M} (h : m.outcome = none) (n : Nat) : m.runFor (n + 1) = m.step.runFor n := by
  show (if m.outcome.isSome = true then m else m.step.runFor n) = _
  rw [h]; rfl

theorem step_end (T : Array Nat) (om : Bool) (sn : Sre.Seen) : ((st4 T T.size om sn).runFor 3).outcome = some .failed := by
  have e1 : (st4 T T.size om sn).step = ({ st4 T T.size om sn with seen := sn.add 16 } : Sre.M).say false := by
    show (if T.size ≥ T.size then _ else _) = _
    rw [if_pos (Nat.le_refl _)]; rfl
  have e2 : (({ st4 T T.size om sn with seen := sn.add 16 } : Sre.M).say false).step = (({ st4 T T.size om sn with seen := sn.add 16, frames := [], weight := 0 } : Sre.M).say false) := by
    show (if T.size < T.size then _ else _) = _
    rw [if_neg (Nat.lt_irrefl _)]; rfl
  rw [runFor_next rfl, e1, runFor_next rfl, e2, runFor_next rfl]
  rfl

theorem step_other (T : Array Nat) (s : Nat) (hs : s < T.size) (om : Bool) (sn : Sre.Seen) (hc : T.getD s 0 ≠ 46) : ∃ sn', (st4 T s om sn).runFor 2 = st4 T (s + 1) false sn' := by
  have e1 : (st4 T s om sn).step = ({ st4 T s om sn with seen := sn.add 16 } : Sre.M).say false := by
    show (if s ≥ T.size then _ else match (Except.ok (T.getD s 0 == 46, sn.add 16) : Except String (Bool × Sre.Seen)) with | .error why => _ | .ok (false, seen) => _ | .ok (true, seen) => _) = _
    rw [if_neg (Nat.not_le_of_lt hs), show (T.getD s 0 == 46) = false from beq_eq_false_iff_ne.mpr hc]
  have e2 : (({ st4 T s om sn with seen := sn.add 16 } : Sre.M).say false).step = st4 T (s + 1) false (sn.add 16) := by
    show (if s < T.size then _ else _) = _
    rw [if_pos hs]; rfl
  refine ⟨sn.add 16, ?_⟩
  rw [runFor_next rfl, e1, runFor_next rfl, e2]
  rfl

theorem acc4 (c : Nat) (sn : Sre.Seen) (h : Sre.isDigit c = false) : Sre.accepts C4 15 c sn = .ok (false, ((sn.add 8).add 55).add 0) := by
  have e : Sre.category 0 c = .ok false := by
    show Except.ok (Sre.isDigit c != false) = _
    rw [h]; rfl
  show (Sre.category 0 c >>= fun b => if b = true then _ else _) = _
  rw [e]; rfl
theorem run4 (T : Array Nat) (k p : Nat) (sn : Sre.Seen) (h : Sre.isDigit (T.getD p 0) = false) : Sre.run C4 T 15 (k + 1) p 0 sn = .ok (0, ((sn.add 8).add 55).add 0) := by
  show (Sre.accepts C4 15 (T.getD p 0) sn >>= fun x => if x.1 = true then _ else _) = _
  rw [acc4 _ _ h]; rfl
theorem step_dot (T : Array Nat) (s : Nat) (hs : s < T.size) (om : Bool) (sn : Sre.Seen) (hc : T.getD s 0 = 46) (hd : Sre.isDigit (T.getD (s + 1) 0) = false) : ∃ sn', (st4 T s om sn).runFor 3 = st4 T (s + 1) false sn' := by
  have e1 : (st4 T s om sn).step = ({ st4 T s om sn with seen := sn.add 16, pc := 11, pos := s + 1 } : Sre.M) := by
    show (if s ≥ T.size then _ else match (Except.ok (T.getD s 0 == 46, sn.add 16) : Except String (Bool × Sre.Seen)) with | .error why => _ | .ok (false, seen) => _ | .ok (true, seen) => _) = _
    rw [if_neg (Nat.not_le_of_lt hs), show (T.getD s 0 == 46) = true from beq_iff_eq.mpr hc]; rfl
  have e2 : ∃ sn', ({ st4 T s om sn with seen := sn.add 16, pc := 11, pos := s + 1 } : Sre.M).step = ({ st4 T s om sn with seen := sn', pc := 11, pos := s + 1 } : Sre.M).say false := by
    by_cases hr : ((1 : Nat) : Int) > (T.size : Int) - ((s + 1 : Nat) : Int)
    · refine ⟨(sn.add 16).add 24, ?_⟩
      show (if ((1 : Nat) : Int) > (T.size : Int) - ((s + 1 : Nat) : Int) then _ else _) = _
      rw [if_pos hr]; rfl
    · obtain ⟨k, hk⟩ : ∃ k, min 4294967295 ((T.size : Int) - ((s + 1 : Nat) : Int)).toNat = k + 1 := ⟨min 4294967295 ((T.size : Int) - ((s + 1 : Nat) : Int)).toNat - 1, by omega⟩
      refine ⟨(((((sn.add 16).add 24).add 13).add 8).add 55).add 0, ?_⟩
      show (if ((1 : Nat) : Int) > (T.size : Int) - ((s + 1 : Nat) : Int) then _ else
        match Sre.run C4 T 15 (min 4294967295 ((T.size : Int) - ((s + 1 : Nat) : Int)).toNat) (s + 1) 0 _ with | .error why => _ | .ok (n, seen) => _) = _
      rw [if_neg hr, hk]
      rw [run4 _ _ _ _ hd]
      rfl
  obtain ⟨sn', e2⟩ := e2
  have e3 : (({ st4 T s om sn with seen := sn', pc := 11, pos := s + 1 } : Sre.M).say false).step = st4 T (s + 1) false sn' := by
    show (if s < T.size then _ else _) = _
    rw [if_pos hs]; rfl
  refine ⟨sn', ?_⟩
  rw [runFor_next rfl, e1, runFor_next rfl, e2, runFor_next rfl, e3]
  rfl

theorem fails4 {T : Array Nat} (h : NDD T) : ∀ (k s : Nat), s + k = T.size → ∀ (om : Bool) (sn : Sre.Seen), ∃ n, n ≤ 3 * (k + 1) ∧ ((st4 T s om sn).runFor n).outcome = some .failed := by
  intro k
  induction k with
  | zero => intro s hs om sn; obtain rfl : s = T.size := by omega
            exact ⟨3, by omega, step_end T om sn⟩
  | succ k ih =>
    intro s hs om sn
    by_cases hc : T.getD s 0 = 46
    · obtain ⟨sn', e⟩ := step_dot T s (by omega) om sn hc (h s hc)
      obtain ⟨n, hn, hf⟩ := ih (s + 1) (by omega) false sn'
      exact ⟨3 + n, by omega, by rw [runFor_add, e]; exact hf⟩
    · obtain ⟨sn', e⟩ := step_other T s (by omega) om sn hc
      obtain ⟨n, hn, hf⟩ := ih (s + 1) (by omega) false sn'
      exact ⟨2 + n, by omega, by rw [runFor_add, e]; exact hf⟩

theorem search4 {T : Array Nat} (h : NDD T) : ∃ n, n ≤ 3 * (T.size + 1) ∧ ((Sre.forSearch C4 T 0 0 T.size false).runFor n).outcome = some .failed := by
  by_cases hl : T.size - 0 < 2
  · refine ⟨1, by omega, ?_⟩
    have e : Sre.forSearch C4 T 0 0 T.size false = ({ st4 T 0 true (({} : Sre.Seen).add 14) with frames := [], weight := 0, lastStart := 0 } : Sre.M).say false := by
      show (if (decide (0 > T.size) || decide (T.size - 0 < 2)) = true then _ else _) = _
      rw [if_pos (by rw [decide_eq_true hl, Bool.or_true])]
      rfl
    rw [e]; rfl
  · have e : Sre.forSearch C4 T 0 0 T.size false = st4 T 0 true (({} : Sre.Seen).add 14) := by
      show (if (decide (0 > T.size) || decide (T.size - 0 < 2)) = true then _ else _) = _
      rw [if_neg (by rw [decide_eq_false hl, decide_eq_false (by omega)]; decide)]
      rfl
    rw [e]
    exact fails4 h T.size 0 (by omega) _ _
end Mine
end
section
open PySem PySem.W PyProof.Rows PySem.F PySem.Spec PySem.Calls
set_option maxRecDepth 100000
namespace Mine
theorem attrs_pat : PlainAttrs "re.Pattern" :=
  ⟨⟨"object.__getattribute__", by rw [typeLookup_type, builtinLookup_eq_fast]; kernel_rfl, by decide +kernel⟩, by rw [typeLookup_type, builtinLookup_eq_fast]; kernel_rfl⟩
theorem slot_search : Slot "re.Pattern" "search" "re.Pattern.search" :=
  .of (owner := "re.Pattern") (n := "search") (by rw [typeLookup_type, builtinLookup_eq_fast]; kernel_rfl) (by decide +kernel) (by decide +kernel) (by decide +kernel)
    (by first | exact .inl (by decide +kernel) | exact .inr (by decide +kernel)) (by rw [isSubtype_type]; kernel_rfl)
theorem type_search : typeOf (.builtin "re.Pattern.search") = pure (.type "method_descriptor") := by show builtinType _ = _; rw [builtinType_eq_fast]; kernel_rfl
theorem entry_search : entryFor table "re.Pattern.search" = some Builtin.«re.Pattern.search» := entryFor_of_tree (by kernel_rfl)
theorem owner_pat : Manifest.owners.lookup (String.ofList ['n', 'r', 'e', 't', 't', 'a', 'P', '.', 'e', 'r'].reverse) = some Manifest.sig_re_Pattern := by kernel_rfl
theorem args_search (a b : Value) : argsOk "re.Pattern.search" ⟨[a, b], []⟩ := by
  unfold argsOk; rw [signature?_of (id := "re.Pattern.search") (n := ['h', 'c', 'r', 'a', 'e', 's']) (o := ['n', 'r', 'e', 't', 't', 'a', 'P', '.', 'e', 'r']) (by kernel_rfl) owner_pat]; kernel_rfl
/-- the pattern as it lies -/
def patObj (v0 v1 : Value) : Obj := { cls := .type "re.Pattern", data := .fields #[v0, v1, .int 0 0, .none, .none, .ref 35, .int 0 0] }
def codeObj : Obj := { cls := .type "tuple", data := .seq (#[.int 14 0, .int 8 0, .int 1 0, .int 2 0, .int 4294967295 0, .int 1 0, .int 1 0, .int 46 0, .int 0 0, .int 16 0, .int 46 0, .int 24 0, .int 9 0, .int 1 0, .int 4294967295 0, .int 13 0, .int 4 0, .int 8 0, .int 0 0, .int 0 0, .int 1 0, .int 6 0, .int 5 0, .int 1 0]) }
section
variable {prog : Program} {w : World} {A : Around} {E : Value → Shared → Prop} {s : Shared}
theorem drive4 {Q : Sre.M → Shared → Prop} (h : ∀ m', m'.outcome = some .failed → Q m' s) : ∀ (k : Nat) (m : Sre.M), (∃ n, n ≤ 4 * k ∧ (m.runFor n).outcome = some .failed) → wpAny (model prog w) A (Builtin.Re.reDrive (k + 1) m) Q E s := by
  intro k
  induction k with
  | zero =>
    rintro m ⟨n, hn, hf⟩
    obtain rfl : n = 0 := by omega
    have e : m.runFor 4 = m := runFor_some (by rw [show m.outcome = some .failed from hf]; rfl) 4
    show wpAny _ A (if (m.runFor 4).outcome.isSome = true then pure (m.runFor 4) else _) Q E s
    rw [e, if_pos (by rw [show m.outcome = some .failed from hf]; rfl)]
    exact wpAny_pure (h _ hf)
  | succ k ih =>
    rintro m ⟨n, hn, hf⟩
    show wpAny _ A (if (m.runFor 4).outcome.isSome = true then pure (m.runFor 4) else (do rule "sre.turn"; Builtin.Re.reDrive (k + 1) (m.runFor 4))) Q E s
    by_cases hs : (m.runFor 4).outcome.isSome = true
    · rw [if_pos hs]
      refine wpAny_pure (h _ ?_)
      by_cases h4 : n ≤ 4
      · have : (m.runFor n).runFor (4 - n) = m.runFor 4 := by rw [← runFor_add]; congr 1; omega
        rw [← this, runFor_some (by rw [hf]; rfl)]; exact hf
      · have : m.runFor n = (m.runFor 4).runFor (n - 4) := by rw [← runFor_add]; congr 1; omega
        rw [this, runFor_some hs] at hf; exact hf
    · rw [if_neg hs]
      refine wpAny_bind (wpAny_rule (ih _ ?_))
      by_cases h4 : n ≤ 4
      · exfalso
        have : (m.runFor n).runFor (4 - n) = m.runFor 4 := by rw [← runFor_add]; congr 1; omega
        rw [← this, runFor_some (by rw [hf]; rfl), hf] at hs
        exact hs rfl
      · exact ⟨n - 4, by omega, by rw [← runFor_add]; rw [show 4 + (n - 4) = n by omega]; exact hf⟩
theorem rules4 {Q : Unit → Shared → Prop} (m : Sre.M) (h : Q () s) : ∀ l : List Nat, wpAny (model prog w) A (forIn (m := Sem) l PUnit.unit fun i _ => (if m.seen.has i = true then (do rule (Sre.names.getD i ""); pure (ForInStep.yield PUnit.unit)) else pure (ForInStep.yield PUnit.unit))) Q E s := by
  intro l
  induction l with
  | nil => exact wpAny_pure h
  | cons i l ih =>
    rw [List.forIn_cons]
    refine wpAny_bind ?_
    by_cases hc : m.seen.has i = true
    · rw [if_pos hc]; exact wpAny_bind (wpAny_rule (wpAny_pure ih))
    · rw [if_neg hc]; exact wpAny_pure ih
theorem toEnd4 {T : Array Nat} {Q : Option Sre.M → Shared → Prop} (hT : NDD T) (hl : T.size ≤ sizeLine) (h : Q none s) : wpAny (model prog w) A (Builtin.Re.reRunToEnd (Sre.forSearch C4 T 0 0 T.size false)) Q E s := by
  unfold Builtin.Re.reRunToEnd
  refine wpAny_bind ?_
  obtain ⟨n, hn, hf⟩ := search4 hT
  have e : (2 : Nat) ^ 64 = 18446744073709551615 + 1 := by decide
  rw [e]
  refine drive4 (fun m' hm => ?_) _ _ ⟨n, by unfold sizeLine at hl; omega, hf⟩
  refine wpAny_bind ?_
  refine rules4 m' ?_ _
  rw [hm]
  exact wpAny_pure h
theorem named4 (v : Value) : Builtin.Re.reNamed "re.Pattern.search" "search" ["string", "pos", "endpos"] 1 [v] [] = pure [some v, none, none] := rfl
theorem raw4 : ((#[.int 14 0, .int 8 0, .int 1 0, .int 2 0, .int 4294967295 0, .int 1 0, .int 1 0, .int 46 0, .int 0 0, .int 16 0, .int 46 0, .int 24 0, .int 9 0, .int 1 0, .int 4294967295 0, .int 13 0, .int 4 0, .int 8 0, .int 0 0, .int 0 0, .int 1 0, .int 6 0, .int 5 0, .int 1 0] : Array Value).map Builtin.Re.reRawOf).map (·.toNat) = C4 := by decide +kernel
theorem body4 {v0 v1 : Value} {x : Str} {t : Tok} {Q : Fin → Shared → Prop} (h36 : s.heap.get? 36 = some (patObj v0 v1)) (h35 : s.heap.get? 35 = some codeObj) (hT : NDD x.cps) (hl : x.cps.size ≤ sizeLine) (h : Q (.done (.ret .none)) s) :
    wpAny (model prog w) A (Builtin.«re.Pattern.search» ⟨[.ref 36, .str x t], []⟩) Q E s := by
  unfold Builtin.«re.Pattern.search» Builtin.Re.reTarget
  refine wpAny_bind ?_
  refine wpAny_bind (wpAny_of_eq (named4 _) ?_)
  refine wpAny_bind (wpAny_pure (wpAny_bind (wpAny_pure ?_)))
  refine wpAny_bind (wpAny_fieldsOf h36 rfl ?_)
  refine wpAny_bind (wpAny_bind (wpAny_of_eq (a := some x) rfl ?_))
  refine wpAny_pure ?_
  refine wpAny_bind (wpAny_pure ?_)
  refine wpAny_bind (wpAny_bind (wpAny_seqItems h35 rfl (wpAny_pure ?_)))
  refine wpAny_pure ?_
  have hc : min (((2 : Int) ^ 63 - 1).toNat) x.cps.size = x.cps.size := by unfold sizeLine at hl; omega
  dsimp only [Option.getD_some]
  rw [raw4, hc, show min ((0 : Int).toNat) x.cps.size = 0 by omega, show Builtin.Re.reRawNat ((#[v0, v1, Value.int 0 0, Value.none, Value.none, Value.ref 35, Value.int 0 0] : Array Value).getD 2 Value.none) = 0 from rfl]
  unfold Builtin.Re.reAnswer
  exact wpAny_bind (toEnd4 hT hl (wpAny_pure h))
theorem call4 {v0 v1 : Value} {x : Str} {t : Tok} {Q : Value → Shared → Prop} (h36 : s.heap.get? 36 = some (patObj v0 v1)) (h35 : s.heap.get? 35 = some codeObj) (hT : NDD x.cps) (hl : x.cps.size ≤ sizeLine) (h : Q .none s) :
    wpAny (model prog w) A (call (.builtin "re.Pattern.search") [.ref 36, .str x t]) Q E s :=
  wpAny_call (codeAny_call_builtin slot_search.plain entry_search (slot_search.check _ _ _ _ _ _ _ _ ⟨_, h36, rfl⟩ (args_search _ _) (body4 h36 h35 hT hl h)))
end
end Mine
end
section
open PySem PySem.W PyProof.Rows PySem.F PySem.Spec PySem.Calls
set_option maxRecDepth 100000
namespace Mine
def upA (c : Nat) : Nat := if 97 ≤ c ∧ c ≤ 122 then c - 32 else c
def loA (c : Nat) : Nat := if 65 ≤ c ∧ c ≤ 90 then c + 32 else c
theorem upperOf_A {c : Nat} (h : c < 128) : Unicode.upperOf c = [upA c] := (by decide +kernel : ∀ c, c < 128 → Unicode.upperOf c = [upA c]) c h
theorem lowerOf_A {c : Nat} (h : c < 128) : Unicode.lowerOf c = [loA c] := (by decide +kernel : ∀ c, c < 128 → Unicode.lowerOf c = [loA c]) c h
theorem flat_one (f : Nat → Nat) : ∀ l : List Nat, (l.map fun c => [f c]).flatten = l.map f
  | [] => rfl
  | c :: l => by rw [List.map_cons, List.flatten_cons, flat_one f l]; rfl
theorem placed_list (x : Str) (f : Nat → Nat → List Nat) (g : Nat → Nat) (h : ∀ i c, x.cps[i]? = some c → f i c = [g c]) : placed x f = x.cps.map g := by
  have e : x.cps.mapIdx (fun i c => (f i c).toArray) = x.cps.map (fun c => #[g c]) := by
    apply Array.ext
    · simp
    · intro i h1 h2
      simp only [Array.getElem_mapIdx, Array.getElem_map]
      rw [h i _ (Array.getElem?_eq_getElem (by simpa using h1))]
  unfold placed
  rw [e]
  apply Array.ext'
  rw [Array.toList_flatten, Array.toList_map, List.map_map, Array.toList_map]
  exact flat_one g _
def Ascii (x : Str) : Prop := ∀ c ∈ x.cps.toList, c < 128
theorem Ascii.at {x : Str} (h : Ascii x) {i c : Nat} (e : x.cps[i]? = some c) : c < 128 := h c (by rw [← Array.getElem?_toList] at e; exact List.mem_of_getElem? e)
theorem upper_ascii {x : Str} (h : Ascii x) : Txt.upper x = ⟨x.cps.map upA⟩ := congrArg Str.mk (placed_list x _ upA fun _ _ e => upperOf_A (h.at e))
theorem lower_ascii {x : Str} (h : Ascii x) : Txt.lower x = ⟨x.cps.map loA⟩ := congrArg Str.mk (placed_list x _ loA fun i c e => by
  unfold Unicode.lowerAt
  rw [e]
  have hc := h.at e
  show (if (c == 0x3A3 && Unicode.endsWord x.cps i) = true then _ else _) = _
  rw [if_neg (by rw [show (c == 0x3A3) = false from beq_eq_false_iff_ne.mpr (by omega)]; exact Bool.false_ne_true)]
  exact lowerOf_A hc)
/-- small letters, figures, dots -/
def Low (x : Str) : Prop := ∀ c ∈ x.cps.toList, c < 128 ∧ ¬ (65 ≤ c ∧ c ≤ 90)
theorem Low.ascii {x : Str} (h : Low x) : Ascii x := fun c hc => (h c hc).1
theorem map_id_on (f : Nat → Nat) (a : Array Nat) (h : ∀ c ∈ a.toList, f c = c) : a.map f = a := by
  apply Array.ext'
  rw [Array.toList_map]
  exact (List.map_congr_left (g := id) h).trans (List.map_id _)
theorem lower_low {x : Str} (h : Low x) : Txt.lower x = x := by
  rw [lower_ascii h.ascii]
  show Str.mk _ = Str.mk x.cps
  rw [map_id_on loA x.cps fun c hc => by unfold loA; rw [if_neg (h c hc).2]]
theorem lower_upper {x : Str} (h : Low x) : Txt.lower (Txt.upper x) = x := by
  rw [upper_ascii h.ascii, lower_ascii (x := ⟨x.cps.map upA⟩)]
  · show Str.mk ((x.cps.map upA).map loA) = Str.mk x.cps
    rw [Array.map_map, map_id_on (loA ∘ upA) x.cps fun c hc => by
      have := h c hc
      show loA (upA c) = c
      unfold loA upA
      split
      · rw [if_pos (by omega)]; omega
      · rw [if_neg (by omega)]]
  · intro c hc
    rw [show (Str.mk (x.cps.map upA)).cps.toList = x.cps.toList.map upA from Array.toList_map] at hc
    obtain ⟨d, hd, rfl⟩ := List.mem_map.mp hc
    have := h d hd
    unfold upA
    split <;> omega
theorem slice_cps {x : Str} {i : Int} (h0 : 0 ≤ i) : (Txt.slice x (some i) none).cps.toList = x.cps.toList.drop i.toNat := by
  by_cases h2 : i ≤ x.length
  · rw [slice_from_eq h0 h2 rfl]
    show (x.cps.toList.drop i.toNat).take ((x.length : Int) - i).toNat = _
    refine List.take_of_length_le ?_
    rw [List.length_drop, Array.length_toList]
    show x.length - _ ≤ _
    omega
  · rw [slice_beyond (by omega)]
    show [] = _
    rw [List.drop_eq_nil_of_le (by rw [Array.length_toList]; show x.length ≤ _; omega)]
theorem Low.slice {x : Str} {i : Int} (h : Low x) (h0 : 0 ≤ i) : Low (Txt.slice x (some i) none) := fun c hc => by
  rw [slice_cps h0] at hc
  exact h c (List.mem_of_mem_drop hc)
theorem ndd_iff {T : Array Nat} : NDD T ↔ ∀ i, T.toList.getD i 0 = 46 → Sre.isDigit (T.toList.getD (i + 1) 0) = false := by
  have e : ∀ i, T.getD i 0 = T.toList.getD i 0 := fun i => by
    rw [Array.getD_eq_getD_getElem?, List.getD_eq_getElem?_getD, Array.getElem?_toList]
  unfold NDD
  simp only [e]
theorem ndd_slice {x : Str} {i : Int} (h : NDD x.cps) (h0 : 0 ≤ i) : NDD (Txt.slice x (some i) none).cps := by
  rw [ndd_iff] at h ⊢
  rw [slice_cps h0]
  intro k hk
  have e : ∀ k, (x.cps.toList.drop i.toNat).getD k 0 = x.cps.toList.getD (i.toNat + k) 0 := fun k => by
    rw [List.getD_eq_getElem?_getD, List.getD_eq_getElem?_getD, List.getElem?_drop]
  rw [e] at hk ⊢
  exact h _ hk
theorem len_slice {x : Str} {i : Int} : (Txt.slice x (some i) none).length ≤ x.length := PyProof.Txt.length_slice_le x _ _
end Mine
end
section
open PySem PySem.W PyProof.Rows PySem.F PySem.Spec PySem.Calls
set_option maxRecDepth 100000
namespace Mine
def isHdnF (x : Str) : Bool := if (x == Str.ofString "") = true then false else if (Txt.item x 0 == Str.ofString ".") = true then false else if (Txt.item x (-1) == Str.ofString ".") = true then false else true

def udmF (x y : Str) : Bool := if Txt.startswith y (Str.ofString ".") = true then Txt.endswith x y else x == y
def reachF (x : Str) : Str :=
  if 0 ≤ Txt.find x (Str.ofString ".") then
    if isHdnF x = true then
      if 0 ≤ Txt.find (Txt.slice x (some (Txt.find x (Str.ofString ".") + 1)) none) (Str.ofString ".") then Str.ofString "." ++ Txt.slice x (some (Txt.find x (Str.ofString ".") + 1)) none
      else if (Txt.slice x (some (Txt.find x (Str.ofString ".") + 1)) none == Str.ofString "local") = true then Str.ofString "." ++ Txt.slice x (some (Txt.find x (Str.ofString ".") + 1)) none
      else x
    else x
  else x
def lawInF (x : Str) (i : Int) (y : Str) : Bool := if i.fmod 2 = 0 then udmF x y else udmF x y != udmF x (Txt.slice y (some 1) none)
def tl (x : Str) : List Nat := x.cps.toList
theorem tl_inj {x y : Str} (h : tl x = tl y) : x = y := Str.ext' (Array.toList_inj.mp h)
theorem tl_len (x : Str) : (tl x).length = x.length := Array.length_toList
theorem tl_append (x y : Str) : tl (x ++ y) = tl x ++ tl y := by
  show (x.cps ++ y.cps).toList = _
  rw [Array.toList_append]; rfl
theorem tl_dot : tl (Str.ofString ".") = [46] := by decide +kernel
theorem dot_len : (Str.ofString ".").length = 1 := by decide +kernel
theorem tl_slice {x : Str} {i : Int} (h : 0 ≤ i) : tl (Txt.slice x (some i) none) = (tl x).drop i.toNat := slice_cps h
theorem at_dot {x : Str} {i : Nat} : StrLaws.At x (Str.ofString ".") x.length i ↔ (tl x)[i]? = some 46 := by
  unfold StrLaws.At
  rw [StrLaws.subAt_eq, dot_len]
  show i + 1 ≤ x.length ∧ (((tl x).drop i).take 1 == tl (Str.ofString ".")) = true ↔ _
  rw [tl_dot, beq_iff_eq, ← tl_len]
  constructor
  · rintro ⟨h1, h2⟩
    have : ((tl x).drop i)[0]? = some 46 := by
      have e : (((tl x).drop i).take 1)[0]? = some 46 := by rw [h2]; rfl
      rw [List.getElem?_take] at e
      simpa using e
    rw [List.getElem?_drop] at this
    simpa using this
  · intro h
    have hlt : i < (tl x).length := by
      rcases Nat.lt_or_ge i (tl x).length with q | q
      · exact q
      · rw [List.getElem?_eq_none q] at h; cases h
    refine ⟨hlt, ?_⟩
    rw [List.drop_eq_getElem_cons hlt]
    have e : (tl x)[i] = 46 := by
      rw [List.getElem?_eq_getElem hlt] at h; exact Option.some.inj h
    rw [e]; rfl
/-- where the first dot stands -/
theorem find_dot (x : Str) : (Txt.find x (Str.ofString ".") = -1 ∧ 46 ∉ tl x) ∨ ∃ pre post, tl x = pre ++ 46 :: post ∧ 46 ∉ pre ∧ Txt.find x (Str.ofString ".") = (pre.length : Int) := by
  rcases find_whole x (Str.ofString ".") with ⟨h1, h2⟩ | ⟨i, h1, h2, h3⟩
  · refine .inl ⟨h1, fun hm => ?_⟩
    obtain ⟨i, hi, e⟩ := List.mem_iff_getElem.mp hm
    exact h2 i (at_dot.mpr (by rw [List.getElem?_eq_getElem hi, e]))
  · have e := at_dot.mp h2
    have hlt : i < (tl x).length := by
      rcases Nat.lt_or_ge i (tl x).length with q | q
      · exact q
      · rw [List.getElem?_eq_none q] at e; cases e
    have ei : (tl x)[i] = 46 := by
      rw [List.getElem?_eq_getElem hlt] at e; exact Option.some.inj e
    refine .inr ⟨(tl x).take i, (tl x).drop (i + 1), ?_, fun hm => ?_, ?_⟩
    · conv => lhs; rw [← List.take_append_drop i (tl x), List.drop_eq_getElem_cons hlt, ei]
    · obtain ⟨k, hk, ek⟩ := List.mem_iff_getElem.mp hm
      have hk' : k < i := by rw [List.length_take] at hk; omega
      refine h3 k hk' (at_dot.mpr ?_)
      rw [List.getElem_take] at ek
      rw [List.getElem?_eq_getElem (by omega), ek]
    · rw [h1, List.length_take, Nat.min_eq_left (Nat.le_of_lt hlt)]
theorem starts_dot (x : Str) : Txt.startswith x (Str.ofString ".") = true ↔ ∃ r, tl x = 46 :: r := by
  unfold Txt.startswith
  rw [StrLaws.subAt_eq, dot_len]
  show (decide (0 + 1 ≤ x.length) && (((tl x).drop 0).take 1 == tl (Str.ofString "."))) = true ↔ _
  rw [tl_dot, ← tl_len, List.drop_zero]
  cases h : tl x with
  | nil => simp
  | cons a r =>
    simp
theorem ends_iff (x y : Str) : Txt.endswith x y = true ↔ tl y <:+ tl x := by
  unfold Txt.endswith
  rw [StrLaws.subAt_eq]
  show (decide (0 + y.length ≤ x.length) && (((tl x).drop (x.length - y.length)).take y.length == tl y)) = true ↔ _
  rw [← tl_len, ← tl_len, Bool.and_eq_true, decide_eq_true_eq, beq_iff_eq]
  constructor
  · rintro ⟨h1, h2⟩
    have : ((tl x).drop ((tl x).length - (tl y).length)).take (tl y).length = (tl x).drop ((tl x).length - (tl y).length) := List.take_of_length_le (by rw [List.length_drop]; omega)
    rw [this] at h2
    rw [← h2]; exact List.drop_suffix _ _
  · intro h
    have hl := h.length_le
    refine ⟨by omega, ?_⟩
    rw [List.suffix_iff_eq_drop.mp h]
    have e : (List.drop ((tl x).length - (tl y).length) (tl x)).length = (tl y).length := by rw [List.length_drop]; omega
    rw [e]
    exact List.take_of_length_le (by omega)
theorem eq_dot (x : Str) : (x == Str.ofString ".") = true ↔ tl x = [46] := by
  rw [beq_iff_eq]
  constructor
  · rintro rfl; exact tl_dot
  · intro h; exact tl_inj (h.trans tl_dot.symm)
theorem eq_empty (x : Str) : (x == Str.ofString "") = true ↔ tl x = [] := by
  rw [beq_iff_eq]
  have : tl (Str.ofString "") = [] := by decide +kernel
  constructor
  · rintro rfl; exact this
  · intro h; exact tl_inj (h.trans this.symm)
theorem drop_low {x y : Str} {k : Nat} (e : tl y = (tl x).drop k) (h : Low x) : Low y := fun c hc => h c (List.mem_of_mem_drop (show c ∈ (tl x).drop k from e ▸ hc))
theorem drop_ndd {x y : Str} {k : Nat} (e : tl y = (tl x).drop k) (h : NDD x.cps) : NDD y.cps := by
  rw [ndd_iff] at h ⊢
  have e' : y.cps.toList = x.cps.toList.drop k := e
  rw [e']
  intro i hi
  have q : ∀ i, (x.cps.toList.drop k).getD i 0 = x.cps.toList.getD (k + i) 0 := fun i => by
    rw [List.getD_eq_getElem?_getD, List.getD_eq_getElem?_getD, List.getElem?_drop]
  rw [q] at hi ⊢
  exact h _ hi
theorem drop_len {x y : Str} {k : Nat} (e : tl y = (tl x).drop k) : y.length ≤ x.length := by
  rw [← tl_len, ← tl_len, e, List.length_drop]; omega
end Mine
end
section
open PySem PySem.W PyProof.Rows PySem.F PySem.Spec PySem.Calls
set_option maxRecDepth 100000
namespace Mine
/-- reach hands back an end of its text -/
theorem reach_drop (x : Str) : ∃ k, tl (reachF x) = (tl x).drop k := by
  have same : ∃ k, tl x = (tl x).drop k := ⟨0, rfl⟩
  rcases find_dot x with ⟨h1, _⟩ | ⟨pre, post, e, _, h1⟩
  · unfold reachF
    rw [h1, if_neg (by decide)]
    exact same
  · have key : tl (Str.ofString "." ++ Txt.slice x (some (Txt.find x (Str.ofString ".") + 1)) none) = (tl x).drop pre.length := by
      rw [tl_append, tl_dot, tl_slice (by omega), h1, e]
      have q : ((pre.length : Int) + 1).toNat = pre.length + 1 := by omega
      rw [q, List.drop_length_add_append]
      simp
    unfold reachF
    split
    · split
      · split
        · exact ⟨_, key⟩
        · split
          · exact ⟨_, key⟩
          · exact same
      · exact same
    · exact same
/-- the while loop of the family, by fuel -/
def chainF : Nat → Str → List Str → Str × List Str
  | 0, d, D => (d, D)
  | n + 1, d, D => if (Txt.startswith d (Str.ofString ".") && !(D.any (· == d))) = true then chainF n (reachF (Txt.slice d (some 1) none)) (D ++ [d]) else (d, D)
theorem next_len {d : Str} (h : Txt.startswith d (Str.ofString ".") = true) : (reachF (Txt.slice d (some 1) none)).length + 1 ≤ d.length := by
  obtain ⟨k, e⟩ := reach_drop (Txt.slice d (some 1) none)
  have h1 := drop_len e
  obtain ⟨r, hr⟩ := (starts_dot d).mp h
  have h2 : (Txt.slice d (some 1) none).length = r.length := by
    rw [← tl_len, tl_slice (by decide), hr]; rfl
  have h3 : d.length = r.length + 1 := by rw [← tl_len, hr]; rfl
  omega
theorem chain_fuel : ∀ (n k : Nat) (d : Str) (D : List Str), d.length < n → d.length < k → chainF n d D = chainF k d D := by
  intro n
  induction n with
  | zero => intro k d D h; omega
  | succ n ih =>
    intro k d D h hk
    cases k with
    | zero => omega
    | succ k =>
      unfold chainF
      split
      · rename_i hc
        have hs : Txt.startswith d (Str.ofString ".") = true := (Bool.and_eq_true_iff.mp hc).1
        have := next_len hs
        exact ih k _ _ (by omega) (by omega)
      · rfl
/-- a text that the law builds -/
structure Good (x : Str) : Prop where
  low : Low x
  ndd : NDD x.cps
  len : x.length ≤ 100
theorem Good.drop {x y : Str} {k : Nat} (g : Good x) (e : tl y = (tl x).drop k) : Good y := ⟨drop_low e g.low, drop_ndd e g.ndd, Nat.le_trans (drop_len e) g.len⟩
theorem Good.reach {x : Str} (g : Good x) : Good (reachF x) := let ⟨_, e⟩ := reach_drop x; g.drop e
theorem Good.next {d : Str} (g : Good d) : Good (reachF (Txt.slice d (some 1) none)) := Good.reach (g.drop (k := 1) (tl_slice (by decide)))
theorem chain_good : ∀ (n : Nat) (d : Str) (D : List Str), Good d → (∀ e ∈ D, Good e) → ∀ e ∈ (chainF n d D).2, Good e
  | 0, _, _, _, h => h
  | n + 1, d, D, g, h => by
    unfold chainF
    split
    · refine chain_good n _ _ g.next fun e he => ?_
      rcases List.mem_append.mp he with he | he
      · exact h e he
      · rw [List.mem_singleton.mp he]; exact g
    · exact h
/-- the domains of the hosts so far -/
def domsF (D : List Str) (x : Str) : List Str := (chainF 301 (reachF x) D).2
theorem doms_good : ∀ (xs : List Str) (D : List Str), (∀ x ∈ xs, Good x) → (∀ e ∈ D, Good e) → ∀ e ∈ xs.foldl domsF D, Good e
  | [], _, _, h => h
  | x :: xs, D, g, h => doms_good xs _ (fun y hy => g y (.tail _ hy)) (chain_good _ _ _ (g x (.head _)).reach h)
/-- the group of a domain: the machines that are in it -/
def bitF (b : Bool) (k : Int) : Int := if b then k else 0
def maskF (x0 x1 x2 x3 d : Str) : Int := bitF (lawInF x0 0 d) 1 + bitF (lawInF x1 1 d) 2 + bitF (lawInF x2 2 d) 4 + bitF (lawInF x3 3 d) 8
/-- one more number, each once -/
def onceF (G : List Int) (g : Int) : List Int := if (G.any (· == g)) = true then G else G ++ [g]
end Mine
end
section
open PySem PySem.W PyProof.Rows PySem.F PySem.Spec PySem.Calls
set_option maxRecDepth 100000
namespace Mine
theorem any_eq_iff {G : List Int} {g : Int} : (G.any (· == g)) = true ↔ g ∈ G := by
  rw [List.any_eq_true]
  constructor
  · rintro ⟨x, hx, e⟩; rw [← beq_iff_eq.mp e]; exact hx
  · intro h; exact ⟨g, h, beq_self_eq_true g⟩
theorem once_mem {G : List Int} {g x : Int} : x ∈ onceF G g ↔ x ∈ G ∨ x = g := by
  unfold onceF
  split
  · rename_i h
    constructor
    · exact .inl
    · rintro (h' | rfl)
      · exact h'
      · exact any_eq_iff.mp h
  · rw [List.mem_append, List.mem_singleton]
theorem once_nodup {G : List Int} {g : Int} (h : G.Nodup) : (onceF G g).Nodup := by
  unfold onceF
  split
  · exact h
  · rename_i hn
    rw [List.nodup_append]
    refine ⟨h, by simp, fun a ha b hb e => ?_⟩
    rw [List.mem_singleton.mp hb] at e
    exact hn (any_eq_iff.mpr (e ▸ ha))
theorem onces_mem {x : Int} : ∀ (l G : List Int), x ∈ l.foldl onceF G ↔ x ∈ G ∨ x ∈ l
  | [], G => by simp
  | g :: l, G => by rw [List.foldl_cons, onces_mem l, once_mem, List.mem_cons, or_assoc]
theorem onces_nodup : ∀ (l G : List Int), G.Nodup → (l.foldl onceF G).Nodup
  | [], _, h => h
  | g :: l, G, h => onces_nodup l _ (once_nodup h)
theorem nodup_same {a : Int} : ∀ {l : List Int}, l.Nodup → (∀ x ∈ l, x = a) → l.length ≤ 1
  | [], _, _ => by simp
  | [x], _, _ => by simp
  | x :: y :: r, h, e => by
    exfalso
    have h1 := e x (.head _)
    have h2 := e y (.tail _ (.head _))
    exact (List.nodup_cons.mp h).1 (by rw [h1, ← h2]; exact .head _)
theorem len_split (p : Int → Bool) : ∀ l : List Int, l.length = (l.filter p).length + (l.filter fun x => !p x).length
  | [] => rfl
  | x :: l => by
    rw [List.filter_cons, List.filter_cons, List.length_cons, len_split p l]
    cases p x <;> simp <;> omega
theorem nodup_bound : ∀ (n : Nat) (l : List Int), l.Nodup → (∀ x ∈ l, 0 ≤ x ∧ x < n) → l.length ≤ n
  | 0, l, _, h => by
    cases l with
    | nil => simp
    | cons x r => have := h x (.head _); omega
  | n + 1, l, hd, h => by
    have e := len_split (fun x => x == (n : Int)) l
    have h1 : (l.filter fun x => x == (n : Int)).length ≤ 1 := nodup_same (a := (n : Int)) (List.Pairwise.filter _ hd) fun x hx => beq_iff_eq.mp (List.mem_filter.mp hx).2
    have h2 := nodup_bound n (l.filter fun x => !(x == (n : Int))) (List.Pairwise.filter _ hd) fun x hx => by
      obtain ⟨hx, hne⟩ := List.mem_filter.mp hx
      have := h x hx
      have hne' : x ≠ (n : Int) := by simpa using hne
      omega
    omega
theorem mask_bound (x0 x1 x2 x3 d : Str) : 0 ≤ maskF x0 x1 x2 x3 d ∧ maskF x0 x1 x2 x3 d < (16 : Nat) := by
  unfold maskF bitF
  cases lawInF x0 0 d <;> cases lawInF x1 1 d <;> cases lawInF x2 2 d <;> cases lawInF x3 3 d <;> decide
/-- the groups of four hosts, each once, as they come -/
def groupsF (x0 x1 x2 x3 : Str) : List Int := (([x0, x1, x2, x3].foldl domsF []).map (maskF x0 x1 x2 x3)).foldl onceF []
theorem groups_nodup (x0 x1 x2 x3 : Str) : (groupsF x0 x1 x2 x3).Nodup := onces_nodup _ _ .nil
theorem groups_bound {x0 x1 x2 x3 : Str} : ∀ g ∈ groupsF x0 x1 x2 x3, 0 ≤ g ∧ g < (16 : Nat) := by
  intro g hg
  rcases (onces_mem _ _).mp hg with h | h
  · cases h
  · obtain ⟨d, _, rfl⟩ := List.mem_map.mp h
    exact mask_bound x0 x1 x2 x3 d
theorem groups_len (x0 x1 x2 x3 : Str) : (groupsF x0 x1 x2 x3).length ≤ 16 := nodup_bound 16 _ (groups_nodup ..) groups_bound
/-- a list is another one, sorted -/
def SortOf (a b : List Int) : Prop := a.Perm b ∧ a.Pairwise (· ≤ ·)
end Mine
end
section
open PySem PySem.W PyProof.Rows PySem.F PySem.Spec PySem.Calls
set_option maxRecDepth 100000
namespace Mine
/-- bools in order: false ahead of true -/
abbrev boolKind : PyProof.Rows.KeyKind where
  α := Bool
  blt a b := !a && b
  irrefl a := by cases a <;> rfl
  trans a b c h1 h2 := by revert h1 h2; cases a <;> cases b <;> cases c <;> decide
  negTrans a b c h := by revert h; cases a <;> cases b <;> cases c <;> decide
  total a b h1 h2 := by revert h1 h2; cases a <;> cases b <;> decide
  keyOf v := match v with | .bool b => some b | _ => none
  dflt := false
theorem oneLt_bool {prog : Program} {w : World} {A : Around} {E : Value → Shared → Prop} {s : Shared} {a b : Bool} {Q : Bool → Shared → Prop} (h : Q (!a && b) s) : wpAny (model prog w) A (oneLt' true (.bool a) (.bool b)) Q E s := by
  rw [oneLt'_eq]
  simp only [if_true]
  refine wpAny_bind (wpAny_cRoomFor_byValue rfl ?_)
  refine wpAny_bind (wpAny_callSpecialIfBound?_slot (T := "bool") rfl F.slot_bool_lt ?_)
  refine wpAny_call_entry F.slot_bool_lt rfl F.entry_int_lt ?_ (F.args_int_lt_2 _ _)
  have e : Builtin.«int.__lt__» ⟨[.bool a, .bool b], []⟩ = ret (.bool (!a && b)) := by cases a <;> cases b <;> rfl
  rw [e]
  exact wpAny_pure ⟨_, rfl, wpAny_truthy_bool h⟩
theorem boolKind_oneLt : boolKind.OneLt := by
  intro prog w A E s x y a b Q ha hb h
  cases x <;> simp only [reduceCtorEq, Option.some.injEq] at ha
  cases y <;> simp only [reduceCtorEq, Option.some.injEq] at hb
  cases ha; cases hb
  exact oneLt_bool h
def boolOf : Value → Bool
  | .bool b => b
  | _ => false
abbrev bools (bs : List Bool) : List Value := bs.map .bool
theorem bools_all {bs : List Bool} {v : Value} (h : v ∈ bools bs) : ∃ b, v = .bool b := by
  obtain ⟨b, _, rfl⟩ := List.mem_map.mp h; exact ⟨b, rfl⟩
theorem bools_keys (bs : List Bool) : PyProof.Rows.KeysOf boolKind (pairsOf (bools bs)) := by
  intro p hp
  rw [pairsOf_toList] at hp
  obtain ⟨b, e⟩ := bools_all (mem_zip_self hp).2
  exact ⟨b, by rw [e]⟩
theorem mapM_first_bools : ∀ bs : List Bool, (bools bs).mapM firstOfTuple' = pure ((bools bs).map fun _ => none)
  | [] => by simp
  | b :: bs => by
    show (Value.bool b :: bools bs).mapM firstOfTuple' = _
    rw [List.mapM_cons, mapM_first_bools bs]
    show (pure none >>= fun x => pure _ >>= fun xs => pure (x :: xs)) = _
    simp
theorem mapM_type_bools : ∀ bs : List Bool, (bools bs).mapM typeOf = pure ((bools bs).map fun _ => Value.type "bool")
  | [] => by simp
  | b :: bs => by
    show (Value.bool b :: bools bs).mapM typeOf = _
    rw [List.mapM_cons, mapM_type_bools bs]
    show (pure (Value.type "bool") >>= fun x => pure _ >>= fun xs => pure (x :: xs)) = _
    simp
theorem keyKind_bools {v₁ v₂ : Value} {vs : List Value} {bs : List Bool} (hS : bools bs = v₁ :: v₂ :: vs) : keyKind' (v₁ :: v₂ :: vs).toArray = pure oneType' := by
  have h1 := mapM_first_bools bs
  have h2 := mapM_type_bools bs
  rw [hS] at h1 h2
  rw [keyKind'_eq, List.mapM_toArray, h1]
  simp only [map_pure, pure_bind]
  rw [if_neg (by simp), if_neg (by simp)]
  rw [oneTypeOnly'_eq, List.mapM_toArray, h2]
  simp only [map_pure, pure_bind]
  have hall : ((List.map (fun _ => Value.type "bool") (v₁ :: v₂ :: vs)).toArray.all fun x => x == Value.type "bool") = true := by
    simp only [List.all_toArray, List.all_map, List.all_eq_true]
    intro _ _
    rfl
  have h0 : (List.map (fun _ => Value.type "bool") (v₁ :: v₂ :: vs)).toArray[0]? = some (Value.type "bool") := by simp
  rw [h0]
  simp only [hall, if_true, pure_bind, Option.isSome_some]
theorem bools_back : ∀ vs : List Value, (∀ v ∈ vs, ∃ b, v = .bool b) → vs = bools (vs.map boolOf)
  | [], _ => rfl
  | v :: vs, h => by
    obtain ⟨b, rfl⟩ := h v (.head _)
    show _ = Value.bool b :: bools (vs.map boolOf)
    rw [← bools_back vs fun u hu => h u (.tail _ hu)]
theorem sorted_out_bools {bs : List Bool} {xs : Array Keyed} (hp : xs.Perm (pairsOf (bools bs))) (hs : SortedToK boolKind xs (pairsOf (bools bs)).size) :
    ∃ bs', (xs.map (·.2)).toList = bools bs' ∧ bs'.Perm bs ∧ bs'.Pairwise (fun a b => a = true → b = true) := by
  have hl : xs.toList.Perm ((bools bs).zip (bools bs)) := by rw [← pairsOf_toList]; exact Array.perm_iff_toList_perm.mp hp
  have hmem : ∀ p, p ∈ xs.toList → p.1 = p.2 ∧ p.1 ∈ bools bs := fun p hp' => mem_zip_self (hl.mem_iff.mp hp')
  refine ⟨xs.toList.map (fun p => boolOf p.1), ?_, ?_, ?_⟩
  · have e : (xs.map (·.2)).toList = xs.toList.map (·.1) := by
      rw [Array.toList_map]; exact List.map_congr_left fun p hp' => (hmem p hp').1.symm
    rw [e]
    have h1 := bools_back (xs.toList.map (·.1)) (by
      intro v hv
      obtain ⟨p, hp', rfl⟩ := List.mem_map.mp hv
      exact bools_all (hmem p hp').2)
    rwa [List.map_map] at h1
  · have h1 := hl.map (fun p => boolOf p.1)
    have e2 : ((bools bs).zip (bools bs)).map (fun p => boolOf p.1) = bs := by
      have : ((bools bs).zip (bools bs)).map (fun p => boolOf p.1) = (((bools bs).zip (bools bs)).map Prod.fst).map boolOf := by rw [List.map_map]; rfl
      rw [this, List.map_fst_zip (Nat.le_refl _), List.map_map]
      exact List.map_id bs
    rwa [e2] at h1
  · rw [List.pairwise_iff_getElem]
    intro i j hi hj hij
    have hi' : i < xs.size := by simpa using hi
    have hj' : j < xs.size := by simpa using hj
    have h1 := hs i j (Nat.le_of_lt hij) (by rw [← hp.size_eq]; exact hj')
    obtain ⟨x, ex⟩ := bools_all (hmem xs[i] (by simp)).2
    obtain ⟨y, ey⟩ := bools_all (hmem xs[j] (by simp)).2
    have k1 : KK boolKind xs i = x := by unfold KK; rw [getElem?_pos xs i hi', show xs[i] = (.bool x, xs[i].2) from Prod.ext ex rfl]; rfl
    have k2 : KK boolKind xs j = y := by unfold KK; rw [getElem?_pos xs j hj', show xs[j] = (.bool y, xs[j].2) from Prod.ext ey rfl]; rfl
    rw [k1, k2] at h1
    change (!y && x) = false at h1
    simp only [List.getElem_map, Array.getElem_toList]
    rw [ex, ey]
    show x = true → y = true
    revert h1; cases x <;> cases y <;> decide
theorem sorted_bools {prog : Program} {w : World} {A : Around} {E : Value → Shared → Prop} {s : Shared} {h₀ : Heap} {L l : Addr} {m : Str → Option Value} {news : List (Addr × Obj)} {bs : List Bool} {Q : Value → Shared → Prop}
    (F : Fr h₀ L s.heap m) (N : News h₀ L s.heap news) (hl : s.heap.IsList l (bools bs).toArray) (h64 : bs.length < 64)
    (h : ∀ D bs' c h', Fr h₀ L h' m → News h₀ L h' ((D, W.listOf (bools bs').toArray c) :: news) → (∀ q ∈ news, q.1 < D) → bs'.Perm bs → bs'.Pairwise (fun a b => a = true → b = true) → Q (.ref D) { s with heap := h' }) :
    wpAny (model prog w) A (call (.builtin "sorted") [.ref l]) Q E s := by
  refine sortedK boolKind_oneLt hl (bools_keys bs) (fun v₁ v₂ rest e => keyKind_bools e) (by rw [List.length_map]; exact h64) fun st' hp hs => ?_
  obtain ⟨bs', h1, h2, h3⟩ := sorted_out_bools hp hs
  obtain ⟨e, he⟩ := sortedAll_at s.heap (bools bs) ((arrOf st').map (·.2))
  have he' : (sortedAll s.heap (bools bs) ((arrOf st').map (·.2))).get? (s.heap.objs.size + 1) = some (W.listOf (bools bs').toArray e) := by
    rw [he, ← h1]
  exact h _ bs' e _ (F.kept fun _ _ => sortedAll_old) (N.kept_cons F (fun _ _ => sortedAll_old) (Nat.le_succ _) he') (fun p hp => Nat.lt_succ_of_lt (Heap.lt_size (N p hp).1)) h2 h3
/-- the one of five, and of four, that stands in the middle, the lower one -/
theorem mid5 {a b c d e : Bool} {bs' : List Bool} (h : bs'.Perm [a, b, c, d, e]) (o : bs'.Pairwise (fun a b => a = true → b = true)) : ∃ p q r s t, bs' = [p, q, r, s, t] ∧ r = decide (3 ≤ [a, b, c, d, e].count true) := by
  have hl := h.length_eq
  have hc := h.count_eq true
  match bs', hl with
  | [p, q, r, s, t], _ =>
    refine ⟨p, q, r, s, t, rfl, ?_⟩
    rw [← hc]
    simp only [List.pairwise_cons, List.mem_cons, List.not_mem_nil, or_false, forall_eq_or_imp, forall_eq] at o
    obtain ⟨⟨h1, h2, h3, h4⟩, ⟨h5, h6, h7⟩, ⟨h8, h9⟩, _⟩ := o
    revert h1 h2 h3 h4 h5 h6 h7 h8 h9
    clear hc h
    cases p <;> cases q <;> cases r <;> cases s <;> cases t <;> decide
theorem mid4 {a b c d : Bool} {bs' : List Bool} (h : bs'.Perm [a, b, c, d]) (o : bs'.Pairwise (fun a b => a = true → b = true)) : ∃ p q r s, bs' = [p, q, r, s] ∧ q = decide (3 ≤ [a, b, c, d].count true) := by
  have hl := h.length_eq
  have hc := h.count_eq true
  match bs', hl with
  | [p, q, r, s], _ =>
    refine ⟨p, q, r, s, rfl, ?_⟩
    rw [← hc]
    simp only [List.pairwise_cons, List.mem_cons, List.not_mem_nil, or_false, forall_eq_or_imp, forall_eq] at o
    obtain ⟨⟨h1, h2, h3⟩, ⟨h5, h6⟩, h8, _⟩ := o
    revert h1 h2 h3 h5 h6 h8
    clear hc h
    cases p <;> cases q <;> cases r <;> cases s <;> decide
end Mine
end
section
open PySem PySem.W PyProof.Rows PySem.Calls PySem.Spec
set_option maxRecDepth 100000
set_option maxHeartbeats 8000000
namespace Mine
noncomputable abbrev P := PySem.Challenge.pw_rs0049_01
noncomputable abbrev V := Mine.hd.view_39
noncomputable abbrev LS := looseW V [Str.ofString "IPV4_RE"]
noncomputable abbrev HK (w : World) : Frag := Mine.hd.heap_39 w.params

theorem pat_at {w : World} {h : Heap} (X : (Mine.hd.heap_39 w.params).In h) : h.get? 36 = some (patObj (.str (Str.ofString "\\.\\d+$") 285) (.int 256 312)) := X 36 _ rfl
theorem code_at {w : World} {h : Heap} (X : (Mine.hd.heap_39 w.params).In h) : h.get? 35 = some codeObj := X 35 _ rfl

section
variable {prog : Program} {w : World} {A : Around} {E : Value → Shared → Prop} {s : Shared} {h₀ : Heap} {L : Addr} {m : Str → Option Value}
theorem getm4 {pl : Sem Bool} {Q : Value × List Value → Shared → Prop} (F : Fr h₀ L s.heap m) (X : (Mine.hd.heap_39 w.params).In h₀) (h : Q (.builtin "re.Pattern.search", [.ref 36]) s) :
    wpAny (model prog w) A (getMethod (.ref 36) (Str.ofString "search") pl) Q E s :=
  getMethod_builtin ⟨_, pat_at (X.keeps F.keep), rfl⟩ attrs_pat slot_search type_search (fun a e => by cases e; exact ⟨_, pat_at (X.keeps F.keep), rfl⟩) h
theorem callK4 {x : Str} {t : Tok} {Q : Value → Shared → Prop} (F : Fr h₀ L s.heap m) (X : (Mine.hd.heap_39 w.params).In h₀) (hT : NDD x.cps) (hl : x.cps.size ≤ sizeLine) (h : Q .none s) :
    wpAny (model prog w) A (call (.builtin "re.Pattern.search") [.ref 36, .str x t]) Q E s := call4 (pat_at (X.keeps F.keep)) (code_at (X.keeps F.keep)) hT hl h
end
/-- the caller's side of a call -/
abbrev Tell (w : World) (f : Addr) (d : Nat) (vs : List Value) (pre : Prop) (R : Tok → Value) : Prop :=
  ∀ (mean : ExcName → Option Value) (mg mb : Str → Option Value) (dp un : Nat) (gd : Option (List Code)) (cn : Str) (cs : Scope) (a : Addr) (ccd : Value) (cl : List (Str × Addr)) (outer : List Env) (A₀ : Around) (base h₀ : Heap) (L : Addr) (m : Str → Option Value) (news : List (Addr × Obj)) (s : Shared) (Q E : Value → Shared → Prop),
    Below A₀ base outer h₀ → Fr h₀ L s.heap m → (Mine.hd.heap_39 w.params).In h₀ → News h₀ L s.heap news → Top V LS mean mg mb h₀ → cs.kind = .function →
    pre → dp + d < recursionLimit → un + 8 * d < cLine →
    (∀ (t : Tok) (h' : Heap) (tk' : Nat), Fr h₀ L h' m → News h₀ L h' news → Q (R t) { s with heap := h', toks := tk' }) →
      wpAny (model P w) (ktrTop dp un gd cn cs L a ccd cl outer) (call (.ref f) vs) Q E s

end Mine
end
section
open PySem PySem.W PyProof.Rows PySem.Calls PySem.Spec
set_option maxRecDepth 100000
set_option maxHeartbeats 8000000
namespace Mine
local macro_rules | `(tactic| walk_at "getMethod ref") => `(tactic| (k_here; (with_reducible show wpAny _ _ (getMethod (Value.ref 36) _ _) _ _ _); refine' getm4 ?k1 ?k2 ?_; (case k1 => k_asm); (case k2 => k_asm); k_whole))
local macro_rules | `(tactic| walk_at "call builtin:re.Pattern.search") => `(tactic| (k_here; refine' callK4 ?k1 ?k2 ?k3 ?k4 ?_; (case k1 => k_asm); (case k2 => k_asm); (case k3 => with_reducible assumption); (case k4 => (show PySem.Str.length _ ≤ _; unfold sizeLine; omega)); k_whole))


local macro_rules | `(tactic| walk_at "MYENTER") => `(tactic| (refine wpAny_call ?_; k_dflt cell_enter; k_steps))
local macro_rules | `(tactic| walk_at "MYENDB") => `(tactic| (refine cb_retB (by assumption) ?_ (by assumption) (by assumption)))

theorem is_hdn (w : World) (x : Str) (t : Tok) : Tell w 43 2 [.str x t] (NDD x.cps ∧ x.length ≤ 3000) (fun _ => .bool (isHdnF x)) := by
  rintro mean mg mb dp un gd cn cs a ccd cl outer A₀ base h₀ L m news s Q E B F X N T hk ⟨hp, hl⟩ hd hu hret
  walk_at "MYENTER"
  all_goals (refine cb_retB hret ?_ (by assumption) (by assumption); simp only [isHdnF, *]; rfl)
theorem liberal (w : World) (x : Str) (t : Tok) : Tell w 50 2 [.str x t] (NDD x.cps ∧ x.length ≤ 3000) (fun _ => .bool true) := by
  rintro mean mg mb dp un gd cn cs a ccd cl outer A₀ base h₀ L m news s Q E B F X N T hk ⟨hp, hl⟩ hd hu hret
  walk_at "MYENTER"
  all_goals (refine cb_retB hret rfl (by assumption) (by assumption))
local macro_rules | `(tactic| walk_at "call ref") => `(tactic| (k_here; (with_reducible show wpAny _ _ (call (Value.ref 50) [Value.str _ _]) _ _ _); k_dflt (refine' liberal _ _ _ _ _ _ _ _ _ _ _ _ _ _ _ _ _ _ _ _ _ _ _ _ ?k1 ?k2 ?k3 ?k4 ?k5 ?kK ?kp ?kd ?ku ?_; (case k1 => k_asm); (case k2 => k_asm); (case k3 => k_asm); (case k4 => k_asm); (case k5 => k_asm); (case kK => first | exact rfl | assumption); (case kp => first | with_reducible assumption | (refine ⟨by with_reducible assumption, by omega⟩)); (case kd => ktr_room); (case ku => ktr_units); k_whole; intro t9 h9 tk9 F9 N9; (try dsimp only); (try k_fold))))
theorem udm (w : World) (x y : Str) (t u : Tok) : Tell w 57 4 [.str x t, .str y u] (NDD (Txt.lower x).cps ∧ NDD (Txt.lower y).cps ∧ x.length ≤ 1000 ∧ y.length ≤ 1000) (fun _ => .bool (udmF (Txt.lower x) (Txt.lower y))) := by
  rintro mean mg mb dp un gd cn cs a ccd cl outer A₀ base h₀ L m news s Q E B F X N T hk ⟨hx, hy, lx, ly⟩ hd hu hret
  walk_at "MYENTER"
  all_goals (refine cb_retB hret ?_ (by assumption) (by assumption); simp only [udmF, *]; rfl)
local macro_rules | `(tactic| walk_at "call ref") => `(tactic| (k_here; (with_reducible show wpAny _ _ (call (Value.ref 43) [Value.str _ _]) _ _ _); k_dflt (refine' is_hdn _ _ _ _ _ _ _ _ _ _ _ _ _ _ _ _ _ _ _ _ _ _ _ _ ?k1 ?k2 ?k3 ?k4 ?k5 ?kK ?kp ?kd ?ku ?_; (case k1 => k_asm); (case k2 => k_asm); (case k3 => k_asm); (case k4 => k_asm); (case k5 => k_asm); (case kK => first | exact rfl | assumption); (case kp => first | with_reducible assumption | (refine ⟨by with_reducible assumption, by omega⟩)); (case kd => ktr_room); (case ku => ktr_units); k_whole; intro t9 h9 tk9 F9 N9; (try dsimp only); (try k_fold))))
theorem reach (w : World) (x : Str) (t : Tok) : Tell w 64 4 [.str x t] (NDD x.cps ∧ x.length ≤ 1000) (fun t => .str (reachF x) t) := by
  rintro mean mg mb dp un gd cn cs a ccd cl outer A₀ base h₀ L m news s Q E B F X N T hk ⟨hx, lx⟩ hd hu hret
  walk_at "MYENTER"
  all_goals (refine cb_retS hret ?_ (by assumption) (by assumption); simp only [reachF, if_true, if_false, Bool.false_eq_true, *])
theorem udm' (w : World) {x y x₀ y₀ : Str} {t u : Tok} (ex : Txt.lower x = x₀) (ey : Txt.lower y = y₀) : Tell w 57 4 [.str x t, .str y u] (NDD x₀.cps ∧ NDD y₀.cps ∧ x.length ≤ 1000 ∧ y.length ≤ 1000) (fun _ => .bool (udmF x₀ y₀)) := by
  subst ex ey
  exact udm w x y t u
local macro_rules | `(tactic| walk_at "call ref") => `(tactic| (k_here; (with_reducible show wpAny _ _ (call (Value.ref 57) [Value.str _ _, Value.str _ _]) _ _ _); k_dflt (refine' udm' _ ?kx ?ky _ _ _ _ _ _ _ _ _ _ _ _ _ _ _ _ _ _ _ _ _ ?k1 ?k2 ?k3 ?k4 ?k5 ?kK ?kp ?kd ?ku ?_; (case kx => first | with_reducible exact lower_upper (by with_reducible assumption) | with_reducible exact lower_low (by with_reducible assumption)); (case ky => first | with_reducible exact lower_upper (by with_reducible assumption) | with_reducible exact lower_low (by with_reducible assumption) | exact lower_low (Low.slice (by with_reducible assumption) (by decide))); (case k1 => k_asm); (case k2 => k_asm); (case k3 => k_asm); (case k4 => k_asm); (case k5 => k_asm); (case kK => first | exact rfl | assumption); (case kp => refine ⟨by with_reducible assumption, by first | with_reducible assumption | exact ndd_slice (by with_reducible assumption) (by decide), by omega, by omega⟩); (case kd => ktr_room); (case ku => ktr_units); k_whole; intro t9 h9 tk9 F9 N9; (try dsimp only); (try k_fold))))
theorem law_in (w : World) (x y : Str) (i : Int) (t u v : Tok) : Tell w 91 6 [.str x t, .int i u, .str y v] (Low x ∧ Low y ∧ NDD x.cps ∧ NDD y.cps ∧ x.length ≤ 300 ∧ y.length ≤ 300) (fun _ => .bool (lawInF x i y)) := by
  rintro mean mg mb dp un gd cn cs a ccd cl outer A₀ base h₀ L m news s Q E B F X N T hk ⟨lox, loy, hx, hy, lx, ly⟩ hd hu hret
  walk_at "MYENTER"
  · refine cb_retB hret ?_ (by assumption) (by assumption)
    unfold lawInF
    rw [if_pos (show i.fmod 2 = 0 by assumption)]
    cases udmF x y <;> rfl
  · refine cb_retB hret ?_ (by assumption) (by assumption)
    unfold lawInF
    rw [if_neg (show ¬ i.fmod 2 = 0 by assumption)]
end Mine
end
section
open PySem PySem.W PyProof.Rows PySem.Calls PySem.Spec
set_option maxRecDepth 100000
set_option maxHeartbeats 8000000
namespace Mine
section
variable {prog : Program} {w : World} {A₀ A : Around} {s : Shared} {base h₀ : Heap} {outer : List Env} {L : Addr} {m mg mb : Str → Option Value} {env : Env} {K : Frag} {p : Program} {loose : List Str} {mean : ExcName → Option Value}
  {R : Result → Shared → Prop} {name qual : Str} {params : Arguments} {body : List Stmt} {scope : Scope} {dV kV doc pm cdv ct oc : Value} {an od : Option Addr} {osl : Array (Option Value)} {f : Addr} {args : Args} {binds : List (Str × Value)}
/-- a def without cells is entered; all that lies stays -/
theorem pure_def (B : Below A₀ base outer h₀) (F : Fr h₀ L s.heap m) (X₀ : K.In h₀) (T : Top p loose mean mg mb h₀) (hA : A.frames = some (env :: outer)) (hf : env.frame = some L) (hke : env.scope.kind = .function)
    (ho : K.lookup f = some ⟨oc, od, .func (fnOf name qual params body scope dV kV doc pm an cdv ct), osl⟩) (hcd : codeIn K cdv qual = true) (hroom : A.depth < recursionLimit)
    (hbind : BindsTo s (fnOf name qual params body scope dV kV doc pm an cdv ct) args binds) (hloc : ∀ y ∈ binds, scope.names.lookup y.1 = some .local)
    (h : ∀ L' h₁, Fr s.heap L' h₁ (fun y => binds.reverse.lookup y) → News s.heap L' h₁ [] → Below A base (env :: outer) s.heap → K.In s.heap → Top p loose mean mg mb s.heap →
      wpAny (model prog w) (A.deeper (envOf qual scope L' f cdv)) (execs body (envOf qual scope L' f cdv))
        (fun fl s' => LeaveK h₀ L m s.heap R (match fl with | .ret v => v | _ => .none) s')
        (fun e s' => wpAny (model prog w) (A.deeper (envOf qual scope L' f cdv)) (leaving (envOf qual scope L' f cdv) e) (fun _ s'' => R (.error e) s'') (fun e' s'' => R (.error e') s'') s')
        { s with heap := h₁, toks := s.toks + binds.length })
    (hco : scope.isCoroutine = false) (hgen : scope.isGenerator = false) (hk : scope.kind = .function) (hcell : ∀ x ∈ scope.names, x.2 ≠ .cell) : codeAny (model prog w) A (.call (.ref f) args) R s := by
  obtain ⟨_, BG, _, lv⟩ := groundX (R := R) (news := []) B F News.nil hA hf hke
  have X := X₀.keeps F.keep
  refine codeAny_call_def (fd := fnX name qual params body scope [] dV kV doc pm an cdv ct) (body := body) (binds := binds) hroom (X _ _ ho) rfl (T.nolimit.keeps F.keep) (codeRec_of X hcd) rfl hbind hcell hloc (fun h₁ hns hk₁ => ?_) hco hgen hk
  exact wpAny_mono (h s.heap.objs.size h₁ ⟨hns, hk₁, Nat.le_refl _⟩ News.nil BG X (T.keeps F.keep)) (fun fl s' hl => lv _ _ hl) fun _ _ y => y
/-- the same with cells -/
theorem pure_defC (B : Below A₀ base outer h₀) (F : Fr h₀ L s.heap m) (X₀ : K.In h₀) (T : Top p loose mean mg mb h₀) (hA : A.frames = some (env :: outer)) (hf : env.frame = some L) (hke : env.scope.kind = .function)
    (ho : K.lookup f = some ⟨oc, od, .func (fnOf name qual params body scope dV kV doc pm an cdv ct), osl⟩) (hcd : codeIn K cdv qual = true) (hroom : A.depth < recursionLimit)
    (hbind : BindsTo s (fnOf name qual params body scope dV kV doc pm an cdv ct) args binds) (hkind : (binds.all fun y => scope.names.lookup y.1 == some .local || scope.names.lookup y.1 == some .cell) = true)
    (hnd : ((cellsFrom 0 scope.names []).map (·.1)).Nodup)
    (h : ∀ L' h₁ tk cells, Fr s.heap L' h₁ (bindL (envOfC qual scope L' f cdv).kindOf binds fun _ => none) → News s.heap L' h₁ cells →
      CellsAre (bindC (envOfC qual scope L' f cdv).kindOf binds fun _ => none) (cellsFrom (L' + 1) scope.names []) cells → Below A base (env :: outer) s.heap → K.In s.heap → Top p loose mean mg mb s.heap →
      wpAny (model prog w) (A.deeper (envOfC qual scope L' f cdv)) (execs body (envOfC qual scope L' f cdv))
        (fun fl s' => LeaveK h₀ L m s.heap R (match fl with | .ret v => v | _ => .none) s')
        (fun e s' => wpAny (model prog w) (A.deeper (envOfC qual scope L' f cdv)) (leaving (envOfC qual scope L' f cdv) e) (fun _ s'' => R (.error e) s'') (fun e' s'' => R (.error e') s'') s')
        { s with heap := h₁, toks := tk })
    (hco : scope.isCoroutine = false) (hgen : scope.isGenerator = false) (hk : scope.kind = .function) : codeAny (model prog w) A (.call (.ref f) args) R s := by
  obtain ⟨_, BG, _, lv⟩ := groundX (R := R) (news := []) B F News.nil hA hf hke
  have X := X₀.keeps F.keep
  refine codeAny_call_function hroom (X _ _ ho) (fd := fnX name qual params body scope [] dV kV doc pm an cdv ct) rfl hco hgen rfl (codeRec_of X hcd) (hbind _ _ _ _ ?_)
  refine wpAny_newFunctionEnv_cells hk (kindsX hkind _) fun env' he s' x => ?_
  subst he
  refine ⟨(T.nolimit.keeps F.keep).keeps x.toInCall.keep, codeAny_func ?_⟩
  obtain ⟨h₁, tk, rfl, _⟩ := x.done
  obtain ⟨cells, NC, Y⟩ := Cl.news (h₀ := s.heap) (Nat.le_refl _) fun n c hm => ⟨x.cell n c (lookup_of_mem_nodup (cellsFrom_names scope.names 0 (s.heap.objs.size + 1) [] [] rfl ▸ hnd) hm), x.above n c hm⟩
  exact wpAny_mono (h s.heap.objs.size h₁ tk cells ⟨x.toInCall.ns, x.toInCall.keep, Nat.le_refl _⟩ NC Y BG X (T.keeps F.keep)) (fun fl s' hl => lv _ _ hl) fun _ _ y => y
theorem news_keep {h h' : Heap} {news : List (Addr × Obj)} (N : News h₀ L h news) (k : ∀ b o, h.get? b = some o → h'.get? b = some o) : News h₀ L h' news :=
  fun p hp => ⟨k _ _ (N p hp).1, (N p hp).2⟩
theorem news_ne {h h' : Heap} {L' : Addr} {news : List (Addr × Obj)} {a : Addr} {o : Obj} (N : News h₀ L h news) {news' : List (Addr × Obj)} (N' : News h L' h' news') (hm : (a, o) ∈ news') : ∀ p ∈ news, p.1 ≠ a := fun p hp e => by
  have h1 := (N p hp).1
  have h2 := (N' _ hm).2.2
  rw [e] at h1
  rw [show h.get? a = none from h2] at h1
  cases h1
theorem news_lt {h h' : Heap} {L' D : Addr} {m' : Str → Option Value} {news : List (Addr × Obj)} (N : News h₀ L h news) (F' : Fr h L' h' m') (hlt : @LT.lt Nat _ L' D) : ∀ p ∈ news, @LT.lt Nat _ p.1 D := fun p hp =>
  Nat.lt_trans (Nat.lt_of_lt_of_le (Heap.lt_size (N p hp).1) F'.above) hlt
theorem news_cons {h h' : Heap} {L' : Addr} {news news' : List (Addr × Obj)} {a : Addr} {o : Obj} {m' : Str → Option Value} (F : Fr h₀ L h m) (N : News h₀ L h news) (F' : Fr h L' h' m') (N' : News h L' h' news') (hm : (a, o) ∈ news') : News h₀ L h' ((a, o) :: news) := by
  intro p hp
  rcases List.mem_cons.mp hp with rfl | hp
  · refine ⟨(N' _ hm).1, fun e => ?_, ?_⟩
    · obtain ⟨oL, _, _, hL, _⟩ := F.ns
      have h2 : h.get? a = none := (N' _ hm).2.2
      rw [show a = L from e, hL] at h2; cases h2
    · cases q : h₀.get? a with
      | none => rfl
      | some o' => have h2 : h.get? a = none := (N' _ hm).2.2; rw [F.keep _ _ q] at h2; cases h2
  · exact ⟨F'.keep _ _ (N p hp).1, (N p hp).2⟩
end
end Mine
end
section
open PySem PySem.W PyProof.Rows PySem.Calls PySem.Spec
set_option maxRecDepth 100000
set_option maxHeartbeats 8000000
namespace Mine
section
variable {prog : Program} {w : World} {A : Around} {E : Value → Shared → Prop} {s : Shared} {env : Env} {h₀ : Heap} {target : Expr} {body : List Stmt} {Q : Flow → Shared → Prop}
/-- a turn's end: the iterator stands, the state is the next one's -/
def TurnEnd (h₀ : Heap) (L : Addr) (I : Addr) (it : Obj) (J : (Str → Option Value) → List (Addr × Obj) → Prop) (s s₂ : Shared) : Prop :=
  ∃ h' tk m' news', s₂ = { s with heap := h', toks := tk } ∧ Fr h₀ L h' m' ∧ News h₀ L h' ((I, it) :: news') ∧ (∀ p ∈ news', p.1 ≠ I) ∧ J m' news'
def TurnPost (h₀ : Heap) (L : Addr) (I : Addr) (it : Obj) (J : (Str → Option Value) → List (Addr × Obj) → Prop) (s : Shared) (Q : Flow → Shared → Prop) (f : Flow) (s₂ : Shared) : Prop :=
  match f with
  | .ret v => Q (.ret v) s₂
  | .brk => Q .next s₂
  | _ => TurnEnd h₀ L I it J s s₂
theorem iter_J' {l : Addr} {vs : List Value} {m₀ : Str → Option Value} {news : List (Addr × Obj)} (J : Nat → (Str → Option Value) → List (Addr × Obj) → Prop)
    (hh : A.handled = none) (F : Fr h₀ env.locals s.heap m₀) (N : News h₀ env.locals s.heap news) (hj : J 0 m₀ news)
    (src : h₀.IsList l vs.toArray ∨ ∃ lo n, lo.cls = .type "list" ∧ lo.data = .seq vs.toArray n ∧ ∀ i m n, J i m n → (l, lo) ∈ n)
    (turn : ∀ i v m₁ news₁ I it h tk, I = s.heap.objs.size → (∀ p ∈ news, @LT.lt Nat _ p.1 I) → i < vs.length → vs[i]? = some v → J i m₁ news₁ → (∀ p ∈ news₁, p.1 ≠ I) → Fr h₀ env.locals h m₁ → News h₀ env.locals h ((I, it) :: news₁) →
      wpAny (model prog w) A (assign target env v) (fun _ s₂ => wpAny (model prog w) A (execs body env) (TurnPost h₀ env.locals I it (J (i + 1)) s Q) E s₂) E { s with heap := h, toks := tk })
    (done : ∀ m₁ news₁ h tk, J vs.length m₁ news₁ → Fr h₀ env.locals h m₁ → News h₀ env.locals h news₁ → Q .next { s with heap := h, toks := tk }) :
    wpAny (model prog w) A (pyIter (.ref l)) (fun it s₂ => TurnsAt prog w A h₀ env target body Q E it s₂) E s := by
  have hl : s.heap.IsList l vs.toArray := by
    rcases src with q | ⟨lo, n, hc, hd, hm⟩
    · exact q.at fun o e => F.keep l o e
    · exact ⟨lo, (N _ (hm 0 _ _ hj)).1, hc, n, hd⟩
  obtain ⟨ol, hol, _⟩ := id hl
  have hlt : l < s.heap.objs.size := Heap.lt_size hol
  have hLne : l ≠ env.locals := by
    rcases src with ⟨o, e, _⟩ | ⟨lo, n, hc, hd, hm⟩
    · exact fun q => absurd (Nat.lt_of_lt_of_le (Heap.lt_size e) F.above) (q ▸ Nat.lt_irrefl _)
    · exact (N _ (hm 0 _ _ hj)).2.1
  refine wpAny_pyIter_list hl ?_
  have W := Walks.list (prog := prog) (w := w) hh s.heap.objs.size l (Nat.ne_of_lt hlt) vs.toArray
  have hsz : vs.toArray.size = vs.length := by simp
  rw [hsz] at W
  refine ⟨_, _, _, vs.length, _, _, _, m₀, news, J, rfl, KTurns.ofWalks W fun i v s Q E st q => letGo_listiter st.1 q, ?_, ?_, ?_, ⟨⟨_, Heap.get?_push_size _ rfl, rfl, rfl⟩, hl.at fun o e => Heap.get?_push_of_some _ e⟩, F.push _, (fun p hp => ⟨Heap.get?_push_of_some _ (N p hp).1, (N p hp).2⟩), hj, ?_, ?_⟩
  · intro hm
    rcases List.mem_cons.mp hm with e | hm
    · exact absurd F.ns.lt (e ▸ Nat.lt_irrefl _)
    · exact hLne (List.mem_singleton.mp hm).symm
  · intro b hb
    rw [List.mem_singleton.mp hb]
    exact next_is_new F
  · intro p hp hI
    exact absurd (Heap.lt_size (N p hp).1) ((List.mem_singleton.mp hI) ▸ Nat.lt_irrefl _)
  · intro i v m₁ news₁ h₁ tk₁ own hin hP hJ hoff hown hget hall st F₁ N₁
    obtain ⟨it, hit, _⟩ := st.1
    have hI₀ : h₀.get? s.heap.objs.size = none := next_is_new F
    have hIown : (s.heap.objs.size, it) ∈ own := hall _ (List.mem_cons_self ..) hI₀ it hit
    have hoff' : ∀ p ∈ news₁, p.1 ≠ s.heap.objs.size := fun p hp e => hoff p hp (by rw [e]; exact List.mem_singleton.mpr rfl)
    have N₂ : News h₀ env.locals h₁ ((s.heap.objs.size, it) :: news₁) := fun p hp => by
      rcases List.mem_cons.mp hp with rfl | hp
      · exact N₁ _ (List.mem_append_left _ hIown)
      · exact N₁ _ (List.mem_append_right _ hp)
    have hv : vs[i]? = some v := by simpa using (show vs.toArray[i]? = some v from hP)
    have fin : ∀ s₃, TurnEnd h₀ env.locals s.heap.objs.size it (J (i + 1)) s s₃ → LoopStepU h₀ env.locals [s.heap.objs.size] own (J (i + 1)) { s with heap := h₁, toks := tk₁ } .next s₃ := by
      rintro s₃ ⟨h', tk, m', news', e, F', N', ho, hJ'⟩
      refine ⟨rfl, h', tk, m', news', e, F', fun p hp => ?_, fun p hp hI => ho p hp (List.mem_singleton.mp hI), hJ'⟩
      rcases List.mem_append.mp hp with hp | hp
      · obtain ⟨pa, po⟩ := p
        have h2 : h₁.get? pa = some po := hget _ hp
        rcases List.mem_cons.mp (hown _ hp) with h3 | h3
        · have h3' : pa = s.heap.objs.size := h3
          subst h3'
          have h6 : it = po := Option.some.inj (hit.symm.trans h2)
          subst h6
          exact N' _ (List.mem_cons_self ..)
        · have h3' : pa = l := List.mem_singleton.mp h3
          subst h3'
          rcases src with ⟨o, e0, _⟩ | ⟨lo, n, hc, hd, hm⟩
          · have h4 := (N₁ _ (List.mem_append_left _ hp)).2.2
            rw [show h₀.get? pa = none from h4] at e0; cases e0
          · have h4 : h₁.get? pa = some lo := (N₁ _ (List.mem_append_right _ (hm i _ _ hJ))).1
            have h6 : lo = po := Option.some.inj (h4.symm.trans h2)
            subst h6
            exact N' _ (List.mem_cons_of_mem _ (hm (i + 1) _ _ hJ'))
      · exact N' _ (List.mem_cons_of_mem _ hp)
    refine wpAny_mono (turn i v m₁ news₁ s.heap.objs.size it h₁ tk₁ rfl (fun p hp => Heap.lt_size (N p hp).1) hin hv hJ hoff' F₁ N₂) (fun _ s₂ h₂ => wpAny_mono h₂ (fun f s₃ p => ?_) fun _ _ e => e) fun _ _ e => e
    cases f with
    | ret v => exact .ret p
    | brk => exact .brk p
    | next => exact .next (fin _ p)
    | cont => exact .cont (fin _ p)
  · rintro h' tk m' news' F' N' _ hJ
    exact done m' news' h' tk hJ F' N'
theorem iter_J {l : Addr} {vs : List Value} {m₀ : Str → Option Value} {news : List (Addr × Obj)} (J : Nat → (Str → Option Value) → List (Addr × Obj) → Prop)
    (hh : A.handled = none) (F : Fr h₀ env.locals s.heap m₀) (N : News h₀ env.locals s.heap news) (hj : J 0 m₀ news)
    (src : h₀.IsList l vs.toArray ∨ ∃ lo n, lo.cls = .type "list" ∧ lo.data = .seq vs.toArray n ∧ ∀ i m n, J i m n → (l, lo) ∈ n)
    (turn : ∀ i v m₁ news₁ I it h tk, i < vs.length → vs[i]? = some v → J i m₁ news₁ → (∀ p ∈ news₁, p.1 ≠ I) → Fr h₀ env.locals h m₁ → News h₀ env.locals h ((I, it) :: news₁) →
      wpAny (model prog w) A (assign target env v) (fun _ s₂ => wpAny (model prog w) A (execs body env) (TurnPost h₀ env.locals I it (J (i + 1)) s Q) E s₂) E { s with heap := h, toks := tk })
    (done : ∀ m₁ news₁ h tk, J vs.length m₁ news₁ → Fr h₀ env.locals h m₁ → News h₀ env.locals h news₁ → Q .next { s with heap := h, toks := tk }) :
    wpAny (model prog w) A (pyIter (.ref l)) (fun it s₂ => TurnsAt prog w A h₀ env target body Q E it s₂) E s :=
  iter_J' J hh F N hj src (fun i v m₁ news₁ I it h tk _ _ => turn i v m₁ news₁ I it h tk) done
end
section
variable {prog : Program} {w : World} {A : Around} {h₀ : Heap} {L : Addr} {m : Str → Option Value} {env : Env} {ct elt : Expr} {x : Str} {scope : Scope} {cl : List (Str × Addr)} {s : Shared} {S : List (Addr × Obj) → Prop} {P : Nat → Value → Prop} {Fin : List Value → List (Addr × Obj) → Prop} {news : List (Addr × Obj)}
/-- an element's end: the ledger is as it was -/
theorem comp_fin {I C D : Addr} {oI oC oD : Obj} {s₁ : Shared} {rest : Value → List (Addr × Obj) → Prop} {y : Value} {h' : Heap} {tk : Nat} (F : Fr h₀ L h' m) (N : News h₀ L h' ((I, oI) :: (C, oC) :: (D, oD) :: news)) (off : LCg.Off3 I C D news) (hS : S news)
    (r : rest y news) : LCg.CompEnd h₀ L m s₁ I oI C oC D oD S rest y { s₁ with heap := h', toks := tk } := ⟨h', tk, news, rfl, F, N, off, hS, r⟩
/-- one turn of a comprehension with a test: both ways meet -/
theorem comp_turn {k i : Nat} {ys : List Value} {l : List Int} (r : List Int) (hy : IntsAre ys l)
    (turn : ∀ v I oI C oC D m₂ h tk (E' : Value → Shared → Prop), P i v → LCg.NsObj oC m₂ → m₂ x = some v → Fr h₀ L h m → News h₀ L h ((I, oI) :: (C, oC) :: (D, LCg.lst ys) :: news) → LCg.Off3 I C D news → ((@Ne Nat I C) ∧ (@Ne Nat I D) ∧ (@Ne Nat C D)) →
      wpAny (model prog w) A (isTrue ct (compEnvC scope cl C env) (eval ct (compEnvC scope cl C env))) (fun b s' => if b = true then wpAny (model prog w) A (eval elt (compEnvC scope cl C env)) (LCg.CompEnd h₀ L m { s with heap := h, toks := tk } I oI C oC D (LCg.lst ys) S (fun y news' => KCiEl news l r y news')) E' s'
        else LCg.CompEnd h₀ L m { s with heap := h, toks := tk } I oI C oC D (LCg.lst ys) S (fun _ news' => KCiNo news l r news') Value.none s') E' { s with heap := h, toks := tk })
    (rest : ∀ ys', IntsAre ys' r → ys'.length ≤ ys.length + 1 → LCt.CompRestT prog w A h₀ L m env ct elt x scope cl s S P Fin k (i + 1) ys' news) : LCt.CompRestT prog w A h₀ L m env ct elt x scope cl s S P Fin (k + 1) i ys news := by
  refine LCt.CompRestT.succ ?_
  intro v I oI C oC D m₂ h tk E' hv hC hx F N off ne
  refine wpAny_mono (turn v I oI C oC D m₂ h tk E' hv hC hx F N off ne) (fun b s₂ hq => ?_) fun _ _ e => e
  cases b with
  | true =>
    simp only [if_true] at hq ⊢
    refine wpAny_mono hq (fun y s₃ hr => ?_) fun _ _ e => e
    obtain ⟨h', tk', nw, e, F', N', off', hS, hn, a, t', hy', hr'⟩ := hr
    rw [hn] at N' off' hS
    refine ⟨h', tk', news, e, F', N', off', hS, ?_⟩
    rw [hy']
    refine rest _ ?_ (by simp)
    rw [hr']
    exact IntsAre.append hy (.cons a t' .nil)
  | false =>
    simp only [Bool.false_eq_true, if_false] at hq ⊢
    obtain ⟨h', tk', nw, e, F', N', off', hS, hn, hr'⟩ := hq
    rw [hn] at N' off' hS
    exact ⟨h', tk', news, e, F', N', off', hS, rest _ (by rw [hr']; exact hy) (by omega)⟩
end
/-- the caller's side of a call that hands back a new list of ints -/
abbrev TellL (w : World) (f : Addr) (d : Nat) (vs : List Value) (pre : Shared → Prop) (R : List Int → Prop) : Prop :=
  ∀ (mean : ExcName → Option Value) (mg mb : Str → Option Value) (dp un : Nat) (gd : Option (List Code)) (cn : Str) (cs : Scope) (a : Addr) (ccd : Value) (cl : List (Str × Addr)) (outer : List Env) (A₀ : Around) (base h₀ : Heap) (L : Addr) (m : Str → Option Value) (news : List (Addr × Obj)) (s : Shared) (Q E : Value → Shared → Prop),
    Below A₀ base outer h₀ → Fr h₀ L s.heap m → (Mine.hd.heap_39 w.params).In h₀ → News h₀ L s.heap news → Top V LS mean mg mb h₀ → cs.kind = .function →
    pre s → dp + d < recursionLimit → un + 8 * d < cLine →
    (∀ (D : Addr) (vs' : List Value) (ns' : List Int) (c : Nat) (h' : Heap) (tk' : Nat), Fr h₀ L h' m → News h₀ L h' ((D, W.listOf vs'.toArray c) :: news) → (∀ p ∈ news, @LT.lt Nat _ p.1 D) → IntsAre vs' ns' → R ns' → Q (.ref D) { s with heap := h', toks := tk' }) →
      wpAny (model P w) (ktrTop dp un gd cn cs L a ccd cl outer) (call (.ref f) vs) Q E s
end Mine
end
section
open PySem PySem.W PyProof.Rows PySem.Calls PySem.Spec
set_option maxRecDepth 100000
set_option maxHeartbeats 8000000
namespace Mine
local macro_rules | `(tactic| walk_at "MYENTERC") => `(tactic| (refine wpAny_call ?_; k_dflt (refine' pure_defC ?k1 ?k2 ?k3 ?k5 ?kA ?kF ?kK ?k6 ?k7 ?k8 ?k9 ?kB ?kD ?_ ?c2 ?c3 ?c4; (case kA => exact rfl); (case kF => exact rfl); (case kK => assumption); (case k1 => k_asm); (case k2 => k_asm); (case k3 => k_asm); (case k5 => k_asm); (case k6 => k_is); (case k7 => k_is); (case k8 => ktr_room); (case k9 => exact BindsTo.of_eq rfl); (case kB => exact rfl); (case kD => decide +kernel); (case c2 => exact rfl); (case c3 => exact rfl); (case c4 => exact rfl); k_whole; intro L' h' tk' cells' F' N' Y' B' X' T'; k_cells Y'; (try simp only [List.cons_append, List.nil_append] at N'); (try dsimp only); (try k_fold))))
local macro_rules | `(tactic| walk_at "MYENTERP") => `(tactic| (refine wpAny_call ?_; k_dflt (refine' pure_def ?k1 ?k2 ?k3 ?k5 ?kA ?kF ?kK ?k6 ?k7 ?k8 ?k9 ?kB ?_ ?c2 ?c3 ?c4 ?c5; (case kA => exact rfl); (case kF => exact rfl); (case kK => assumption); (case k1 => k_asm); (case k2 => k_asm); (case k3 => k_asm); (case k5 => k_asm); (case k6 => k_is); (case k7 => k_is); (case k8 => ktr_room); (case k9 => exact BindsTo.of_eq rfl); (case kB => exact locs rfl); (case c5 => decide); (case c2 => exact rfl); (case c3 => exact rfl); (case c4 => exact rfl); k_whole; intro L' h' F' N' B' X' T'; (try dsimp only); (try k_fold))))
local macro_rules | `(tactic| walk_at "call ref") => `(tactic| (k_here; (with_reducible show wpAny _ _ (call (Value.ref 64) [Value.str _ _]) _ _ _); k_dflt (refine' reach _ _ _ _ _ _ _ _ _ _ _ _ _ _ _ _ _ _ _ _ _ _ _ _ ?k1 ?k2 ?k3 ?k4 ?k5 ?kK ?kp ?kd ?ku ?_; (case k1 => k_asm); (case k2 => k_asm); (case k3 => k_asm); (case k4 => k_asm); (case k5 => k_asm); (case kK => first | exact rfl | assumption); (case kp => refine ⟨by first | with_reducible assumption | exact ndd_slice (by with_reducible assumption) (by decide), by omega⟩); (case kd => ktr_room); (case ku => ktr_units); k_whole; intro t9 h9 tk9 F9 N9; (try dsimp only); (try k_fold))))
local macro_rules | `(tactic| walk_at "call ref") => `(tactic| (k_here; (with_reducible show wpAny _ _ (call (Value.ref 91) [Value.str _ _, Value.int _ _, Value.str _ _]) _ _ _); k_dflt (refine' law_in _ _ _ _ _ _ _ _ _ _ _ _ _ _ _ _ _ _ _ _ _ _ _ _ _ _ _ _ ?k1 ?k2 ?k3 ?k4 ?k5 ?kK ?kp ?kd ?ku ?_; (case k1 => k_asm); (case k2 => k_asm); (case k3 => k_asm); (case k4 => k_asm); (case k5 => k_asm); (case kK => first | exact rfl | assumption); (case kp => refine ⟨by with_reducible assumption, by with_reducible assumption, by with_reducible assumption, by with_reducible assumption, by omega, by omega⟩); (case kd => ktr_room); (case ku => ktr_units); k_whole; intro t9 h9 tk9 F9 N9; (try dsimp only); (try k_fold))))

def Hold (p : Prop) : Prop := p
theorem Hold.out {p : Prop} (h : Hold p) : p := h
theorem Hold.mk {p : Prop} (h : p) : Hold p := h
local macro_rules | `(tactic| walk_at "exec For Name Name cons nil") => `(tactic| (refine Hold.out ?_))
local macro_rules | `(tactic| walk_at "exec For Name List cons nil") => `(tactic| (refine Hold.out ?_))
local macro_rules | `(tactic| walk_at "exec For Name Call cons nil") => `(tactic| (refine Hold.out ?_))
local macro_rules | `(tactic| walk_at "exec While BoolOp cons nil") => `(tactic| (refine Hold.out ?_))
local macro_rules | `(tactic| walk_at "pyIter ref") => `(tactic| (refine Hold.out ?_))
local macro_rules | `(tactic| walk_at "eval ListComp") => `(tactic| (refine Hold.out ?_))
local macro_rules | `(tactic| walk_at "CompSrcT") => `(tactic| (refine Hold.out ?_))
local macro_rules | `(tactic| walk_at "CompEnd") => `(tactic| (refine' comp_fin ?k1 ?k2 ?k3 ?k4 ?_; (case k1 => k_asm); (case k2 => k_asm); (case k3 => assumption); (case k4 => first | trivial | assumption); k_whole))
local macro_rules | `(tactic| walk_at "call builtin:list.append") => `(tactic| (k_here; k_dflt (refine' append_K ?k1 ?k2 ?k3 ?_ ?z; (case k1 => k_asm); (case k2 => k_asm); (case k3 => k_upd); (case z => size_fits); k_whole); intro h' F' N'; (try k_sweep)))

theorem strs_snoc {y : Str} {t : Tok} : ∀ {vs : List Value} {ys : List Str}, StrsAre vs ys → StrsAre (vs ++ [.str y t]) (ys ++ [y])
  | _, _, .nil => .cons y t .nil
  | _, _, .cons z u h => .cons z u (strs_snoc h)
theorem strs_at : ∀ {vs : List Value} {ys : List Str}, StrsAre vs ys → ∀ {i : Nat} {v : Value}, vs[i]? = some v → ∃ y t, v = .str y t ∧ ys[i]? = some y
  | _, _, .nil, _, _, h => by cases h
  | _, _, .cons y t _, 0, _, h => by cases h; exact ⟨y, t, rfl, rfl⟩
  | _, _, .cons _ _ r, i + 1, v, h => strs_at r (i := i) (v := v) (by simpa using h)
theorem strs_len : ∀ {vs : List Value} {ys : List Str}, StrsAre vs ys → vs.length = ys.length
  | _, _, .nil => rfl
  | _, _, .cons _ _ r => congrArg (· + 1) (strs_len r)
theorem off4 {I a b c d : Addr} {oa ob oc od : Obj} (h1 : a ≠ I) (h2 : b ≠ I) (h3 : c ≠ I) (h4 : d ≠ I) : ∀ p ∈ [(a, oa), (b, ob), (c, oc), (d, od)], p.1 ≠ I := by
  intro p hp
  rcases List.mem_cons.mp hp with rfl | hp
  · exact h1
  · rcases List.mem_cons.mp hp with rfl | hp
    · exact h2
    · rcases List.mem_cons.mp hp with rfl | hp
      · exact h3
      · rw [List.mem_singleton.mp hp]; exact h4
theorem fr_twice {h₀ h : Heap} {L : Addr} {a : Str} {v u : Option Value} {r : Str → Option Value} (F : Fr h₀ L h (fun y => if y = a then v else if y = a then u else r y)) : Fr h₀ L h (fun y => if y = a then v else r y) := by
  have e : (fun y => if y = a then v else if y = a then u else r y) = fun y => if y = a then v else r y := by
    funext y; split <;> rfl
  rw [e] at F; exact F
theorem off3 {I a b c : Addr} {oa ob oc : Obj} (h1 : a ≠ I) (h2 : b ≠ I) (h3 : c ≠ I) : ∀ p ∈ [(a, oa), (b, ob), (c, oc)], p.1 ≠ I := by
  intro p hp
  rcases List.mem_cons.mp hp with rfl | hp
  · exact h1
  · rcases List.mem_cons.mp hp with rfl | hp
    · exact h2
    · rw [List.mem_singleton.mp hp]; exact h3
theorem push_list (vs : List Value) (v : Value) : vs.toArray.push v = (vs ++ [v]).toArray := by simp
theorem take_snoc {α : Type} {l : List α} {i : Nat} {x : α} (h : l[i]? = some x) : l.take (i + 1) = l.take i ++ [x] := by
  rw [List.take_add_one, h]; rfl
theorem law_family (w : World) (l : Addr) (x0 x1 x2 x3 : Str) (t0 t1 t2 t3 : Tok) : TellL w 96 10 [.ref l] (fun s => s.heap.IsList l [Value.str x0 t0, .str x1 t1, .str x2 t2, .str x3 t3].toArray ∧ Good x0 ∧ Good x1 ∧ Good x2 ∧ Good x3) (fun ns => SortOf ns (groupsF x0 x1 x2 x3)) := by
  rintro mean mg mb dp un gd cn cs a ccd cl outer A₀ base h₀ L m news s Q E B F X N T hk ⟨hl, g0, g1, g2, g3⟩ hd hu hret
  have gs : ∀ (i : Nat) (v : Value), [Value.str x0 t0, .str x1 t1, .str x2 t2, .str x3 t3][i]? = some v → ∃ x t, v = .str x t ∧ [x0, x1, x2, x3][i]? = some x ∧ Good x := by
    intro i v h
    rcases i with _ | _ | _ | _ | i
    · cases h; exact ⟨_, _, rfl, rfl, g0⟩
    · cases h; exact ⟨_, _, rfl, rfl, g1⟩
    · cases h; exact ⟨_, _, rfl, rfl, g2⟩
    · cases h; exact ⟨_, _, rfl, rfl, g3⟩
    · cases h
  walk_at "MYENTERC"
  k_steps
  refine Hold.mk ?_
  refine For_turns (by assumption) ?_
  k_steps
  refine Hold.mk ?_
  rename_i L1 h1 tk1 B1 X1 T1 o1 o2 d1 d2 l1 h2 lt1 h3 F1 N1
  have e1 : o1.data = .cell none := d1
  have e2 : o2.data = .cell (some (.ref l)) := d2
  clear d1 d2
  refine iter_J (J := fun i m₁ news₁ => ∃ (u : Option Value) (vs : List Value) (k : Nat) (o : Obj) (dv : Option Value) (D : List Str), m₁ = (fun y => if y = Str.ofString "host" then u else if y = Str.ofString "domains" then some (Value.ref l1) else none) ∧
      news₁ = [(l1, W.listOf vs.toArray k), (L1 + 1 + 1, o), (L1 + 1, o2)] ∧ o.data = .cell dv ∧ StrsAre vs D ∧ vs.length ≤ 101 * i ∧ D = ([x0, x1, x2, x3].take i).foldl domsF []) rfl F1 N1 ⟨none, [], 0, o1, none, [], ?_, rfl, e1, .nil, by simp, rfl⟩ (.inl hl) ?_ ?_
  · funext y
    by_cases hy : y = Str.ofString "host"
    · subst hy; rfl
    · rw [if_neg hy]; rfl
  · rintro i v m₁ news₁ I it h tk hi hv ⟨u, vs, k, o, dv, D, rfl, rfl, eo, hD, hlen, eD⟩ hoff F3 N3
    obtain ⟨x, t, rfl, hx, gx⟩ := gs i v hv
    obtain ⟨lox, nx, lx⟩ := gx
    have ne1 : @Ne Nat l1 I := hoff _ (.head _)
    have ne2 : @Ne Nat (L1 + 1 + 1) I := hoff _ (.tail _ (.head _))
    have ne3 : @Ne Nat (L1 + 1) I := hoff _ (.tail _ (.tail _ (.head _)))
    k_steps
    refine Hold.mk ?_
    rename Fr _ _ _ _ => F4
    rename News _ _ _ _ => N4
    rename _ = Data.cell (some (Value.str (reachF x) _)) => eo4
    obtain ⟨kr, er⟩ := reach_drop x
    have lor := drop_low er lox
    have nr := drop_ndd er nx
    have lr := drop_len er
    refine While_inv2 (J := fun n m₂ nx => ∃ (vs : List Value) (k : Nat) (o : Obj) (d : Str) (td : Tok) (D' : List Str), m₂ = (fun y => if y = Str.ofString "host" then some (Value.str x t) else if y = Str.ofString "host" then u else if y = Str.ofString "domains" then some (Value.ref l1) else none) ∧
      nx = [(I, it), (l1, W.listOf vs.toArray k), (L1 + 1 + 1, o), (L1 + 1, o2)] ∧ o.data = .cell (some (Value.str d td)) ∧ StrsAre vs D' ∧ n = d.length ∧ Low d ∧ NDD d.cps ∧ d.length ≤ 100 ∧ vs.length + d.length ≤ 101 * i + 100 ∧ chainF 301 d D' = chainF 301 (reachF x) D) F4 N4 ⟨vs, k, _, reachF x, _, D, rfl, rfl, eo4, hD, rfl, lor, nr, by omega, by omega, rfl⟩ ?_
    rintro n m₂ nx h4 tk4 F5 N5 ⟨vs, k, o, d, td, D', rfl, rfl, eo5, hD', rfl, lod, nd, ld, hlen', ech⟩
    have hi4 : i < 4 := hi
    have hv5 : vs.length ≤ 1000 := by omega
    have hv6 : vs.toArray.size ≤ sizeLine := by rw [List.size_toArray]; unfold sizeLine; omega
    have ed : chainF 301 d D' = if (Txt.startswith d (Str.ofString ".") && !(D'.any (· == d))) = true then chainF 300 (reachF (Txt.slice d (some 1) none)) (D' ++ [d]) else (d, D') := rfl
    have ls := len_slice (x := d) (i := 1)
    k_steps
    · rename Fr _ _ _ _ => F6
      rename News _ _ _ _ => N6
      rename (List.any D' _) = true => hn
      refine ⟨_, _, _, _, rfl, F6, N6, ?_, some (Value.str x t), vs, k, o, some (Value.str d td), D', ?_, rfl, eo5, hD', by omega, ?_⟩
      · exact off3 ne1 ne2 ne3
      · funext y; split <;> rfl
      · rw [take_snoc hx, List.foldl_append, ← eD]
        show D' = (chainF 301 (reachF x) D).2
        rw [← ech, ed, if_neg (by rw [hn]; simp)]
    · rename Fr _ _ _ _ => F6
      rename News _ _ _ _ => N6
      rename _ = Data.cell (some (Value.str (reachF (Txt.slice d (some 1) none)) _)) => eo6
      rename Txt.startswith d _ = true => hs
      rename (List.any D' _) = false => hn
      obtain ⟨k6, er6⟩ := reach_drop (Txt.slice d (some 1) none)
      have nl := next_len hs
      rw [push_list] at N6
      refine ⟨_, _, _, _, (reachF (Txt.slice d (some 1) none)).length, rfl, F6, N6, by omega, vs ++ [Value.str d td], _, _, reachF (Txt.slice d (some 1) none), _, D' ++ [d], rfl, rfl, eo6, strs_snoc hD', rfl, drop_low er6 (lod.slice (by decide)), drop_ndd er6 (ndd_slice nd (by decide)), by omega, ?_, ?_⟩
      · rw [List.length_append]; simp only [List.length_cons, List.length_nil]; omega
      · rw [← ech, ed, if_pos (by rw [hs, hn]; rfl)]; exact chain_fuel _ _ _ _ (by omega) (by omega)
    · rename Fr _ _ _ _ => F6
      rename News _ _ _ _ => N6
      rename Txt.startswith d _ = false => hn
      refine ⟨_, _, _, _, rfl, F6, N6, ?_, some (Value.str x t), vs, k, o, some (Value.str d td), D', ?_, rfl, eo5, hD', by omega, ?_⟩
      · exact off3 ne1 ne2 ne3
      · funext y; split <;> rfl
      · rw [take_snoc hx, List.foldl_append, ← eD]
        show D' = (chainF 301 (reachF x) D).2
        rw [← ech, ed, if_neg (by rw [hn]; simp)]
  · rintro m₁ news₁ h tk ⟨u, vs, k, o, dv, D, rfl, rfl, eo, hD, hlen, eD⟩ F7 N7
    clear F1 N1 e1
    have gD : ∀ e ∈ D, Good e := by
      rw [eD]
      refine doms_good _ _ (fun y hy => ?_) (fun _ h => nomatch h)
      have hy' : y ∈ [x0, x1, x2, x3] := hy
      simp only [List.mem_cons, List.not_mem_nil, or_false] at hy'
      rcases hy' with rfl | rfl | rfl | rfl <;> assumption
    have hlen4 : vs.length ≤ 404 := hlen
    have eD4 : D = [x0, x1, x2, x3].foldl domsF [] := eD
    clear hlen eD
    k_steps
    refine Hold.mk ?_
    refine For_turns (by assumption) ?_
    k_steps
    refine Hold.mk ?_
    rename_i l2 h8 F8 N8 lt2 h9 F9 N9
    clear F8 N8
    refine iter_J (J := fun i m₁ news₁ => ∃ (u2 : Option Value) (gs : List Value) (kg : Nat) (o : Obj) (dv : Option Value) (G : List Int), m₁ = (fun y => if y = Str.ofString "group" then u2 else if y = Str.ofString "groups" then some (Value.ref l2) else if y = Str.ofString "host" then u else if y = Str.ofString "domains" then some (Value.ref l1) else none) ∧
      news₁ = [(l2, W.listOf gs.toArray kg), (l1, W.listOf vs.toArray k), (L1 + 1 + 1, o), (L1 + 1, o2)] ∧ o.data = .cell dv ∧ IntsAre gs G ∧ gs.length ≤ i ∧ G = ((D.take i).map (maskF x0 x1 x2 x3)).foldl onceF []) rfl F9 N9 ⟨none, [], 0, o, dv, [], ?_, rfl, eo, .nil, by simp, by simp⟩ (.inr ⟨W.listOf vs.toArray k, k, rfl, rfl, ?_⟩) ?_ ?_
    · funext y
      by_cases hy : y = Str.ofString "group"
      · subst hy; rfl
      · rw [if_neg hy]
    · rintro i m₁ n₁ ⟨u2, gs, kg, o, dv, G, rfl, rfl, _⟩
      exact .tail _ (.head _)
    · rintro i v m₁ news₁ I it h tk hi hv ⟨u2, gs, kg, o, dv, G, rfl, rfl, eo, hG, hgl, eG⟩ hoff F3 N3
      obtain ⟨d, td, rfl, hdi⟩ := strs_at hD hv
      obtain ⟨lod, nd, ld⟩ := gD d (List.mem_of_getElem? hdi)
      obtain ⟨lo0, n0, le0⟩ := g0
      obtain ⟨lo1, n1, le1⟩ := g1
      obtain ⟨lo2, n2, le2⟩ := g2
      obtain ⟨lo3, n3, le3⟩ := g3
      have ne0 : @Ne Nat l2 I := hoff _ (.head _)
      have ne1 : @Ne Nat l1 I := hoff _ (.tail _ (.head _))
      have ne2 : @Ne Nat (L1 + 1 + 1) I := hoff _ (.tail _ (.tail _ (.head _)))
      have ne3 : @Ne Nat (L1 + 1) I := hoff _ (.tail _ (.tail _ (.tail _ (.head _))))
      clear F9 N9
      k_steps
      refine Hold.mk ?_
      k_dflt (refine LCt.ListComp_T (F₀ := by k_asm) (by with_unfolding_all rfl) (by decide) (by rfl) (by decide) (by rfl) ?_)
      k_steps
      refine Hold.mk ?_
      k_dflt (refine LCt.CompSrcT.range (by rfl) (by k_asm) (by k_asm) (by assumption) (by decide) (by rfl) (by exact Nat.le_of_ble_eq_true rfl) ?_)
      intro g6
      dsimp only
      refine comp_turn (if lawInF x0 0 d = true then ([] : List Int) ++ [1] else ([] : List Int)) .nil ?_ ?_
      · intro v7 I7 oI7 C7 oC7 D7 m7 h7 tk7 E7 hv7 hC7 hx7 F7' N7' off7 ne7
        obtain ⟨t7, rfl⟩ := hv7
        dsimp only
        k_steps
        · refine kci_el ?_ rfl rfl
          have hb : lawInF x0 0 d = true := by assumption
          rw [if_pos hb]; rfl
        · refine kci_no ?_ rfl
          have hb : lawInF x0 0 d = false := by assumption
          rw [if_neg (by rw [hb]; exact Bool.false_ne_true)]
      intro ys0 hys0 hyl0
      generalize er0 : (if lawInF x0 0 d = true then ([] : List Int) ++ [1] else ([] : List Int)) = r0 at hys0
      refine comp_turn (if lawInF x1 1 d = true then r0 ++ [2] else r0) hys0 ?_ ?_
      · intro v7 I7 oI7 C7 oC7 D7 m7 h7 tk7 E7 hv7 hC7 hx7 F7' N7' off7 ne7
        obtain ⟨t7, rfl⟩ := hv7
        dsimp only
        k_steps
        · refine kci_el ?_ rfl rfl
          have hb : lawInF x1 1 d = true := by assumption
          rw [if_pos hb]; rfl
        · refine kci_no ?_ rfl
          have hb : lawInF x1 1 d = false := by assumption
          rw [if_neg (by rw [hb]; exact Bool.false_ne_true)]
      intro ys1 hys1 hyl1
      generalize er1 : (if lawInF x1 1 d = true then r0 ++ [2] else r0) = r1 at hys1
      refine comp_turn (if lawInF x2 2 d = true then r1 ++ [4] else r1) hys1 ?_ ?_
      · intro v7 I7 oI7 C7 oC7 D7 m7 h7 tk7 E7 hv7 hC7 hx7 F7' N7' off7 ne7
        obtain ⟨t7, rfl⟩ := hv7
        dsimp only
        k_steps
        · refine kci_el ?_ rfl rfl
          have hb : lawInF x2 2 d = true := by assumption
          rw [if_pos hb]; rfl
        · refine kci_no ?_ rfl
          have hb : lawInF x2 2 d = false := by assumption
          rw [if_neg (by rw [hb]; exact Bool.false_ne_true)]
      intro ys2 hys2 hyl2
      generalize er2 : (if lawInF x2 2 d = true then r1 ++ [4] else r1) = r2 at hys2
      refine comp_turn (if lawInF x3 3 d = true then r2 ++ [8] else r2) hys2 ?_ ?_
      · intro v7 I7 oI7 C7 oC7 D7 m7 h7 tk7 E7 hv7 hC7 hx7 F7' N7' off7 ne7
        obtain ⟨t7, rfl⟩ := hv7
        dsimp only
        k_steps
        · refine kci_el ?_ rfl rfl
          have hb : lawInF x3 3 d = true := by assumption
          rw [if_pos hb]; rfl
        · refine kci_no ?_ rfl
          have hb : lawInF x3 3 d = false := by assumption
          rw [if_neg (by rw [hb]; exact Bool.false_ne_true)]
      intro ys3 hys3 hyl3
      generalize er3 : (if lawInF x3 3 d = true then r2 ++ [8] else r2) = r3 at hys3
      have em : r3.sum = maskF x0 x1 x2 x3 d := by
        rw [← er3, ← er2, ← er1, ← er0]
        unfold maskF bitF
        cases lawInF x0 0 d <;> cases lawInF x1 1 d <;> cases lawInF x2 2 d <;> cases lawInF x3 3 d <;> rfl
      have estep : ((D.take (i + 1)).map (maskF x0 x1 x2 x3)).foldl onceF [] = onceF G r3.sum := by
        rw [take_snoc hdi, List.map_append, List.foldl_append, ← eG, em]; rfl
      have hsz : gs.toArray.size ≤ sizeLine := by rw [List.size_toArray]; unfold sizeLine; omega
      k_steps
      · rename Fr _ _ _ _ => F6
        rename News _ _ _ _ => N6
        rename (List.any G _) = true => hn
        rename _ = Data.cell (some (Value.str d td)) => eo6
        refine ⟨_, _, _, _, rfl, fr_twice F6, fun p hp => N6 p (.tail _ hp), off4 ne0 ne1 ne2 ne3, _, gs, kg, _, _, G, rfl, rfl, eo6, by assumption, by omega, ?_⟩
        · rw [estep]; unfold onceF; rw [if_pos hn]
      · rename Fr _ _ _ _ => F6
        rename News _ _ _ _ => N6
        rename (List.any G _) = false => hn
        rename _ = Data.cell (some (Value.str d td)) => eo6
        rw [push_list] at N6
        refine ⟨_, _, _, _, rfl, fr_twice F6, fun p hp => N6 p (.tail _ hp), off4 ne0 ne1 ne2 ne3, _, gs ++ [Value.int r3.sum _], kg + 1, _, _, G ++ [r3.sum], rfl, rfl, eo6, IntsAre.append (by assumption) (.cons _ _ .nil), ?_, ?_⟩
        · rw [List.length_append]; simp only [List.length_cons, List.length_nil]; omega
        · rw [estep]; unfold onceF; rw [if_neg (by rw [hn]; exact Bool.false_ne_true)]
    · rintro m₁ news₁ h tk ⟨u2, gs, kg, o, dv, G, rfl, rfl, eo, hG, hgl, eG⟩ F10 N10
      clear F9 N9
      have hsz : gs.toArray.size ≤ sizeLine := by rw [List.size_toArray]; unfold sizeLine; omega
      have eG' : G = groupsF x0 x1 x2 x3 := by
        rw [eG, strs_len hD, List.take_length, eD4]; rfl
      have hG16 : G.length < 64 := by rw [eG']; exact Nat.lt_of_le_of_lt (groups_len ..) (by decide)
      clear eG
      k_steps
      rename Fr s.heap _ _ _ => F6
      rename News s.heap _ _ _ => N6
      rename Fr h₀ _ _ _ => kF6
      rename List.Perm _ _ => hp6
      rename List.Pairwise _ _ => ho6
      rename IntsAre _ _ => hi6
      exact hret _ _ _ _ _ _ kF6 (news_cons F N F6 N6 (.head _)) (news_lt N F6 (by show @LT.lt Nat _ L1 _; omega)) hi6 ⟨eG' ▸ hp6, ho6⟩
end Mine
end
section
open PySem PySem.W PyProof.Rows PySem.Calls PySem.Spec
set_option maxRecDepth 100000
set_option maxHeartbeats 8000000
namespace Mine
local macro_rules | `(tactic| walk_at "MYENTERC") => `(tactic| (refine wpAny_call ?_; k_dflt (refine' pure_defC ?k1 ?k2 ?k3 ?k5 ?kA ?kF ?kK ?k6 ?k7 ?k8 ?k9 ?kB ?kD ?_ ?c2 ?c3 ?c4; (case kA => exact rfl); (case kF => exact rfl); (case kK => assumption); (case k1 => k_asm); (case k2 => k_asm); (case k3 => k_asm); (case k5 => k_asm); (case k6 => k_is); (case k7 => k_is); (case k8 => ktr_room); (case k9 => exact BindsTo.of_eq rfl); (case kB => exact rfl); (case kD => decide +kernel); (case c2 => exact rfl); (case c3 => exact rfl); (case c4 => exact rfl); k_whole; intro L' h' tk' cells' F' N' Y' B' X' T'; k_cells Y'; (try simp only [List.cons_append, List.nil_append] at N'); (try dsimp only); (try k_fold))))
local macro_rules | `(tactic| walk_at "MYENTERP") => `(tactic| (refine wpAny_call ?_; k_dflt (refine' pure_def ?k1 ?k2 ?k3 ?k5 ?kA ?kF ?kK ?k6 ?k7 ?k8 ?k9 ?kB ?_ ?c2 ?c3 ?c4 ?c5; (case kA => exact rfl); (case kF => exact rfl); (case kK => assumption); (case k1 => k_asm); (case k2 => k_asm); (case k3 => k_asm); (case k5 => k_asm); (case k6 => k_is); (case k7 => k_is); (case k8 => ktr_room); (case k9 => exact BindsTo.of_eq rfl); (case kB => exact locs rfl); (case c5 => decide); (case c2 => exact rfl); (case c3 => exact rfl); (case c4 => exact rfl); k_whole; intro L' h' F' N' B' X' T'; (try dsimp only); (try k_fold))))
local macro_rules | `(tactic| walk_at "call ref") => `(tactic| (k_here; (with_reducible show wpAny _ _ (call (Value.ref 64) [Value.str _ _]) _ _ _); k_dflt (refine' reach _ _ _ _ _ _ _ _ _ _ _ _ _ _ _ _ _ _ _ _ _ _ _ _ ?k1 ?k2 ?k3 ?k4 ?k5 ?kK ?kp ?kd ?ku ?_; (case k1 => k_asm); (case k2 => k_asm); (case k3 => k_asm); (case k4 => k_asm); (case k5 => k_asm); (case kK => first | exact rfl | assumption); (case kp => refine ⟨by first | with_reducible assumption | exact ndd_slice (by with_reducible assumption) (by decide), by omega⟩); (case kd => ktr_room); (case ku => ktr_units); k_whole; intro t9 h9 tk9 F9 N9; (try dsimp only); (try k_fold))))
local macro_rules | `(tactic| walk_at "call ref") => `(tactic| (k_here; (with_reducible show wpAny _ _ (call (Value.ref 91) [Value.str _ _, Value.int _ _, Value.str _ _]) _ _ _); k_dflt (refine' law_in _ _ _ _ _ _ _ _ _ _ _ _ _ _ _ _ _ _ _ _ _ _ _ _ _ _ _ _ ?k1 ?k2 ?k3 ?k4 ?k5 ?kK ?kp ?kd ?ku ?_; (case k1 => k_asm); (case k2 => k_asm); (case k3 => k_asm); (case k4 => k_asm); (case k5 => k_asm); (case kK => first | exact rfl | assumption); (case kp => refine ⟨by with_reducible assumption, by with_reducible assumption, by with_reducible assumption, by with_reducible assumption, by omega, by omega⟩); (case kd => ktr_room); (case ku => ktr_units); k_whole; intro t9 h9 tk9 F9 N9; (try dsimp only); (try k_fold))))
local macro_rules | `(tactic| walk_at "exec For Name Name cons nil") => `(tactic| (refine Hold.out ?_))
local macro_rules | `(tactic| walk_at "exec For Name List cons nil") => `(tactic| (refine Hold.out ?_))
local macro_rules | `(tactic| walk_at "exec For Name Call cons nil") => `(tactic| (refine Hold.out ?_))
local macro_rules | `(tactic| walk_at "exec While BoolOp cons nil") => `(tactic| (refine Hold.out ?_))
local macro_rules | `(tactic| walk_at "pyIter ref") => `(tactic| (refine Hold.out ?_))
local macro_rules | `(tactic| walk_at "eval ListComp") => `(tactic| (refine Hold.out ?_))
local macro_rules | `(tactic| walk_at "CompSrcT") => `(tactic| (refine Hold.out ?_))
local macro_rules | `(tactic| walk_at "call builtin:list.append") => `(tactic| (k_here; k_dflt (refine' append_K ?k1 ?k2 ?k3 ?_ ?z; (case k1 => k_asm); (case k2 => k_asm); (case k3 => k_upd); (case z => size_fits); k_whole); intro h' F' N'; (try k_sweep)))
local macro_rules | `(tactic| walk_at "CompEnd") => `(tactic| (refine' comp_fin ?k1 ?k2 ?k3 ?k4 ?_; (case k1 => k_asm); (case k2 => k_asm); (case k3 => assumption); (case k4 => first | trivial | assumption); k_whole))

def MidPost (Mid : Shared → Prop) (f : Flow) (s : Shared) : Prop := f = .next ∧ Mid s
theorem seq_cut {M : Model} {A : Around} {E : Value → Shared → Prop} {s : Shared} {env : Env} {st : Stmt} {rest : List Stmt} {Q : Flow → Shared → Prop} (Mid : Shared → Prop) (h1 : wpAny M A (exec st env) (MidPost Mid) E s)
    (h2 : ∀ s', Mid s' → wpAny M A (execs rest env) Q E s') : wpAny M A (execs (st :: rest) env) Q E s :=
  wpAny_execs_cons (wpAny_mono h1 (fun f s' hm => by obtain ⟨rfl, hm⟩ := hm; exact h2 s' hm) fun _ _ e => e)

theorem drop23 {h₀ h : Heap} {L : Addr} {a b c : Addr × Obj} {r : List (Addr × Obj)} (N : News h₀ L h (a :: b :: c :: r)) : News h₀ L h (a :: r) := fun p hp => by
  rcases List.mem_cons.mp hp with rfl | hp
  · exact N _ (.head _)
  · exact N _ (.tail _ (.tail _ (.tail _ hp)))
theorem off5 {I a b c d e : Addr} {oa ob oc od oe : Obj} (h1 : a ≠ I) (h2 : b ≠ I) (h3 : c ≠ I) (h4 : d ≠ I) (h5 : e ≠ I) : ∀ p ∈ [(a, oa), (b, ob), (c, oc), (d, od), (e, oe)], p.1 ≠ I := by
  intro p hp
  rcases List.mem_cons.mp hp with rfl | hp
  · exact h1
  · exact off4 h2 h3 h4 h5 p hp
theorem neNat {a b : Addr} (h : a ≠ b) : @Ne Nat a b := h
theorem fr_self {h₀ h : Heap} {L : Addr} {a : Str} {m : Str → Option Value} (F : Fr h₀ L h m) : Fr h₀ L h (fun y => if y = a then m a else m y) := by
  have e : (fun y => if y = a then m a else m y) = m := by
    funext y
    split
    · rename_i q; rw [q]
    · rfl
  rw [e]; exact F
theorem fr_told {h₀ h : Heap} {L : Addr} {g i o : Str} {ug a b u1 u2 u3 : Option Value} {r : Str → Option Value} (F : Fr h₀ L h (fun y => if y = g then ug else if y = i then a else if y = o then b else if y = g then u1 else if y = i then u2 else if y = o then u3 else r y)) :
    Fr h₀ L h (fun y => if y = g then ug else if y = i then a else if y = o then b else r y) := by
  have e : (fun y => if y = g then ug else if y = i then a else if y = o then b else if y = g then u1 else if y = i then u2 else if y = o then u3 else r y) = fun y => if y = g then ug else if y = i then a else if y = o then b else r y := by
    funext y
    by_cases h1 : y = g
    · simp only [if_pos h1]
    · by_cases h2 : y = i
      · simp only [if_neg h1, if_pos h2]
      · by_cases h3 : y = o
        · simp only [if_neg h1, if_neg h2, if_pos h3]
        · simp only [if_neg h1, if_neg h2, if_neg h3]
  rw [e] at F; exact F
/-- between the turns of the inner loop of told -/
abbrev toldJ (mb : Str → Option Value) (lx : Addr) (v1 v2 : Value) (pi : Addr × Obj) (l1 : Addr) (pc ph : Addr × Obj) (gl : Nat) (xs G : List Int) (j : Nat) (m₂ : Str → Option Value) (n₂ : List (Addr × Obj)) : Prop :=
  ∃ (ug : Option Value) (gs2 : List Value) (k2 : Nat) (G2 : List Int), m₂ = (fun y => if y = Str.ofString "group" then ug else mb y) ∧ n₂ = [(lx, W.listOf [v1, v2].toArray 0), pi, (l1, W.listOf gs2.toArray k2), pc, ph] ∧ IntsAre gs2 G2 ∧ gs2.length ≤ gl + j ∧ G2 = (xs.take j).foldl onceF G
theorem told_src {h₀ : Heap} {mb : Str → Option Value} {lx : Addr} {v1 v2 : Value} {pi : Addr × Obj} {l1 : Addr} {pc ph : Addr × Obj} {gl : Nat} {xs G : List Int} :
    h₀.IsList lx [v1, v2].toArray ∨ ∃ lo n, lo.cls = .type "list" ∧ lo.data = .seq [v1, v2].toArray n ∧ ∀ i m n, toldJ mb lx v1 v2 pi l1 pc ph gl xs G i m n → (lx, lo) ∈ n :=
  .inr ⟨W.listOf [v1, v2].toArray 0, 0, rfl, rfl, by rintro i m n ⟨ug, gs2, k2, G2, rfl, rfl, _⟩; exact .head _⟩
def bitsF (b0 b1 b2 b3 : Bool) : Int := bitF b0 1 + bitF b1 2 + bitF b2 4 + bitF b3 8
def sameF (k : Int) (n0 n1 n2 n3 n : Int) : Int := bitsF (n0.fmod k == n.fmod k) (n1.fmod k == n.fmod k) (n2.fmod k == n.fmod k) (n3.fmod k == n.fmod k)
def topF (n0 : Int) : List Int := if (n0.fdiv 9).fmod 2 = 0 then [15] else []
def stepF (n0 n1 n2 n3 : Int) (G : List Int) (n : Int) : List Int := onceF (onceF G (sameF 3 n0 n1 n2 n3 n)) (if 0 < (n.fdiv 3).fmod 3 then sameF 9 n0 n1 n2 n3 n else sameF 3 n0 n1 n2 n3 n)
def toldF (n0 n1 n2 n3 : Int) : List Int := [n0, n1, n2, n3].foldl (stepF n0 n1 n2 n3) (topF n0)

section
variable {prog : Program} {w : World} {A : Around} {h₀ : Heap} {L : Addr} {m : Str → Option Value} {env : Env} {ct elt : Expr} {x : Str} {scope : Scope} {cl : List (Str × Addr)} {s : Shared} {S : List (Addr × Obj) → Prop} {Fin : List Value → List (Addr × Obj) → Prop} {news : List (Addr × Obj)}
def PowEl (c : Bool) (i : Nat) (news : List (Addr × Obj)) (y : Value) (news' : List (Addr × Obj)) : Prop := c = true ∧ (∃ t, y = .int (2 ^ i) t) ∧ news' = news
def PowNo (c : Bool) (news news' : List (Addr × Obj)) : Prop := c = false ∧ news' = news
/-- a comprehension over the four machines: the number with a bit for each that passes -/
theorem comp_pow (b : Nat → Bool)
    (turn : ∀ (i : Nat) v I oI C oC D (ys : List Value) m₂ h tk (E' : Value → Shared → Prop), i < 4 → (∃ t, v = .int (0 + (i : Int)) t) → LCg.NsObj oC m₂ → m₂ x = some v → Fr h₀ L h m → News h₀ L h ((I, oI) :: (C, oC) :: (D, LCg.lst ys) :: news) → LCg.Off3 I C D news → ((@Ne Nat I C) ∧ (@Ne Nat I D) ∧ (@Ne Nat C D)) →
      wpAny (model prog w) A (isTrue ct (compEnvC scope cl C env) (eval ct (compEnvC scope cl C env))) (fun ok s' => if ok = true then wpAny (model prog w) A (eval elt (compEnvC scope cl C env)) (LCg.CompEnd h₀ L m { s with heap := h, toks := tk } I oI C oC D (LCg.lst ys) S (fun y news' => PowEl (b i) i news y news')) E' s'
        else LCg.CompEnd h₀ L m { s with heap := h, toks := tk } I oI C oC D (LCg.lst ys) S (fun _ news' => PowNo (b i) news news') Value.none s') E' { s with heap := h, toks := tk })
    (fin : ∀ ys r, IntsAre ys r → ys.length ≤ 4 → r.sum = bitsF (b 0) (b 1) (b 2) (b 3) → Fin ys news) :
    LCt.CompRestT prog w A h₀ L m env ct elt x scope cl s S (fun i v => ∃ t, v = .int (0 + (i : Int)) t) Fin 4 0 [] news := by
  have step : ∀ (k i : Nat) (ys : List Value) (r : List Int), i < 4 → IntsAre ys r →
      (∀ ys' r', IntsAre ys' r' → ys'.length ≤ ys.length + 1 → r'.sum = r.sum + bitF (b i) (2 ^ i) → LCt.CompRestT prog w A h₀ L m env ct elt x scope cl s S (fun i v => ∃ t, v = .int (0 + (i : Int)) t) Fin k (i + 1) ys' news) →
      LCt.CompRestT prog w A h₀ L m env ct elt x scope cl s S (fun i v => ∃ t, v = .int (0 + (i : Int)) t) Fin (k + 1) i ys news := by
    intro k i ys r hi hy rest
    refine LCt.CompRestT.succ ?_
    intro v I oI C oC D m₂ h tk E' hv hC hx F N off ne
    refine wpAny_mono (turn i v I oI C oC D ys m₂ h tk E' hi hv hC hx F N off ne) (fun ok s₂ hq => ?_) fun _ _ e => e
    cases ok with
    | true =>
      simp only [if_true] at hq ⊢
      refine wpAny_mono hq (fun y s₃ hr => ?_) fun _ _ e => e
      obtain ⟨h', tk', nw, e, F', N', off', hS, hb, ⟨t, rfl⟩, rfl⟩ := hr
      refine ⟨h', tk', _, e, F', N', off', hS, rest _ (r ++ [2 ^ i]) (IntsAre.append hy (.cons _ t .nil)) (by simp) ?_⟩
      rw [List.sum_append, hb]; simp [bitF]
    | false =>
      simp only [Bool.false_eq_true, if_false] at hq ⊢
      obtain ⟨h', tk', nw, e, F', N', off', hS, hb, rfl⟩ := hq
      refine ⟨h', tk', _, e, F', N', off', hS, rest _ r hy (by omega) ?_⟩
      rw [hb]; simp [bitF]
  refine step 3 0 [] [] (by decide) .nil fun y1 r1 i1 l1 s1 => step 2 1 y1 r1 (by decide) i1 fun y2 r2 i2 l2 s2 => step 1 2 y2 r2 (by decide) i2 fun y3 r3 i3 l3 s3 => step 0 3 y3 r3 (by decide) i3 fun y4 r4 i4 l4 s4 => LCt.CompRestT.zero (fin y4 r4 i4 ?_ ?_)
  · simp only [List.length_nil] at l1; omega
  · rw [s4, s3, s2, s1]
    unfold bitsF
    simp
end

theorem law_told (w : World) (l : Addr) (n0 n1 n2 n3 : Int) (t0 t1 t2 t3 : Tok) : TellL w 101 4 [.ref l] (fun s => s.heap.IsList l [Value.int n0 t0, .int n1 t1, .int n2 t2, .int n3 t3].toArray) (fun ns => SortOf ns (toldF n0 n1 n2 n3)) := by
  rintro mean mg mb dp un gd cn cs a ccd cl outer A₀ base h₀ L m news s Q E B F X N T hk hl hd hu hret
  w_on
  walk_at "MYENTERC"
  rename_i L1 h1 tk1 F0 B1 X1 T1 o1 o2 d1 d2 N0
  have e1 : o1.data = .cell none := d1
  have e2 : o2.data = .cell (some (.ref l)) := d2
  clear d1 d2
  refine seq_cut (fun s' => ∃ (h : Heap) (tk : Nat) (l1 : Addr) (gs : List Value) (k : Nat) (G : List Int), s' = { s with heap := h, toks := tk } ∧ Fr s.heap L1 h (fun y => if y = Str.ofString "groups" then some (Value.ref l1) else none) ∧ News s.heap L1 h [(l1, W.listOf gs.toArray k), (L1 + 1 + 1, o1), (L1 + 1, o2)] ∧ @LT.lt Nat _ (L1 + 1 + 1) l1 ∧ IntsAre gs G ∧ gs.length ≤ 1 ∧ G = topF n0) ?_ ?_
  · k_steps
    · rename Fr s.heap _ _ _ => F6
      rename News s.heap _ _ _ => N6
      rename _ ∧ _ => lt6
      refine ⟨rfl, _, _, _, [_], 0, [15], rfl, F6, N6, lt6.1, .cons _ _ .nil, by simp, ?_⟩
      show [15] = if (n0.fdiv 9).fmod 2 = 0 then [15] else []
      rw [if_pos (by assumption)]
    · rename Fr s.heap _ _ _ => F6
      rename News s.heap _ _ _ => N6
      rename _ ∧ _ => lt6
      refine ⟨rfl, _, _, _, [], 0, [], rfl, F6, N6, lt6.1, .nil, by simp, ?_⟩
      show [] = if (n0.fdiv 9).fmod 2 = 0 then [15] else []
      rw [if_neg (by assumption)]
  · rintro s' ⟨h, tk, l1, gs, k, G, rfl, F1, N1, lt1, hG, hgl, eG⟩
    clear F0 N0
    k_steps
    refine Hold.mk ?_
    refine For_turns F1 ?_
    k_steps
    refine Hold.mk ?_
    refine iter_J (J := fun i m₁ news₁ => ∃ (u1 u2 u3 : Option Value) (gs : List Value) (k : Nat) (o : Obj) (dv : Option Value) (G : List Int), m₁ = (fun y => if y = Str.ofString "group" then u1 else if y = Str.ofString "inner" then u2 else if y = Str.ofString "outer" then u3 else if y = Str.ofString "groups" then some (Value.ref l1) else none) ∧
      news₁ = [(l1, W.listOf gs.toArray k), (L1 + 1 + 1, o), (L1 + 1, o2)] ∧ o.data = .cell dv ∧ IntsAre gs G ∧ gs.length ≤ 1 + 2 * i ∧ G = ([n0, n1, n2, n3].take i).foldl (stepF n0 n1 n2 n3) (topF n0)) rfl F1 N1 ⟨none, none, none, gs, k, o1, none, G, ?_, rfl, e1, hG, by omega, eG⟩ (.inl hl) ?_ ?_
    · funext y
      by_cases h1 : y = Str.ofString "group"
      · subst h1; rfl
      · by_cases h2 : y = Str.ofString "inner"
        · subst h2; rfl
        · by_cases h3 : y = Str.ofString "outer"
          · subst h3; rfl
          · rw [if_neg h1, if_neg h2, if_neg h3]
    · rintro i v m₁ news₁ I it h tk hi hv ⟨u1, u2, u3, gs, k, o, dv, G, rfl, rfl, eo, hG, hgl, eG⟩ hoff F3 N3
      have hi4 : i < 4 := hi
      obtain ⟨n, t, rfl, hn⟩ : ∃ n t, v = Value.int n t ∧ [n0, n1, n2, n3][i]? = some n := by
        rcases i with _ | _ | _ | _ | i
        · cases hv; exact ⟨_, _, rfl, rfl⟩
        · cases hv; exact ⟨_, _, rfl, rfl⟩
        · cases hv; exact ⟨_, _, rfl, rfl⟩
        · cases hv; exact ⟨_, _, rfl, rfl⟩
        · cases hv
      have ne1 : @Ne Nat l1 I := hoff _ (.head _)
      have ne2 : @Ne Nat (L1 + 1 + 1) I := hoff _ (.tail _ (.head _))
      have ne3 : @Ne Nat (L1 + 1) I := hoff _ (.tail _ (.tail _ (.head _)))
      clear F1 N1
      k_steps
      refine Hold.mk ?_
      k_dflt (refine LCt.ListComp_T (F₀ := by k_asm) (by with_unfolding_all rfl) (by decide) (by rfl) (by decide) (by rfl) ?_)
      k_steps
      refine Hold.mk ?_
      k_dflt (refine LCt.CompSrcT.range (by rfl) (by k_asm) (by k_asm) (by assumption) (by decide) (by rfl) (by exact Nat.le_of_ble_eq_true rfl) ?_)
      intro ga6
      dsimp only
      refine comp_pow (fun i => ([n0, n1, n2, n3].getD (0 + (i : Int)).toNat 0).fmod 3 == n.fmod 3) ?_ ?_
      · intro i7 v7 I7 oI7 C7 oC7 D7 ys7 m7 h7 tk7 E7 hi7 hv7 hC7 hx7 F7' N7' off7 ne7
        obtain ⟨t7, rfl⟩ := hv7
        dsimp only
        k_steps
        · have ej : (0 + (i7 : Int)).toNat = i7 := by omega
          refine ⟨beq_iff_eq.mpr (by assumption), ?_, rfl⟩
          first | exact ⟨_, rfl⟩ | (rw [ej]; exact ⟨_, rfl⟩)
        · exact ⟨beq_eq_false_iff_ne.mpr (by assumption), rfl⟩
      intro ysa3 ra3 hysa3 hyla3 ema
      replace ema : ra3.sum = sameF 3 n0 n1 n2 n3 n := ema
      k_steps
      refine Hold.mk ?_
      k_dflt (refine LCt.ListComp_T (F₀ := by k_asm) (by with_unfolding_all rfl) (by decide) (by rfl) (by decide) (by rfl) ?_)
      k_steps
      refine Hold.mk ?_
      k_dflt (refine LCt.CompSrcT.range (by rfl) (by k_asm) (by k_asm) (by assumption) (by decide) (by rfl) (by exact Nat.le_of_ble_eq_true rfl) ?_)
      intro gb6
      dsimp only
      refine comp_pow (fun i => ([n0, n1, n2, n3].getD (0 + (i : Int)).toNat 0).fmod 9 == n.fmod 9) ?_ ?_
      · intro i7 v7 I7 oI7 C7 oC7 D7 ys7 m7 h7 tk7 E7 hi7 hv7 hC7 hx7 F7' N7' off7 ne7
        obtain ⟨t7, rfl⟩ := hv7
        dsimp only
        k_steps
        · have ej : (0 + (i7 : Int)).toNat = i7 := by omega
          refine ⟨beq_iff_eq.mpr (by assumption), ?_, rfl⟩
          first | exact ⟨_, rfl⟩ | (rw [ej]; exact ⟨_, rfl⟩)
        · exact ⟨beq_eq_false_iff_ne.mpr (by assumption), rfl⟩
      intro ysb3 rb3 hysb3 hylb3 emb
      replace emb : rb3.sum = sameF 9 n0 n1 n2 n3 n := emb
      k_steps
      refine Hold.mk ?_
      refine For_turns (by assumption) ?_
      clear hyla3 hylb3
      k_steps
      · refine Hold.mk ?_
        rename 0 < (n.fdiv 3).fmod 3 => ac
        rename Fr s.heap _ _ _ => Fx
        rename News s.heap _ _ _ => Nx
        rename _ = Data.cell (some (Value.int n t)) => d3
        have Ny := drop23 Nx
        have Fy := fr_self (a := Str.ofString "group") Fx
        clear Nx Fx
        refine iter_J (J := toldJ _ _ _ _ _ _ _ _ gs.length [ra3.sum, rb3.sum] G) rfl Fy Ny ⟨_, gs, k, G, rfl, rfl, by assumption, by omega, rfl⟩ told_src ?_ ?_
        · rintro j v m₂ n₂ I2 it2 h8 tk8 hj hv8 ⟨ug, gs2, k2, G2, rfl, rfl, hG2, hgl2, eG2⟩ hoff8 F8 N8
          have hj2 : j < 2 := hj
          obtain ⟨g, tg, rfl, hg⟩ : ∃ g t, v = Value.int g t ∧ [ra3.sum, rb3.sum][j]? = some g := by
            rcases j with _ | _ | j
            · cases hv8; exact ⟨_, _, rfl, rfl⟩
            · cases hv8; exact ⟨_, _, rfl, rfl⟩
            · cases hv8
          have ne5 := neNat (hoff8 _ (.head _))
          have ne6 := neNat (hoff8 _ (.tail _ (.head _)))
          have ne7 := neNat (hoff8 _ (.tail _ (.tail _ (.head _))))
          have ne8 := neNat (hoff8 _ (.tail _ (.tail _ (.tail _ (.head _)))))
          have ne9 := neNat (hoff8 _ (.tail _ (.tail _ (.tail _ (.tail _ (.head _))))))
          dsimp only at ne5 ne6 ne7 ne8 ne9
          have hsz : gs2.toArray.size ≤ sizeLine := by rw [List.size_toArray]; unfold sizeLine; omega
          have es : ([ra3.sum, rb3.sum].take (j + 1)).foldl onceF G = onceF G2 g := by
            rw [take_snoc hg, List.foldl_append, ← eG2]; rfl
          clear Fy Ny F3 N3
          k_steps
          · rename Fr s.heap _ _ _ => F9
            rename News s.heap _ _ _ => N9
            rename (List.any G2 _) = true => hn9
            refine ⟨_, _, _, _, rfl, fr_twice F9, N9, off5 ne5 ne6 ne7 ne8 ne9, _, gs2, k2, G2, rfl, rfl, by assumption, by omega, ?_⟩
            rw [es]; unfold onceF; rw [if_pos hn9]
          · rename Fr s.heap _ _ _ => F9
            rename News s.heap _ _ _ => N9
            rename (List.any G2 _) = false => hn9
            rw [push_list] at N9
            refine ⟨_, _, _, _, rfl, fr_twice F9, N9, off5 ne5 ne6 ne7 ne8 ne9, _, gs2 ++ [Value.int g tg], k2 + 1, G2 ++ [g], rfl, rfl, IntsAre.append (by assumption) (.cons _ _ .nil), ?_, ?_⟩
            · rw [List.length_append]; simp only [List.length_cons, List.length_nil]; omega
            · rw [es]; unfold onceF; rw [if_neg (by rw [hn9]; exact Bool.false_ne_true)]
        · rintro m₂ n₂ h8 tk8 ⟨ug, gs2, k2, G2, rfl, rfl, hG2, hgl2, eG2⟩ F8 N8
          clear Fy Ny F3 N3
          k_steps
          have hgl3 : gs2.length ≤ gs.length + 2 := hgl2
          refine ⟨_, _, _, _, rfl, fr_told F8, fun p hp => N8 p (.tail _ hp), off3 ne1 ne2 ne3, ug, _, _, gs2, k2, _, _, G2, rfl, rfl, d3, hG2, by omega, ?_⟩
          rw [take_snoc hn, List.foldl_append, ← eG]
          show G2 = stepF n0 n1 n2 n3 G n
          unfold stepF
          rw [eG2, if_pos ac, ← ema, ← emb]
          rfl
      · refine Hold.mk ?_
        rename ¬ (0 < (n.fdiv 3).fmod 3) => ac
        rename Fr s.heap _ _ _ => Fx
        rename News s.heap _ _ _ => Nx
        rename _ = Data.cell (some (Value.int n t)) => d3
        have Ny := drop23 Nx
        have Fy := fr_self (a := Str.ofString "group") Fx
        clear Nx Fx
        refine iter_J (J := toldJ _ _ _ _ _ _ _ _ gs.length [ra3.sum, ra3.sum] G) rfl Fy Ny ⟨_, gs, k, G, rfl, rfl, by assumption, by omega, rfl⟩ told_src ?_ ?_
        · rintro j v m₂ n₂ I2 it2 h8 tk8 hj hv8 ⟨ug, gs2, k2, G2, rfl, rfl, hG2, hgl2, eG2⟩ hoff8 F8 N8
          have hj2 : j < 2 := hj
          obtain ⟨g, tg, rfl, hg⟩ : ∃ g t, v = Value.int g t ∧ [ra3.sum, ra3.sum][j]? = some g := by
            rcases j with _ | _ | j
            · cases hv8; exact ⟨_, _, rfl, rfl⟩
            · cases hv8; exact ⟨_, _, rfl, rfl⟩
            · cases hv8
          have ne5 := neNat (hoff8 _ (.head _))
          have ne6 := neNat (hoff8 _ (.tail _ (.head _)))
          have ne7 := neNat (hoff8 _ (.tail _ (.tail _ (.head _))))
          have ne8 := neNat (hoff8 _ (.tail _ (.tail _ (.tail _ (.head _)))))
          have ne9 := neNat (hoff8 _ (.tail _ (.tail _ (.tail _ (.tail _ (.head _))))))
          dsimp only at ne5 ne6 ne7 ne8 ne9
          have hsz : gs2.toArray.size ≤ sizeLine := by rw [List.size_toArray]; unfold sizeLine; omega
          have es : ([ra3.sum, ra3.sum].take (j + 1)).foldl onceF G = onceF G2 g := by
            rw [take_snoc hg, List.foldl_append, ← eG2]; rfl
          clear Fy Ny F3 N3
          k_steps
          · rename Fr s.heap _ _ _ => F9
            rename News s.heap _ _ _ => N9
            rename (List.any G2 _) = true => hn9
            refine ⟨_, _, _, _, rfl, fr_twice F9, N9, off5 ne5 ne6 ne7 ne8 ne9, _, gs2, k2, G2, rfl, rfl, by assumption, by omega, ?_⟩
            rw [es]; unfold onceF; rw [if_pos hn9]
          · rename Fr s.heap _ _ _ => F9
            rename News s.heap _ _ _ => N9
            rename (List.any G2 _) = false => hn9
            rw [push_list] at N9
            refine ⟨_, _, _, _, rfl, fr_twice F9, N9, off5 ne5 ne6 ne7 ne8 ne9, _, gs2 ++ [Value.int g tg], k2 + 1, G2 ++ [g], rfl, rfl, IntsAre.append (by assumption) (.cons _ _ .nil), ?_, ?_⟩
            · rw [List.length_append]; simp only [List.length_cons, List.length_nil]; omega
            · rw [es]; unfold onceF; rw [if_neg (by rw [hn9]; exact Bool.false_ne_true)]
        · rintro m₂ n₂ h8 tk8 ⟨ug, gs2, k2, G2, rfl, rfl, hG2, hgl2, eG2⟩ F8 N8
          clear Fy Ny F3 N3
          k_steps
          have hgl3 : gs2.length ≤ gs.length + 2 := hgl2
          refine ⟨_, _, _, _, rfl, fr_told F8, fun p hp => N8 p (.tail _ hp), off3 ne1 ne2 ne3, ug, _, _, gs2, k2, _, _, G2, rfl, rfl, d3, hG2, by omega, ?_⟩
          rw [take_snoc hn, List.foldl_append, ← eG]
          show G2 = stepF n0 n1 n2 n3 G n
          unfold stepF
          rw [eG2, if_neg ac, ← ema]
          rfl
    · rintro m₁ news₁ h tk ⟨u1, u2, u3, gs, k, o, dv, G, rfl, rfl, eo, hG, hgl, eG⟩ F10 N10
      clear F1 N1
      have hgl4 : gs.length ≤ 9 := hgl
      have hG16 : G.length < 64 := by rw [← hG.length]; omega
      have eG' : G = toldF n0 n1 n2 n3 := eG
      k_steps
      rename Fr s.heap _ _ _ => F6
      rename News s.heap _ _ _ => N6
      rename Fr h₀ _ _ _ => kF6
      rename List.Perm _ _ => hp6
      rename List.Pairwise _ _ => ho6
      rename IntsAre _ _ => hi6
      exact hret _ _ _ _ _ _ kF6 (news_cons F N F6 N6 (.head _)) (news_lt N F6 (by show @LT.lt Nat _ L1 _; omega)) hi6 ⟨eG' ▸ hp6, ho6⟩
end Mine
end
section
open PySem PySem.W PyProof.Rows PySem.Calls PySem.Spec
set_option maxRecDepth 100000
set_option maxHeartbeats 8000000
namespace Mine
local macro_rules | `(tactic| walk_at "MYENTERC") => `(tactic| (refine wpAny_call ?_; k_dflt (refine' pure_defC ?k1 ?k2 ?k3 ?k5 ?kA ?kF ?kK ?k6 ?k7 ?k8 ?k9 ?kB ?kD ?_ ?c2 ?c3 ?c4; (case kA => exact rfl); (case kF => exact rfl); (case kK => assumption); (case k1 => k_asm); (case k2 => k_asm); (case k3 => k_asm); (case k5 => k_asm); (case k6 => k_is); (case k7 => k_is); (case k8 => ktr_room); (case k9 => exact BindsTo.of_eq rfl); (case kB => exact rfl); (case kD => decide +kernel); (case c2 => exact rfl); (case c3 => exact rfl); (case c4 => exact rfl); k_whole; intro L' h' tk' cells' F' N' Y' B' X' T'; k_cells Y'; (try simp only [List.cons_append, List.nil_append] at N'); (try dsimp only); (try k_fold))))
local macro_rules | `(tactic| walk_at "MYENTERP") => `(tactic| (refine wpAny_call ?_; k_dflt (refine' pure_def ?k1 ?k2 ?k3 ?k5 ?kA ?kF ?kK ?k6 ?k7 ?k8 ?k9 ?kB ?_ ?c2 ?c3 ?c4 ?c5; (case kA => exact rfl); (case kF => exact rfl); (case kK => assumption); (case k1 => k_asm); (case k2 => k_asm); (case k3 => k_asm); (case k5 => k_asm); (case k6 => k_is); (case k7 => k_is); (case k8 => ktr_room); (case k9 => exact BindsTo.of_eq rfl); (case kB => exact locs rfl); (case c5 => decide); (case c2 => exact rfl); (case c3 => exact rfl); (case c4 => exact rfl); k_whole; intro L' h' F' N' B' X' T'; (try dsimp only); (try k_fold))))
/-- the caller's side of a call that reads the heap and hands back a plain value -/
abbrev TellS (w : World) (f : Addr) (d : Nat) (vs : List Value) (pre : Shared → Prop) (R : Value) : Prop :=
  ∀ (mean : ExcName → Option Value) (mg mb : Str → Option Value) (dp un : Nat) (gd : Option (List Code)) (cn : Str) (cs : Scope) (a : Addr) (ccd : Value) (cl : List (Str × Addr)) (outer : List Env) (A₀ : Around) (base h₀ : Heap) (L : Addr) (m : Str → Option Value) (news : List (Addr × Obj)) (s : Shared) (Q E : Value → Shared → Prop),
    Below A₀ base outer h₀ → Fr h₀ L s.heap m → (Mine.hd.heap_39 w.params).In h₀ → News h₀ L s.heap news → Top V LS mean mg mb h₀ → cs.kind = .function →
    pre s → dp + d < recursionLimit → un + 8 * d < cLine →
    (∀ (h' : Heap) (tk' : Nat), Fr h₀ L h' m → News h₀ L h' news → Q R { s with heap := h', toks := tk' }) →
      wpAny (model P w) (ktrTop dp un gd cn cs L a ccd cl outer) (call (.ref f) vs) Q E s
local macro_rules | `(tactic| walk_at "call builtin:sorted") => `(tactic| (refine Hold.out ?_))
theorem median5 (w : World) (l : Addr) (b0 b1 b2 b3 b4 : Bool) : TellS w 84 3 [.ref l] (fun s => s.heap.IsList l (bools [b0, b1, b2, b3, b4]).toArray) (.bool (decide (3 ≤ [b0, b1, b2, b3, b4].count true))) := by
  rintro mean mg mb dp un gd cn cs a ccd cl outer A₀ base h₀ L m news s Q E B F X N T hk hl hd hu hret
  w_on
  walk_at "MYENTERP"
  k_steps
  refine Hold.mk ?_
  k_here
  refine sorted_bools (by k_asm) (by k_asm) (hl.at (fun o e => Fr.keep (by assumption) _ o e)) (by simp) ?_
  intro D' b' c' h' F' N' l1 p' o'
  obtain ⟨p, q, r, t, u, rfl, hr⟩ := mid5 p' o'
  dsimp only [bools, List.map] at N'
  k_steps
  rw [hr]
  rename Fr h₀ _ _ _ => kF6
  rename Fr s.heap _ _ _ => F6
  exact hret _ _ kF6 (news_keep N F6.keep)
theorem median4 (w : World) (l : Addr) (b0 b1 b2 b3 : Bool) : TellS w 84 3 [.ref l] (fun s => s.heap.IsList l (bools [b0, b1, b2, b3]).toArray) (.bool (decide (3 ≤ [b0, b1, b2, b3].count true))) := by
  rintro mean mg mb dp un gd cn cs a ccd cl outer A₀ base h₀ L m news s Q E B F X N T hk hl hd hu hret
  w_on
  walk_at "MYENTERP"
  k_steps
  refine Hold.mk ?_
  k_here
  refine sorted_bools (by k_asm) (by k_asm) (hl.at (fun o e => Fr.keep (by assumption) _ o e)) (by simp) ?_
  intro D' b' c' h' F' N' l1 p' o'
  obtain ⟨p, q, r, t, rfl, hr⟩ := mid4 p' o'
  dsimp only [bools, List.map] at N'
  k_steps
  rw [hr]
  rename Fr h₀ _ _ _ => kF6
  rename Fr s.heap _ _ _ => F6
  exact hret _ _ kF6 (news_keep N F6.keep)
end Mine
end
section
open PySem PySem.W PyProof.Rows PySem.Calls PySem.Spec
set_option maxRecDepth 100000
set_option maxHeartbeats 8000000
namespace Mine
section
variable {prog : Program} {w : World} {A : Around} {E : Value → Shared → Prop} {s : Shared} {env : Env} {h₀ : Heap} {x : Str} {px : Pos} {body : List Stmt} {Q : Flow → Shared → Prop}
/-- a for loop over a range by what holds between its turns -/
theorem iter_R {r : Addr} {a b : Int} {t u v : Tok} {n : Nat} {m₀ : Str → Option Value} {news : List (Addr × Obj)} (J : Nat → (Str → Option Value) → List (Addr × Obj) → Prop)
    (hh : A.handled = none) (F : Fr h₀ env.locals s.heap m₀) (N : News h₀ env.locals s.heap news) (hj : J 0 m₀ news)
    (hr : IsRange s.heap r a b 1 t u v) (hsm : Builtin.Range.small a b 1 = true) (hn : Builtin.Range.rangeSize a b 1 = ((n : Nat) : Int))
    (turn : ∀ i v m₁ news₁ I it h tk, I = s.heap.objs.size → (∀ p ∈ news, @LT.lt Nat _ p.1 I) → i < n → (∃ t, v = .int (a + (i : Int)) t) → J i m₁ news₁ → (∀ p ∈ news₁, p.1 ≠ I) → Fr h₀ env.locals h m₁ → News h₀ env.locals h ((I, it) :: news₁) →
      wpAny (model prog w) A (assign (.Name x px) env v) (fun _ s₂ => wpAny (model prog w) A (execs body env) (TurnPost h₀ env.locals I it (J (i + 1)) s Q) E s₂) E { s with heap := h, toks := tk })
    (done : ∀ m₁ news₁ h tk, J n m₁ news₁ → Fr h₀ env.locals h m₁ → News h₀ env.locals h news₁ → Q .next { s with heap := h, toks := tk }) :
    wpAny (model prog w) A (pyIter (.ref r)) (fun it s₂ => TurnsAt prog w A h₀ env (.Name x px) body Q E it s₂) E s := by
  refine wpAny_pyIter_range hr hsm ?_
  have W := LCg.range_walks (prog := prog) (w := w) (I := s.heap.objs.size) hh a n
  refine ⟨_, _, _, n, _, _, _, m₀, news, J, rfl, KTurns.ofWalks W fun i v s Q E st q => wpAny_pure q, ?_, ?_, ?_, (by show IsRangeIter _ _ _ _ _; rw [hn]; simpa using Heap.get?_push_size _ rfl), F.push _, (fun p hp => ⟨Heap.get?_push_of_some _ (N p hp).1, (N p hp).2⟩), hj, ?_, ?_⟩
  · intro hm
    exact absurd F.ns.lt ((List.mem_singleton.mp hm) ▸ Nat.lt_irrefl _)
  · intro b hb
    rw [List.mem_singleton.mp hb]
    exact next_is_new F
  · intro p hp hI
    exact absurd (Heap.lt_size (N p hp).1) ((List.mem_singleton.mp hI) ▸ Nat.lt_irrefl _)
  · intro i v m₁ news₁ h₁ tk₁ own hin hP hJ hoff hown hget hall st F₁ N₁
    have hit := st
    have hI₀ : h₀.get? s.heap.objs.size = none := next_is_new F
    obtain ⟨it, hit⟩ : ∃ o, h₁.get? s.heap.objs.size = some o := ⟨_, st⟩
    have hIown : (s.heap.objs.size, it) ∈ own := hall _ (List.mem_singleton.mpr rfl) hI₀ it hit
    have hoff' : ∀ p ∈ news₁, p.1 ≠ s.heap.objs.size := fun p hp e => hoff p hp (by rw [e]; exact List.mem_singleton.mpr rfl)
    have N₂ : News h₀ env.locals h₁ ((s.heap.objs.size, it) :: news₁) := fun p hp => by
      rcases List.mem_cons.mp hp with rfl | hp
      · exact N₁ _ (List.mem_append_left _ hIown)
      · exact N₁ _ (List.mem_append_right _ hp)
    have fin : ∀ s₃, TurnEnd h₀ env.locals s.heap.objs.size it (J (i + 1)) s s₃ → LoopStepU h₀ env.locals [s.heap.objs.size] own (J (i + 1)) { s with heap := h₁, toks := tk₁ } .next s₃ := by
      rintro s₃ ⟨h', tk, m', news', e, F', N', ho, hJ'⟩
      refine ⟨rfl, h', tk, m', news', e, F', fun p hp => ?_, fun p hp hI => ho p hp (List.mem_singleton.mp hI), hJ'⟩
      rcases List.mem_append.mp hp with hp | hp
      · obtain ⟨pa, po⟩ := p
        have h2 : h₁.get? pa = some po := hget _ hp
        have h3' : pa = s.heap.objs.size := List.mem_singleton.mp (hown _ hp)
        subst h3'
        have h6 : it = po := Option.some.inj (hit.symm.trans h2)
        subst h6
        exact N' _ (List.mem_cons_self ..)
      · exact N' _ (List.mem_cons_of_mem _ hp)
    refine wpAny_mono (turn i v m₁ news₁ s.heap.objs.size it h₁ tk₁ rfl (fun p hp => Heap.lt_size (N p hp).1) hin hP hJ hoff' F₁ N₂) (fun _ s₂ h₂ => wpAny_mono h₂ (fun f s₃ p => ?_) fun _ _ e => e) fun _ _ e => e
    cases f with
    | ret v => exact .ret p
    | brk => exact .brk p
    | next => exact .next (fin _ p)
    | cont => exact .cont (fin _ p)
  · rintro h' tk m' news' F' N' _ hJ
    exact done m' news' h' tk hJ F' N'
end
section
variable {prog : Program} {w : World} {A : Around} {E : Value → Shared → Prop} {s : Shared} {env : Env} {h₀ : Heap} {target : Expr} {body : List Stmt} {Q : Flow → Shared → Prop}
theorem iter_JI {l : Addr} {vs : List Value} {m₀ : Str → Option Value} {news : List (Addr × Obj)} (J : Addr → Nat → (Str → Option Value) → List (Addr × Obj) → Prop)
    (hh : A.handled = none) (F : Fr h₀ env.locals s.heap m₀) (N : News h₀ env.locals s.heap news) (hj : ∀ I, J I 0 m₀ news)
    (src : h₀.IsList l vs.toArray ∨ ∃ lo n, lo.cls = .type "list" ∧ lo.data = .seq vs.toArray n ∧ ∀ I i m n, J I i m n → (l, lo) ∈ n)
    (turn : ∀ i v m₁ news₁ I it h tk, (∀ p ∈ news, @LT.lt Nat _ p.1 I) → i < vs.length → vs[i]? = some v → J I i m₁ news₁ → (∀ p ∈ news₁, p.1 ≠ I) → Fr h₀ env.locals h m₁ → News h₀ env.locals h ((I, it) :: news₁) →
      wpAny (model prog w) A (assign target env v) (fun _ s₂ => wpAny (model prog w) A (execs body env) (TurnPost h₀ env.locals I it (J I (i + 1)) s Q) E s₂) E { s with heap := h, toks := tk })
    (done : ∀ I m₁ news₁ h tk, (∀ p ∈ news, @LT.lt Nat _ p.1 I) → J I vs.length m₁ news₁ → Fr h₀ env.locals h m₁ → News h₀ env.locals h news₁ → Q .next { s with heap := h, toks := tk }) :
    wpAny (model prog w) A (pyIter (.ref l)) (fun it s₂ => TurnsAt prog w A h₀ env target body Q E it s₂) E s :=
  iter_J' (J s.heap.objs.size) hh F N (hj _) (src.imp id fun ⟨lo, n, a, b, c⟩ => ⟨lo, n, a, b, c _⟩) (fun i v m₁ news₁ I it h tk e hlt => by subst e; exact turn i v m₁ news₁ _ it h tk hlt)
    fun m₁ news₁ h tk => done _ m₁ news₁ h tk fun p hp => Heap.lt_size (N p hp).1
end
/-- the twelve numbers -/
def numF (ns : List Int) : List Int := ns.take 12 ++ [3, 0, 4, 4, 3, 3, 0, 1, 12, 0, 0, 1].drop (ns.take 12).length
theorem numF_len (ns : List Int) : (numF ns).length = 12 := by
  unfold numF
  rw [List.length_append, List.length_drop, List.length_take]
  simp only [List.length_cons, List.length_nil]
  omega
theorem twelve {l : List Int} (h : l.length = 12) : ∃ a b c d e f g i j k m n, l = [a, b, c, d, e, f, g, i, j, k, m, n] := by
  match l, h with
  | [a, b, c, d, e, f, g, i, j, k, m, n], _ => exact ⟨a, b, c, d, e, f, g, i, j, k, m, n, rfl⟩
theorem ints_cons {vs : List Value} {a : Int} {l : List Int} (h : IntsAre vs (a :: l)) : ∃ t r, vs = Value.int a t :: r ∧ IntsAre r l := by
  cases h with
  | cons _ t r => exact ⟨t, _, rfl, r⟩
theorem ints_nil {vs : List Value} (h : IntsAre vs []) : vs = [] := by cases h; rfl
theorem ints12 {vs : List Value} {a b c d e f g i j k m n : Int} (h : IntsAre vs [a, b, c, d, e, f, g, i, j, k, m, n]) :
    ∃ t0 t1 t2 t3 t4 t5 t6 t7 t8 t9 t10 t11, vs = [.int a t0, .int b t1, .int c t2, .int d t3, .int e t4, .int f t5, .int g t6, .int i t7, .int j t8, .int k t9, .int m t10, .int n t11] := by
  obtain ⟨t0, _, rfl, h0⟩ := ints_cons h
  obtain ⟨t1, _, rfl, h1⟩ := ints_cons h0
  obtain ⟨t2, _, rfl, h2⟩ := ints_cons h1
  obtain ⟨t3, _, rfl, h3⟩ := ints_cons h2
  obtain ⟨t4, _, rfl, h4⟩ := ints_cons h3
  obtain ⟨t5, _, rfl, h5⟩ := ints_cons h4
  obtain ⟨t6, _, rfl, h6⟩ := ints_cons h5
  obtain ⟨t7, _, rfl, h7⟩ := ints_cons h6
  obtain ⟨t8, _, rfl, h8⟩ := ints_cons h7
  obtain ⟨t9, _, rfl, h9⟩ := ints_cons h8
  obtain ⟨t10, _, rfl, h10⟩ := ints_cons h9
  obtain ⟨t11, _, rfl, h11⟩ := ints_cons h10
  rw [ints_nil h11]
  exact ⟨t0, t1, t2, t3, t4, t5, t6, t7, t8, t9, t10, t11, rfl⟩
structure Fam where
  a : Addr
  vs : List Value
  c : Nat
  ns : List Int
abbrev Fam.obj (f : Fam) : Addr × Obj := (f.a, W.listOf f.vs.toArray f.c)
abbrev Fam.val (f : Fam) : Value := .ref f.a
/-- between the turns of the loop over the registers -/
abbrev regJ (mb : Str → Option Value) (lx : Addr) (vx : Obj) (lf : Addr) (pn pv pj : Addr × Obj) (c1 : Addr) (told : Nat → List Int) (I₀ : Addr) (i : Nat) (m : Str → Option Value) (n : List (Addr × Obj)) : Prop :=
  ∃ (u1 u2 u3 u4 : Option Value) (fs : List Fam) (k : Nat) (o : Obj) (dv : Option Value),
    m = (fun y => if y = Str.ofString "n" then u1 else if y = Str.ofString "hosts" then u2 else if y = Str.ofString "last" then u3 else if y = Str.ofString "k" then u4 else mb y) ∧
    n = (lx, vx) :: (lf, W.listOf (fs.map Fam.val).toArray k) :: pn :: pv :: pj :: (c1, o) :: fs.map Fam.obj ∧ o.data = .cell dv ∧ fs.length = i ∧
    (∀ j f, fs[j]? = some f → IntsAre f.vs f.ns ∧ SortOf f.ns (told j)) ∧ (∀ f ∈ fs, @LT.lt Nat _ I₀ f.a) ∧ fs.Pairwise (fun f g => @LT.lt Nat _ f.a g.a)
theorem reg_src {h₀ : Heap} {mb : Str → Option Value} {lx : Addr} {vx : Obj} {vs : List Value} {k : Nat} {lf : Addr} {pn pv pj : Addr × Obj} {c1 : Addr} {told : Nat → List Int} (e : vx = W.listOf vs.toArray k) :
    h₀.IsList lx vs.toArray ∨ ∃ lo n, lo.cls = .type "list" ∧ lo.data = .seq vs.toArray n ∧ ∀ I i m n, regJ mb lx vx lf pn pv pj c1 told I i m n → (lx, lo) ∈ n :=
  .inr ⟨vx, k, by rw [e], by rw [e], by rintro I i m n ⟨u1, u2, u3, u4, fs, k, o, dv, rfl, rfl, _⟩; exact .head _⟩
theorem reg_start {mb : Str → Option Value} (h1 : mb (Str.ofString "n") = none) (h2 : mb (Str.ofString "hosts") = none) (h3 : mb (Str.ofString "last") = none) (h4 : mb (Str.ofString "k") = none) :
    mb = (fun y => if y = Str.ofString "n" then none else if y = Str.ofString "hosts" then none else if y = Str.ofString "last" then none else if y = Str.ofString "k" then none else mb y) := by
  funext y
  by_cases e1 : y = Str.ofString "n"
  · rw [if_pos e1, e1, h1]
  · rw [if_neg e1]
    by_cases e2 : y = Str.ofString "hosts"
    · rw [if_pos e2, e2, h2]
    · rw [if_neg e2]
      by_cases e3 : y = Str.ofString "last"
      · rw [if_pos e3, e3, h3]
      · rw [if_neg e3]
        by_cases e4 : y = Str.ofString "k"
        · rw [if_pos e4, e4, h4]
        · rw [if_neg e4]
/-- what the register of the four numbers at the place tells -/
def toldAt (l : List Int) (j : Nat) : List Int := toldF (l.getD (4 * j) 0) (l.getD (4 * j + 1) 0) (l.getD (4 * j + 2) 0) (l.getD (4 * j + 3) 0)
/-- between the turns of the loop over a register's machines -/
abbrev hosJ (mb : Str → Option Value) (lh : Addr) (pI px pf pn pv pj : Addr × Obj) (c1 : Addr) (R : List (Addr × Obj)) (hs : List Str) (j : Nat) (m : Str → Option Value) (n : List (Addr × Obj)) : Prop :=
  ∃ (un : Option Value) (vs : List Value) (kh : Nat) (o : Obj) (dv : Option Value),
    m = (fun y => if y = Str.ofString "n" then un else mb y) ∧ n = (lh, W.listOf vs.toArray kh) :: pI :: px :: pf :: pn :: pv :: pj :: (c1, o) :: R ∧ o.data = .cell dv ∧ StrsAre vs (hs.take j) ∧ vs.length = j
theorem drop2 {h₀ h : Heap} {L : Addr} {a b : Addr × Obj} {r : List (Addr × Obj)} (N : News h₀ L h (a :: b :: r)) : News h₀ L h (a :: r) := fun p hp => by
  rcases List.mem_cons.mp hp with rfl | hp
  · exact N _ (.head _)
  · exact N _ (.tail _ (.tail _ hp))
/-- a bound of a text's length -/
def Sz (x : Str) (n : Nat) : Prop := x.length ≤ n
theorem sz_app {x y : Str} {a b : Nat} (h : Sz x a) (k : Sz y b) : Sz (x ++ y) (a + b) := by
  unfold Sz at *
  rw [PySem.Str.length_append]
  omega
theorem sz_tab {L : List Str} {k : Nat} {d : Str} (h : (d :: L).all (fun s => decide (s.length ≤ 20)) = true) : Sz (L.getD k d) 20 := KOpn.len_getD h
theorem sz_lit {x : Str} (h : x.length ≤ 20) : Sz x 20 := h
theorem sz_add {x y : Str} {a b : Nat} (h : Sz x a) (k : Sz y b) (hle : a + b ≤ 16777216) : x.length + y.length ≤ 16777216 := by
  unfold Sz at *
  omega
theorem sz_str {j : Nat} (h : j < 4) : Sz (Str.ofString (toString (0 + (j : Int)))) 20 := by
  match j, h with
  | 0, _ => exact (by decide +kernel : (Str.ofString (toString (0 + ((0 : Nat) : Int)))).length ≤ 20)
  | 1, _ => exact (by decide +kernel : (Str.ofString (toString (0 + ((1 : Nat) : Int)))).length ≤ 20)
  | 2, _ => exact (by decide +kernel : (Str.ofString (toString (0 + ((2 : Nat) : Int)))).length ≤ 20)
  | 3, _ => exact (by decide +kernel : (Str.ofString (toString (0 + ((3 : Nat) : Int)))).length ≤ 20)
/-- a machine's host -/
def hostF (i : Int) (n n0 : Int) : Str :=
  Str.ofString "m" ++ Str.ofString (toString i) ++ [Str.ofString "", Str.ofString ".a", Str.ofString ".local"].getD ((n.fdiv 3).fmod 3).toNat Str.empty ++ [Str.ofString ".a", Str.ofString ".local", Str.ofString ".ba"].getD (n.fmod 3).toNat Str.empty ++
    [Str.ofString ".local", Str.ofString ".net"].getD ((n0.fdiv 9).fmod 2).toNat Str.empty
/-- the host of the machine at a place of the register at a place -/
def hostAt (l : List Int) (kk : Int) (j : Nat) : Str := hostF (0 + (j : Int)) (l.getD (kk + (0 + (j : Int))).toNat 0) (l.getD kk.toNat 0)
abbrev hostsAt (l : List Int) (kk : Int) : List Str := [hostAt l kk 0, hostAt l kk 1, hostAt l kk 2, hostAt l kk 3]
theorem hosts_get {l : List Int} {kk : Int} {j : Nat} (h : j < 4) : (hostsAt l kk)[j]? = some (hostAt l kk j) := by
  match j, h with
  | 0, _ => rfl
  | 1, _ => rfl
  | 2, _ => rfl
  | 3, _ => rfl
theorem strs_cons {vs : List Value} {x : Str} {l : List Str} (h : StrsAre vs (x :: l)) : ∃ t r, vs = Value.str x t :: r ∧ StrsAre r l := by
  cases h with
  | cons _ t r => exact ⟨t, _, rfl, r⟩
theorem strs4 {vs : List Value} {a b c d : Str} (h : StrsAre vs [a, b, c, d]) : ∃ t0 t1 t2 t3, vs = [.str a t0, .str b t1, .str c t2, .str d t3] := by
  obtain ⟨t0, _, rfl, h0⟩ := strs_cons h
  obtain ⟨t1, _, rfl, h1⟩ := strs_cons h0
  obtain ⟨t2, _, rfl, h2⟩ := strs_cons h1
  obtain ⟨t3, _, rfl, h3⟩ := strs_cons h2
  cases h3
  exact ⟨t0, t1, t2, t3, rfl⟩
def nddB : List Nat → Bool
  | [] => true
  | c :: r => !(c == 46 && Sre.isDigit (r.getD 0 0)) && nddB r
theorem ndd_of {x : Str} (h : nddB x.cps.toList = true) : NDD x.cps := by
  rw [ndd_iff]
  have key : ∀ (l : List Nat), nddB l = true → ∀ i, l.getD i 0 = 46 → Sre.isDigit (l.getD (i + 1) 0) = false := by
    intro l
    induction l with
    | nil => intro _ i e; rw [List.getD_eq_getElem?_getD, List.getElem?_nil] at e; cases e
    | cons c r ih =>
      intro hb i e
      unfold nddB at hb
      rw [Bool.and_eq_true] at hb
      cases i with
      | zero =>
        have e' : c = 46 := e
        have h1 := hb.1
        rw [e'] at h1
        show Sre.isDigit (r.getD 0 0) = false
        cases q : Sre.isDigit (r.getD 0 0) with
        | false => rfl
        | true => rw [q] at h1; exact absurd h1 (by decide)
      | succ i => exact ih hb.2 i e
  exact key _ h
def goodB (x : Str) : Bool := x.cps.toList.all (fun c => decide (c < 128 ∧ ¬ (65 ≤ c ∧ c ≤ 90))) && nddB x.cps.toList && decide (x.length ≤ 100)
theorem good_of {x : Str} (h : goodB x = true) : Good x := by
  unfold goodB at h
  rw [Bool.and_eq_true, Bool.and_eq_true, decide_eq_true_eq] at h
  exact ⟨fun c hc => of_decide_eq_true (List.all_eq_true.mp h.1.1 c hc), ndd_of h.1.2, h.2⟩
/-- the host by its three small numbers -/
def hostN (j a b c : Nat) : Str :=
  Str.ofString "m" ++ Str.ofString (toString (0 + (j : Int))) ++ [Str.ofString "", Str.ofString ".a", Str.ofString ".local"].getD a Str.empty ++ [Str.ofString ".a", Str.ofString ".local", Str.ofString ".ba"].getD b Str.empty ++
    [Str.ofString ".local", Str.ofString ".net"].getD c Str.empty
theorem good_hostN : ∀ j, j < 4 → ∀ a, a < 3 → ∀ b, b < 3 → ∀ c, c < 2 → goodB (hostN j a b c) = true := by decide +kernel
theorem fmod_nat {n k : Int} (h : 0 < k) : (n.fmod k).toNat < k.toNat := by
  have h1 := Int.fmod_nonneg_of_pos n h
  have h2 := Int.fmod_lt_of_pos n h
  omega
theorem good_host {l : List Int} {kk : Int} {j : Nat} (h : j < 4) : Good (hostAt l kk j) :=
  good_of (good_hostN j h _ (fmod_nat (by decide)) _ (fmod_nat (by decide)) _ (fmod_nat (by decide)))
def AllNe (d : Addr) : List (Addr × Obj) → Prop
  | [] => True
  | p :: r => (@Ne Nat p.1 d) ∧ AllNe d r
theorem allNe_of {d : Addr} : ∀ {l : List (Addr × Obj)}, (∀ p ∈ l, @Ne Nat p.1 d) → AllNe d l
  | [], _ => trivial
  | p :: _, h => ⟨h p (.head _), allNe_of fun q hq => h q (.tail _ hq)⟩
theorem allNe_mem {d : Addr} : ∀ {l : List (Addr × Obj)}, AllNe d l → ∀ p ∈ l, p.1 ≠ d
  | [], _, _, h => nomatch h
  | _ :: _, h, p, hp => by
    rcases List.mem_cons.mp hp with rfl | hp
    · exact h.1
    · exact allNe_mem h.2 p hp
theorem fr_reg {h₀ h : Heap} {L : Addr} {n a l k : Str} {v1 v2 v3 v4 w1 w2 w3 w4 : Option Value} {r : Str → Option Value}
    (F : Fr h₀ L h (fun y => if y = n then v1 else if y = a then v2 else if y = l then v3 else if y = k then v4 else if y = n then w1 else if y = a then w2 else if y = l then w3 else if y = k then w4 else r y)) :
    Fr h₀ L h (fun y => if y = n then v1 else if y = a then v2 else if y = l then v3 else if y = k then v4 else r y) := by
  have e : (fun y => if y = n then v1 else if y = a then v2 else if y = l then v3 else if y = k then v4 else if y = n then w1 else if y = a then w2 else if y = l then w3 else if y = k then w4 else r y) = fun y => if y = n then v1 else if y = a then v2 else if y = l then v3 else if y = k then v4 else r y := by
    funext y
    by_cases h1 : y = n
    · simp only [if_pos h1]
    · by_cases h2 : y = a
      · simp only [if_neg h1, if_pos h2]
      · by_cases h3 : y = l
        · simp only [if_neg h1, if_neg h2, if_pos h3]
        · by_cases h4 : y = k
          · simp only [if_neg h1, if_neg h2, if_neg h3, if_pos h4]
          · simp only [if_neg h1, if_neg h2, if_neg h3, if_neg h4]
  rw [e] at F; exact F
theorem news_reg {h₀ h : Heap} {L : Addr} {a b c d : Addr × Obj} {rest : List (Addr × Obj)} (N : News h₀ L h (a :: b :: c :: d :: rest)) : News h₀ L h (rest ++ [c]) := fun p hp => by
  rcases List.mem_append.mp hp with hp | hp
  · exact N _ (.tail _ (.tail _ (.tail _ (.tail _ hp))))
  · rw [List.mem_singleton.mp hp]; exact N _ (.tail _ (.tail _ (.head _)))
theorem fams_snoc {P : Nat → Fam → Prop} {f : Fam} : ∀ {fs : List Fam} {i : Nat}, fs.length = i → (∀ j g, fs[j]? = some g → P j g) → P i f → ∀ j g, (fs ++ [f])[j]? = some g → P j g := by
  intro fs i hl h hf j g e
  rcases Nat.lt_trichotomy j i with hlt | rfl | hgt
  · rw [List.getElem?_append_left (by omega)] at e
    exact h j g e
  · rw [List.getElem?_append_right (by omega), hl, Nat.sub_self] at e
    cases e; exact hf
  · rw [List.getElem?_eq_none (by rw [List.length_append, hl]; simp only [List.length_cons, List.length_nil]; omega)] at e
    cases e
theorem fams_all {P : Fam → Prop} {f : Fam} {fs : List Fam} (h : ∀ g ∈ fs, P g) (hf : P f) : ∀ g ∈ fs ++ [f], P g := by
  intro g hg
  rcases List.mem_append.mp hg with hg | hg
  · exact h g hg
  · rw [List.mem_singleton.mp hg]; exact hf
theorem fams_pw {R : Fam → Fam → Prop} {f : Fam} {fs : List Fam} (h : fs.Pairwise R) (hf : ∀ g ∈ fs, R g f) : (fs ++ [f]).Pairwise R :=
  List.pairwise_append.mpr ⟨h, List.pairwise_singleton _ _, fun g hg k hk => by rw [List.mem_singleton.mp hk]; exact hf g hg⟩
end Mine
end
section
open PySem PySem.W PyProof.Rows PySem.F PySem.Spec PySem.Calls
set_option maxRecDepth 100000
namespace Mine
/-- labels, each with its dot ahead -/
def dotted : List (List Nat) → List Nat
  | [] => []
  | l :: r => 46 :: (l ++ dotted r)
theorem dotted_app : ∀ a b, dotted (a ++ b) = dotted a ++ dotted b
  | [], _ => rfl
  | l :: r, b => by
    show 46 :: (l ++ dotted (r ++ b)) = 46 :: (l ++ dotted r) ++ dotted b
    rw [dotted_app r b]; simp
def DotL (T : List (List Nat)) : Prop := ∀ l ∈ T, 46 ∉ l
theorem split_dot : ∀ {l l' : List Nat} {R R' : List (List Nat)}, 46 ∉ l → 46 ∉ l' → l ++ dotted R = l' ++ dotted R' → l = l' ∧ dotted R = dotted R'
  | [], [], _, _, _, _, e => ⟨rfl, e⟩
  | [], c :: r', R, R', _, h', e => by
    exfalso
    cases R with
    | nil => cases e
    | cons a b =>
      have e' : 46 :: (a ++ dotted b) = c :: (r' ++ dotted R') := e
      injection e' with e1 _
      exact h' (e1 ▸ .head _)
  | c :: r, [], R, R', h, _, e => by
    exfalso
    cases R' with
    | nil => cases e
    | cons a b =>
      have e' : c :: (r ++ dotted R) = 46 :: (a ++ dotted b) := e
      injection e' with e1 _
      exact h (e1 ▸ .head _)
  | c :: r, c' :: r', R, R', h, h', e => by
    have e' : c :: (r ++ dotted R) = c' :: (r' ++ dotted R') := e
    injection e' with e1 e2
    obtain ⟨q1, q2⟩ := split_dot (fun hm => h (.tail _ hm)) (fun hm => h' (.tail _ hm)) e2
    exact ⟨by rw [e1, q1], q2⟩
theorem dotted_inj : ∀ {S T : List (List Nat)}, DotL S → DotL T → dotted S = dotted T → S = T
  | [], [], _, _, _ => rfl
  | [], _ :: _, _, _, e => by cases e
  | _ :: _, [], _, _, e => by cases e
  | a :: S, b :: T, hS, hT, e => by
    have e' : 46 :: (a ++ dotted S) = 46 :: (b ++ dotted T) := e
    injection e' with _ e2
    obtain ⟨q1, q2⟩ := split_dot (hS a (.head _)) (hT b (.head _)) e2
    rw [q1, dotted_inj (fun l h => hS l (.tail _ h)) (fun l h => hT l (.tail _ h)) q2]
theorem skip_suf {S : List (List Nat)} {w : List Nat} (ne : S ≠ []) : ∀ {m : List Nat}, 46 ∉ m → dotted S <:+ m ++ w → dotted S <:+ w
  | [], _, h => h
  | c :: m, hm, h => by
    rcases List.suffix_cons_iff.mp (show dotted S <:+ c :: (m ++ w) from h) with e | h
    · exfalso
      cases S with
      | nil => exact ne rfl
      | cons a b =>
        have e' : 46 :: (a ++ dotted b) = c :: (m ++ w) := e
        injection e' with e1 _
        exact hm (e1 ▸ .head _)
    · exact skip_suf ne (fun q => hm (.tail _ q)) h
theorem suf_iff {S : List (List Nat)} (hS : DotL S) (ne : S ≠ []) : ∀ {T : List (List Nat)} {m : List Nat}, 46 ∉ m → DotL T → (dotted S <:+ m ++ dotted T ↔ S <:+ T)
  | [], m, hm, _ => by
    constructor
    · intro h
      have h1 := skip_suf ne hm h
      have h2 : dotted S = [] := List.suffix_nil.mp h1
      cases S with
      | nil => exact absurd rfl ne
      | cons a b => cases h2
    · intro h
      exact absurd (List.suffix_nil.mp h) ne
  | l :: r, m, hm, hT => by
    have hl := hT l (.head _)
    have hr : DotL r := fun x h => hT x (.tail _ h)
    constructor
    · intro h
      have h1 := skip_suf ne hm h
      rcases List.suffix_cons_iff.mp (show dotted S <:+ 46 :: (l ++ dotted r) from h1) with e | h2
      · have : S = l :: r := dotted_inj hS hT (show dotted S = dotted (l :: r) from e)
        rw [this]; exact List.suffix_refl _
      · exact List.suffix_cons_iff.mpr (.inr ((suf_iff hS ne hl hr).mp h2))
    · rintro ⟨P, e⟩
      rw [← e, dotted_app, ← List.append_assoc]
      exact List.suffix_append _ _
theorem split46 : ∀ {a b c d : List Nat}, 46 ∉ a → 46 ∉ c → a ++ 46 :: b = c ++ 46 :: d → a = c ∧ b = d
  | [], b, [], d, _, _, e => ⟨rfl, by injection e⟩
  | [], b, x :: c, d, _, hc, e => by
    have e' : 46 :: b = x :: (c ++ 46 :: d) := e
    injection e' with e1 _
    exact absurd (.head _) (e1 ▸ hc)
  | x :: a, b, [], d, ha, _, e => by
    have e' : x :: (a ++ 46 :: b) = 46 :: d := e
    injection e' with e1 _
    exact absurd (.head _) (e1 ▸ ha)
  | x :: a, b, y :: c, d, ha, hc, e => by
    have e' : x :: (a ++ 46 :: b) = y :: (c ++ 46 :: d) := e
    injection e' with e1 e2
    obtain ⟨q1, q2⟩ := split46 (fun h => ha (.tail _ h)) (fun h => hc (.tail _ h)) e2
    exact ⟨by rw [e1, q1], q2⟩
/-- good labels -/
def LabL (T : List (List Nat)) : Prop := ∀ l ∈ T, 46 ∉ l ∧ ∃ c r, l = c :: r ∧ c ≠ 109 ∧ Sre.isDigit c = false
theorem LabL.dot {T : List (List Nat)} (h : LabL T) : DotL T := fun l hl => (h l hl).1
theorem LabL.tail {l : List Nat} {T : List (List Nat)} (h : LabL (l :: T)) : LabL T := fun x hx => h x (.tail _ hx)
theorem LabL.suf {S T : List (List Nat)} (h : LabL T) (s : S <:+ T) : LabL S := fun l hl => h l (s.subset hl)
theorem last_lab : ∀ (T : List (List Nat)) (m : List Nat), m ≠ [] → 46 ∉ m → LabL T → (m ++ dotted T).getLast? ≠ some 46
  | [], m, ne, hm, _ => by
    intro e
    rw [show dotted [] = [] from rfl, List.append_nil] at e
    exact hm (List.mem_of_getLast? e)
  | l :: r, m, _, _, hT => by
    obtain ⟨h1, c, q, rfl, _⟩ := hT l (.head _)
    intro e
    rw [List.getLast?_append] at e
    have e2 : (dotted ((c :: q) :: r)).getLast? = ((c :: q) ++ dotted r).getLast? := by
      show (46 :: ((c :: q) ++ dotted r)).getLast? = _
      rfl
    rw [e2] at e
    have ih := last_lab r (c :: q) (by simp) h1 hT.tail
    cases hq : ((c :: q) ++ dotted r).getLast? with
    | none => rw [List.getLast?_eq_none_iff] at hq; cases hq
    | some z => rw [hq] at e ih; exact ih e
def LO : List Nat := [108, 111, 99, 97, 108]
theorem tl_local : tl (Str.ofString "local") = LO := by decide +kernel
def okT (T : List (List Nat)) : Bool := match T with
  | [] => false
  | [l] => l == LO
  | _ :: _ :: _ => true
theorem isHdn_lab {x : Str} {m : List Nat} {T : List (List Nat)} (e : tl x = m ++ dotted T) (hm : 46 ∉ m) (hne : m ≠ []) (hT : LabL T) : isHdnF x = true := by
  have ne : tl x ≠ [] := by
    rw [e]; intro h; exact hne (List.append_eq_nil_iff.mp h).1
  have hlen : 0 < x.length := by
    rw [← tl_len]; exact List.length_pos_iff.mpr ne
  unfold isHdnF
  rw [if_neg (by rw [eq_empty]; exact ne)]
  have h0 : ¬ (Txt.item x 0 == Str.ofString ".") = true := by
    rw [eq_dot]
    obtain ⟨c, r, rfl⟩ : ∃ c r, m = c :: r := by
      cases m with
      | nil => exact absurd rfl hne
      | cons c r => exact ⟨c, r, rfl⟩
    have hx : x.cps[0]? = some c := by
      rw [← Array.getElem?_toList, show x.cps.toList = tl x from rfl, e]; rfl
    have hi : Txt.item x 0 = ⟨#[c]⟩ := item_meets (by decide) hx
    rw [hi]
    intro h
    have h' : [c] = [46] := h
    injection h' with h1 _
    exact hm (h1 ▸ .head _)
  rw [if_neg h0]
  have h1 : ¬ (Txt.item x (-1) == Str.ofString ".") = true := by
    have hc := item_closes_neg (x := x) (i := -1) (j := -1 + x.length) (by decide) (by omega) rfl
    rw [beq_iff_eq] at hc
    rw [hc, eq_dot]
    intro h
    have h' : [x.cps.getD ((-1 + (x.length : Int)).toNat) 0] = [46] := h
    injection h' with h1 _
    refine last_lab T m hne hm hT ?_
    rw [← e, List.getLast?_eq_getElem?, tl_len]
    have hk : (-1 + (x.length : Int)).toNat = x.length - 1 := by omega
    rw [hk] at h1
    have hlt : x.length - 1 < x.cps.size := by show x.length - 1 < x.length; omega
    show x.cps.toList[x.length - 1]? = some 46
    rw [Array.getElem?_toList, Array.getElem?_eq_getElem hlt, ← h1, Array.getD_eq_getD_getElem?, Array.getElem?_eq_getElem hlt]
    rfl
  rw [if_neg h1]
theorem reach_lab {x : Str} {m : List Nat} {T : List (List Nat)} (e : tl x = m ++ dotted T) (hm : 46 ∉ m) (hne : m ≠ []) (hT : LabL T) : tl (reachF x) = if okT T = true then dotted T else tl x := by
  have hh := isHdn_lab e hm hne hT
  cases T with
  | nil =>
    rw [show dotted [] = [] from rfl, List.append_nil] at e
    rcases find_dot x with ⟨h1, _⟩ | ⟨pre, post, e2, _, _⟩
    · unfold reachF
      rw [h1, if_neg (by decide)]
      rfl
    · rw [e] at e2
      exact absurd (by rw [e2]; simp) hm
  | cons l r =>
    obtain ⟨hl, c, q, el, _⟩ := hT l (.head _)
    have e' : tl x = m ++ 46 :: (l ++ dotted r) := e
    rcases find_dot x with ⟨_, h2⟩ | ⟨pre, post, e2, hp, h1⟩
    · exact absurd (by rw [e']; simp) h2
    · obtain ⟨rfl, rfl⟩ := split46 hp hm (e2.symm.trans e')
      have hb : tl (Txt.slice x (some (Txt.find x (Str.ofString ".") + 1)) none) = l ++ dotted r := by
        rw [h1, tl_slice (by omega), e']
        have q : ((pre.length : Int) + 1).toNat = pre.length + 1 := by omega
        rw [q, List.drop_length_add_append]
        rfl
      have hd : tl (Str.ofString "." ++ Txt.slice x (some (Txt.find x (Str.ofString ".") + 1)) none) = dotted (l :: r) := by
        rw [tl_append, tl_dot, hb]; rfl
      unfold reachF
      rw [if_pos (by rw [h1]; omega), if_pos hh]
      cases r with
      | nil =>
        rw [show dotted [] = [] from rfl, List.append_nil] at hb
        have hf : Txt.find (Txt.slice x (some (Txt.find x (Str.ofString ".") + 1)) none) (Str.ofString ".") = -1 := by
          rcases find_dot (Txt.slice x (some (Txt.find x (Str.ofString ".") + 1)) none) with ⟨h3, _⟩ | ⟨p3, q3, e3, _, _⟩
          · exact h3
          · rw [hb] at e3
            exact absurd (by rw [e3]; simp) hl
        rw [hf, if_neg (by decide)]
        by_cases ho : l = LO
        · have hs : (Txt.slice x (some (Txt.find x (Str.ofString ".") + 1)) none == Str.ofString "local") = true := by
            rw [beq_iff_eq]; exact tl_inj (by rw [hb, tl_local, ho])
          rw [if_pos hs, hd, if_pos (by show (l == LO) = true; rw [ho]; decide)]
        · have hs : ¬ (Txt.slice x (some (Txt.find x (Str.ofString ".") + 1)) none == Str.ofString "local") = true := by
            rw [beq_iff_eq]; intro q; exact ho (by rw [← hb, q, tl_local])
          rw [if_neg hs, if_neg (by show ¬ (l == LO) = true; rw [beq_iff_eq]; exact ho)]
      | cons l2 r2 =>
        have hf : 0 ≤ Txt.find (Txt.slice x (some (Txt.find x (Str.ofString ".") + 1)) none) (Str.ofString ".") := by
          rcases find_dot (Txt.slice x (some (Txt.find x (Str.ofString ".") + 1)) none) with ⟨_, h3⟩ | ⟨p3, q3, _, _, h3⟩
          · rw [hb] at h3
            exact absurd (by simp [dotted]) h3
          · rw [h3]; omega
        rw [if_pos hf, hd]
        rfl
end Mine
end
section
open PySem PySem.W PyProof.Rows PySem.F PySem.Spec PySem.Calls
set_option maxRecDepth 100000
namespace Mine
/-- a text is a domain of the labels -/
def InDom (T : List (List Nat)) (d : Str) : Prop := ∃ S, S <:+ T ∧ okT S = true ∧ tl d = dotted S
theorem okT_ne {S : List (List Nat)} (h : okT S = true) : S ≠ [] := by rintro rfl; cases h
theorem indom_cons {l : List Nat} {r : List (List Nat)} {e : Str} : InDom (l :: r) e ↔ (okT (l :: r) = true ∧ tl e = dotted (l :: r)) ∨ InDom r e := by
  constructor
  · rintro ⟨S, hs, ho, ht⟩
    rcases List.suffix_cons_iff.mp hs with rfl | hs
    · exact .inl ⟨ho, ht⟩
    · exact .inr ⟨S, hs, ho, ht⟩
  · rintro (⟨ho, ht⟩ | ⟨S, hs, ho, ht⟩)
    · exact ⟨_, List.suffix_refl _, ho, ht⟩
    · exact ⟨S, List.suffix_cons_iff.mpr (.inr hs), ho, ht⟩
theorem indom_not : ∀ {T : List (List Nat)} {e : Str}, okT T = false → ¬ InDom T e
  | [], _, _ => by
    rintro ⟨S, hs, ho, _⟩
    rw [List.suffix_nil.mp hs] at ho; cases ho
  | [l], _, h => by
    rintro ⟨S, hs, ho, _⟩
    rcases List.suffix_cons_iff.mp hs with rfl | hs
    · rw [h] at ho; cases ho
    · rw [List.suffix_nil.mp hs] at ho; cases ho
  | _ :: _ :: _, _, h => by cases h
theorem start_dotted {d : Str} {S : List (List Nat)} (e : tl d = dotted S) (ne : S ≠ []) : Txt.startswith d (Str.ofString ".") = true := by
  cases S with
  | nil => exact absurd rfl ne
  | cons l r => exact (starts_dot d).mpr ⟨_, e⟩
theorem start_not {d : Str} {m w : List Nat} (e : tl d = m ++ w) (hm : 46 ∉ m) (ne : m ≠ []) : Txt.startswith d (Str.ofString ".") = false := by
  cases q : Txt.startswith d (Str.ofString ".") with
  | false => rfl
  | true =>
    obtain ⟨r, hr⟩ := (starts_dot d).mp q
    cases m with
    | nil => exact absurd rfl ne
    | cons c m =>
      rw [e] at hr
      have hr' : c :: (m ++ w) = 46 :: r := hr
      injection hr' with h1 _
      exact absurd (.head _) (h1 ▸ hm)
theorem next_lab {d : Str} {l : List Nat} {r : List (List Nat)} (e : tl d = dotted (l :: r)) (hT : LabL (l :: r)) : tl (Txt.slice d (some 1) none) = l ++ dotted r ∧ tl (reachF (Txt.slice d (some 1) none)) = if okT r = true then dotted r else l ++ dotted r := by
  have h1 : tl (Txt.slice d (some 1) none) = l ++ dotted r := by
    rw [tl_slice (by decide), e]; rfl
  obtain ⟨hl, c, q, el, _⟩ := hT l (.head _)
  refine ⟨h1, ?_⟩
  rw [reach_lab h1 hl (by rw [el]; simp) hT.tail, h1]
def Closed (D : List Str) : Prop := ∀ d ∈ D, ∀ T, LabL T → tl d = dotted T → ∀ e, InDom T e → e ∈ D
theorem any_str {D : List Str} {d : Str} : (D.any (· == d)) = true ↔ d ∈ D := by
  rw [List.any_eq_true]
  constructor
  · rintro ⟨x, hx, e⟩; rw [← beq_iff_eq.mp e]; exact hx
  · intro h; exact ⟨d, h, beq_self_eq_true d⟩
theorem chain_stop : ∀ (n : Nat) (d : Str) (D : List Str), Txt.startswith d (Str.ofString ".") = false → (chainF n d D).2 = D
  | 0, _, _, _ => rfl
  | n + 1, d, D, h => by
    unfold chainF
    rw [if_neg (by rw [h]; simp)]
theorem dotted_len {l : List Nat} {r : List (List Nat)} : (dotted r).length < (dotted (l :: r)).length := by
  show _ < (46 :: (l ++ dotted r)).length
  rw [List.length_cons, List.length_append]; omega
theorem chain_mem : ∀ (n : Nat) (d : Str) (D₀ W : List Str) (T : List (List Nat)), d.length < n → LabL T → tl d = dotted T → okT T = true → Closed D₀ → (∀ w ∈ W, d.length < w.length) →
    ∀ e, e ∈ (chainF n d (D₀ ++ W)).2 ↔ e ∈ D₀ ++ W ∨ InDom T e
  | 0, d, _, _, _, h, _, _, _, _, _ => absurd h (Nat.not_lt_zero _)
  | n + 1, d, D₀, W, [], _, _, _, ho, _, _ => by cases ho
  | n + 1, d, D₀, W, l :: r, hn, hT, ht, ho, hC, hW => by
    intro e
    have hs := start_dotted ht (List.cons_ne_nil l r)
    unfold chainF
    cases hm : (D₀ ++ W).any (· == d) with
    | true =>
      rw [if_neg (by rw [hs]; simp)]
      have hd : d ∈ D₀ := by
        rcases List.mem_append.mp (any_str.mp hm) with h | h
        · exact h
        · exact absurd (hW d h) (Nat.lt_irrefl _)
      constructor
      · exact .inl
      · rintro (h | h)
        · exact h
        · exact List.mem_append_left _ (hC d hd _ hT ht e h)
    | false =>
      rw [if_pos (by rw [hs]; rfl)]
      obtain ⟨_, hnx⟩ := next_lab ht hT
      have self : ∀ e, (okT (l :: r) = true ∧ tl e = dotted (l :: r)) ↔ e = d := fun e => ⟨fun h => tl_inj (h.2.trans ht.symm), fun h => ⟨ho, h ▸ ht⟩⟩
      rw [indom_cons, self e, List.append_assoc]
      cases hr : okT r with
      | true =>
        rw [hr, if_pos rfl] at hnx
        have hlen : (reachF (Txt.slice d (some 1) none)).length < d.length := by
          rw [← tl_len, ← tl_len, hnx, ht]; exact dotted_len
        rw [chain_mem n _ D₀ (W ++ [d]) r (by omega) hT.tail hnx hr hC (fun w hw => by
          rcases List.mem_append.mp hw with h | h
          · exact Nat.lt_trans hlen (hW w h)
          · rw [List.mem_singleton.mp h]; exact hlen) e]
        rw [← List.append_assoc, List.mem_append, List.mem_singleton, or_assoc]
      | false =>
        rw [hr, if_neg (by decide)] at hnx
        obtain ⟨hl, c, q, el, _⟩ := hT l (.head _)
        rw [chain_stop n _ _ (start_not hnx hl (by rw [el]; simp))]
        rw [← List.append_assoc, List.mem_append, List.mem_singleton]
        constructor
        · rintro (h | h)
          · exact .inl h
          · exact .inr (.inl h)
        · rintro (h | h | h)
          · exact .inl h
          · exact .inr h
          · exact absurd h (indom_not hr)
/-- a host: its name, its labels -/
structure HostOf (x : Str) (m : List Nat) (T : List (List Nat)) : Prop where
  eq : tl x = m ++ dotted T
  nam : 46 ∉ m ∧ ∃ r, m = 109 :: r
  lab : LabL T
  len : x.length ≤ 100
theorem HostOf.ne {x : Str} {m : List Nat} {T : List (List Nat)} (h : HostOf x m T) : m ≠ [] := by
  obtain ⟨r, e⟩ := h.nam.2; rw [e]; simp
theorem doms_mem {x : Str} {m : List Nat} {T : List (List Nat)} (h : HostOf x m T) {D : List Str} (hC : Closed D) : ∀ e, e ∈ domsF D x ↔ e ∈ D ∨ InDom T e := by
  intro e
  have hr := reach_lab h.eq h.nam.1 h.ne h.lab
  unfold domsF
  cases ho : okT T with
  | true =>
    rw [ho, if_pos rfl] at hr
    have hlen : (reachF x).length < 301 := by
      obtain ⟨k, ek⟩ := reach_drop x
      have := drop_len ek
      have := h.len
      omega
    have := chain_mem 301 (reachF x) D [] T hlen h.lab hr ho hC (fun _ hw => nomatch hw) e
    rwa [List.append_nil] at this
  | false =>
    rw [ho, if_neg (by decide), h.eq] at hr
    rw [chain_stop _ _ _ (start_not hr h.nam.1 h.ne)]
    exact ⟨.inl, fun q => q.elim id fun q => absurd q (indom_not ho)⟩
theorem doms_closed {x : Str} {m : List Nat} {T : List (List Nat)} (h : HostOf x m T) {D : List Str} (hC : Closed D) : Closed (domsF D x) := by
  intro d hd S hS hd2 e he
  rw [doms_mem h hC] at hd ⊢
  rcases hd with hd | ⟨S', hs', ho', ht'⟩
  · exact .inl (hC d hd S hS hd2 e he)
  · have : S' = S := dotted_inj (h.lab.suf hs').dot hS.dot (ht'.symm.trans hd2)
    subst this
    obtain ⟨R, hR, hoR, htR⟩ := he
    exact .inr ⟨R, hR.trans hs', hoR, htR⟩
theorem closed_nil : Closed [] := fun _ h => nomatch h
theorem four_doms {x0 x1 x2 x3 : Str} {m0 m1 m2 m3 : List Nat} {T0 T1 T2 T3 : List (List Nat)} (h0 : HostOf x0 m0 T0) (h1 : HostOf x1 m1 T1) (h2 : HostOf x2 m2 T2) (h3 : HostOf x3 m3 T3) :
    ∀ e, e ∈ [x0, x1, x2, x3].foldl domsF [] ↔ InDom T0 e ∨ InDom T1 e ∨ InDom T2 e ∨ InDom T3 e := by
  intro e
  have c0 := doms_closed h0 closed_nil
  have c1 := doms_closed h1 c0
  have c2 := doms_closed h2 c1
  show e ∈ domsF (domsF (domsF (domsF [] x0) x1) x2) x3 ↔ _
  rw [doms_mem h3 c2, doms_mem h2 c1, doms_mem h1 c0, doms_mem h0 closed_nil]
  simp only [List.not_mem_nil, false_or, or_assoc]
def sufB (S T : List (List Nat)) : Bool := decide (S <:+ T)
theorem mask_at {x d : Str} {m : List Nat} {T S : List (List Nat)} (h : HostOf x m T) (hS : LabL S) (ho : okT S = true) (hd : tl d = dotted S) (i : Int) : lawInF x i d = sufB S T := by
  have ne := okT_ne ho
  have hu : udmF x d = sufB S T := by
    unfold udmF
    rw [if_pos (start_dotted hd ne)]
    unfold sufB
    rw [Bool.eq_iff_iff, ends_iff, decide_eq_true_eq, hd, h.eq]
    exact suf_iff hS.dot ne h.nam.1 h.lab.dot
  unfold lawInF
  rw [hu]
  split
  · rfl
  · have hz : udmF x (Txt.slice d (some 1) none) = false := by
      cases S with
      | nil => exact absurd rfl ne
      | cons l r =>
        obtain ⟨hsl, _⟩ := next_lab hd hS
        obtain ⟨hl, c, q, el, hc, _⟩ := hS l (.head _)
        unfold udmF
        rw [if_neg (by rw [start_not hsl hl (by rw [el]; simp)]; exact Bool.false_ne_true)]
        cases hb : (x == Txt.slice d (some 1) none) with
        | false => rfl
        | true =>
          exfalso
          have e2 : tl x = l ++ dotted r := by rw [beq_iff_eq.mp hb, hsl]
          rw [h.eq] at e2
          obtain ⟨q1, _⟩ := split_dot h.nam.1 hl e2
          obtain ⟨r', er⟩ := h.nam.2
          rw [er, el] at q1
          injection q1 with q2 _
          exact hc q2.symm
    rw [hz]; simp
theorem groups_iff {x0 x1 x2 x3 : Str} {m0 m1 m2 m3 : List Nat} {T0 T1 T2 T3 : List (List Nat)} (h0 : HostOf x0 m0 T0) (h1 : HostOf x1 m1 T1) (h2 : HostOf x2 m2 T2) (h3 : HostOf x3 m3 T3) (g : Int) :
    g ∈ groupsF x0 x1 x2 x3 ↔ ∃ S, okT S = true ∧ (S <:+ T0 ∨ S <:+ T1 ∨ S <:+ T2 ∨ S <:+ T3) ∧ g = bitsF (sufB S T0) (sufB S T1) (sufB S T2) (sufB S T3) := by
  unfold groupsF
  rw [onces_mem]
  simp only [List.not_mem_nil, false_or, List.mem_map]
  have mk : ∀ {d S}, LabL S → okT S = true → tl d = dotted S → maskF x0 x1 x2 x3 d = bitsF (sufB S T0) (sufB S T1) (sufB S T2) (sufB S T3) := fun hS ho hd => by
    unfold maskF bitsF
    rw [mask_at h0 hS ho hd, mask_at h1 hS ho hd, mask_at h2 hS ho hd, mask_at h3 hS ho hd]
  constructor
  · rintro ⟨d, hd, rfl⟩
    rcases (four_doms h0 h1 h2 h3 d).mp hd with ⟨S, hs, ho, ht⟩ | ⟨S, hs, ho, ht⟩ | ⟨S, hs, ho, ht⟩ | ⟨S, hs, ho, ht⟩
    · exact ⟨S, ho, .inl hs, mk (h0.lab.suf hs) ho ht⟩
    · exact ⟨S, ho, .inr (.inl hs), mk (h1.lab.suf hs) ho ht⟩
    · exact ⟨S, ho, .inr (.inr (.inl hs)), mk (h2.lab.suf hs) ho ht⟩
    · exact ⟨S, ho, .inr (.inr (.inr hs)), mk (h3.lab.suf hs) ho ht⟩
  · rintro ⟨S, ho, hs, rfl⟩
    have ht : tl (Str.mk (dotted S).toArray) = dotted S := rfl
    refine ⟨Str.mk (dotted S).toArray, (four_doms h0 h1 h2 h3 _).mpr ?_, ?_⟩
    · rcases hs with hs | hs | hs | hs
      · exact .inl ⟨S, hs, ho, ht⟩
      · exact .inr (.inl ⟨S, hs, ho, ht⟩)
      · exact .inr (.inr (.inl ⟨S, hs, ho, ht⟩))
      · exact .inr (.inr (.inr ⟨S, hs, ho, ht⟩))
    · refine mk ?_ ho ht
      rcases hs with hs | hs | hs | hs
      · exact h0.lab.suf hs
      · exact h1.lab.suf hs
      · exact h2.lab.suf hs
      · exact h3.lab.suf hs
/-- two sorted lists of the same members, each once, are one -/
theorem sort_eq {a b c d : List Int} (h : SortOf a c) (k : SortOf b d) (hc : c.Nodup) (hd : d.Nodup) (e : ∀ g, g ∈ c ↔ g ∈ d) : a = b := by
  have p : c.Perm d := (List.perm_ext_iff_of_nodup hc hd).mpr e
  exact List.Perm.eq_of_pairwise (le := (· ≤ ·)) (fun _ _ _ _ h1 h2 => Int.le_antisymm h1 h2) h.2 k.2 ((h.1.trans p).trans k.1.symm)
end Mine
end
section
open PySem PySem.W PyProof.Rows PySem.F PySem.Spec PySem.Calls
set_option maxRecDepth 100000
namespace Mine
def labB (T : List (List Nat)) : Bool := T.all fun l => !(l.contains 46) && (match l with | [] => false | c :: _ => c != 109 && !(Sre.isDigit c))
theorem lab_of {T : List (List Nat)} (h : labB T = true) : LabL T := by
  intro l hl
  have h1 := List.all_eq_true.mp h l hl
  rw [Bool.and_eq_true] at h1
  refine ⟨fun hm => ?_, ?_⟩
  · have := h1.1
    rw [List.contains_iff_mem.mpr hm] at this
    cases this
  · cases l with
    | nil => cases h1.2
    | cons c r =>
      have h2 := h1.2
      simp only [Bool.and_eq_true, bne_iff_ne, Bool.not_eq_true'] at h2
      exact ⟨c, r, rfl, h2.1, h2.2⟩
def nam (j : Nat) : List Nat := [109, 48 + j]
def YY (b : Nat) : List Nat := match b with | 0 => [97] | 1 => LO | _ => [98, 97]
def LL (c : Nat) : List Nat := match c with | 0 => LO | _ => [110, 101, 116]
def TT (a b c : Nat) : List (List Nat) := (match a with | 0 => [] | 1 => [[97]] | _ => [LO]) ++ [YY b, LL c]
theorem hostN_tl : ∀ j, j < 4 → ∀ a, a < 3 → ∀ b, b < 3 → ∀ c, c < 2 → tl (hostN j a b c) = nam j ++ dotted (TT a b c) := by decide +kernel
theorem tt_lab : ∀ a, a < 3 → ∀ b, b < 3 → ∀ c, c < 2 → labB (TT a b c) = true := by decide +kernel
theorem suf_y : ∀ a, a < 3 → ∀ b, b < 3 → ∀ b', b' < 3 → ∀ c, c < 2 → sufB [YY b', LL c] (TT a b c) = (b == b') := by decide +kernel
theorem suf_xy' : ∀ a, a < 3 → ∀ b, b < 3 → ∀ a', a' < 2 → ∀ b', b' < 3 → ∀ c, c < 2 → sufB (TT (a' + 1) b' c) (TT a b c) = (a == a' + 1 && b == b') := by decide +kernel
theorem suf_xy (a : Nat) (ha : a < 3) (b : Nat) (hb : b < 3) (a' : Nat) (ha' : a' < 3) (b' : Nat) (hb' : b' < 3) (c : Nat) (hc : c < 2) (hp : 0 < a') : sufB (TT a' b' c) (TT a b c) = (a == a' && b == b') := by
  obtain ⟨k, rfl⟩ : ∃ k, a' = k + 1 := ⟨a' - 1, by omega⟩
  exact suf_xy' a ha b hb k (by omega) b' hb' c hc
theorem suf_l : ∀ a, a < 3 → ∀ b, b < 3 → sufB [LO] (TT a b 0) = true := by decide +kernel
theorem ok_y {b c : Nat} : okT [YY b, LL c] = true := rfl
theorem ok_xy {a b c : Nat} (h : 0 < a) : okT (TT a b c) = true := by
  match a, h with
  | 1, _ => rfl
  | n + 2, _ => rfl
theorem suf_cases {a b c : Nat} {S : List (List Nat)} (h : S <:+ TT a b c) (ho : okT S = true) : S = [YY b, LL c] ∨ (0 < a ∧ S = TT a b c) ∨ (LL c = LO ∧ S = [LO]) := by
  have two : S <:+ [YY b, LL c] → S = [YY b, LL c] ∨ (LL c = LO ∧ S = [LO]) := by
    intro h
    rcases List.suffix_cons_iff.mp h with h | h
    · exact .inl h
    · rcases List.suffix_cons_iff.mp h with h | h
      · have hl : (LL c == LO) = true := by rw [h] at ho; exact ho
        have := beq_iff_eq.mp hl
        exact .inr ⟨this, by rw [h, this]⟩
      · rw [List.suffix_nil.mp h] at ho; cases ho
  match a, h with
  | 0, h => exact (two h).imp id fun q => .inr q
  | n + 1, h =>
    obtain ⟨q, hq⟩ : ∃ q, TT (n + 1) b c = q :: [YY b, LL c] := by
      cases n with
      | zero => exact ⟨_, rfl⟩
      | succ n => exact ⟨_, rfl⟩
    rw [hq] at h
    rcases List.suffix_cons_iff.mp h with h | h
    · exact .inr (.inl ⟨Nat.succ_pos _, by rw [hq]; exact h⟩)
    · exact (two h).imp id fun q => .inr q
def cA (n : Int) : Nat := ((n.fdiv 3).fmod 3).toNat
def cB (n : Int) : Nat := (n.fmod 3).toNat
def cC (n : Int) : Nat := ((n.fdiv 9).fmod 2).toNat
theorem cA_lt (n : Int) : cA n < 3 := fmod_nat (by decide)
theorem cB_lt (n : Int) : cB n < 3 := fmod_nat (by decide)
theorem cC_lt (n : Int) : cC n < 2 := fmod_nat (by decide)
theorem host_of {j : Nat} (hj : j < 4) (n n0 : Int) : HostOf (hostF (0 + (j : Int)) n n0) (nam j) (TT (cA n) (cB n) (cC n0)) := by
  have e : hostF (0 + (j : Int)) n n0 = hostN j (cA n) (cB n) (cC n0) := rfl
  refine ⟨by rw [e]; exact hostN_tl j hj _ (cA_lt n) _ (cB_lt n) _ (cC_lt n0), ⟨?_, _, rfl⟩, lab_of (tt_lab _ (cA_lt n) _ (cB_lt n) _ (cC_lt n0)), ?_⟩
  · unfold nam
    simp only [List.mem_cons, List.not_mem_nil, or_false]
    omega
  · rw [e]
    exact (good_of (good_hostN j hj _ (cA_lt n) _ (cB_lt n) _ (cC_lt n0))).len
theorem beq_nat {a b : Int} (ha : 0 ≤ a) (hb : 0 ≤ b) : (a == b) = (a.toNat == b.toNat) := by
  rw [Bool.eq_iff_iff, beq_iff_eq, beq_iff_eq]; omega
theorem same3 (n k : Int) : (n.fmod 3 == k.fmod 3) = (cB n == cB k) := beq_nat (Int.fmod_nonneg_of_pos n (by decide)) (Int.fmod_nonneg_of_pos k (by decide))
theorem code9 (n : Int) : n.fmod 9 = 3 * ((n.fdiv 3).fmod 3) + n.fmod 3 := by
  rw [Int.fmod_eq_emod_of_nonneg _ (by decide), Int.fmod_eq_emod_of_nonneg _ (by decide), Int.fmod_eq_emod_of_nonneg _ (by decide), Int.fdiv_eq_ediv_of_nonneg _ (by decide)]
  omega
theorem same9 (n k : Int) : (n.fmod 9 == k.fmod 9) = (cA n == cA k && cB n == cB k) := by
  have a1 := Int.fmod_nonneg_of_pos (n.fdiv 3) (b := 3) (by decide)
  have a2 := Int.fmod_nonneg_of_pos (k.fdiv 3) (b := 3) (by decide)
  have b1 := Int.fmod_nonneg_of_pos n (b := 3) (by decide)
  have b2 := Int.fmod_nonneg_of_pos k (b := 3) (by decide)
  have b3 := Int.fmod_lt_of_pos n (b := 3) (by decide)
  have b4 := Int.fmod_lt_of_pos k (b := 3) (by decide)
  rw [Bool.eq_iff_iff, Bool.and_eq_true, beq_iff_eq, beq_iff_eq, beq_iff_eq, code9 n, code9 k]
  unfold cA cB
  omega
theorem steps_mem (n0 n1 n2 n3 : Int) {x : Int} : ∀ (ns G : List Int), x ∈ ns.foldl (stepF n0 n1 n2 n3) G ↔ x ∈ G ∨ ∃ n ∈ ns, x = sameF 3 n0 n1 n2 n3 n ∨ (0 < (n.fdiv 3).fmod 3 ∧ x = sameF 9 n0 n1 n2 n3 n)
  | [], G => by simp
  | n :: ns, G => by
    rw [List.foldl_cons, steps_mem n0 n1 n2 n3 ns]
    have h1 : x ∈ stepF n0 n1 n2 n3 G n ↔ x ∈ G ∨ (x = sameF 3 n0 n1 n2 n3 n ∨ (0 < (n.fdiv 3).fmod 3 ∧ x = sameF 9 n0 n1 n2 n3 n)) := by
      unfold stepF
      rw [once_mem, once_mem]
      by_cases hp : 0 < (n.fdiv 3).fmod 3
      · rw [if_pos hp]
        simp only [hp, true_and, or_assoc]
      · rw [if_neg hp]
        simp only [hp, false_and, or_false, or_assoc, or_self]
    rw [h1]
    simp only [List.mem_cons, exists_eq_or_imp, or_assoc]
theorem told_mem (n0 n1 n2 n3 : Int) {x : Int} : x ∈ toldF n0 n1 n2 n3 ↔ x ∈ topF n0 ∨ ∃ n ∈ [n0, n1, n2, n3], x = sameF 3 n0 n1 n2 n3 n ∨ (0 < (n.fdiv 3).fmod 3 ∧ x = sameF 9 n0 n1 n2 n3 n) := steps_mem n0 n1 n2 n3 _ _
theorem steps_nodup (n0 n1 n2 n3 : Int) : ∀ (ns G : List Int), G.Nodup → (ns.foldl (stepF n0 n1 n2 n3) G).Nodup
  | [], _, h => h
  | n :: ns, G, h => steps_nodup n0 n1 n2 n3 ns _ (once_nodup (once_nodup h))
theorem told_nodup (n0 n1 n2 n3 : Int) : (toldF n0 n1 n2 n3).Nodup := by
  refine steps_nodup n0 n1 n2 n3 _ _ ?_
  unfold topF
  split
  · exact List.nodup_cons.mpr ⟨List.not_mem_nil, List.nodup_nil⟩
  · exact List.nodup_nil
theorem top_iff {n0 x : Int} : x ∈ topF n0 ↔ cC n0 = 0 ∧ x = 15 := by
  have h1 := Int.fmod_nonneg_of_pos (n0.fdiv 9) (b := 2) (by decide)
  unfold topF cC
  by_cases h : (n0.fdiv 9).fmod 2 = 0
  · rw [if_pos h, List.mem_singleton, h]; simp
  · rw [if_neg h]
    constructor
    · intro q; cases q
    · rintro ⟨q, _⟩; omega
theorem ll_lo {c : Nat} (hc : c < 2) (h : LL c = LO) : c = 0 := by
  match c, hc with
  | 0, _ => rfl
  | 1, _ => exact absurd h (by decide)
theorem reg_law {a b : List Int} (n0 n1 n2 n3 : Int) (h : SortOf a (groupsF (hostF (0 + ((0 : Nat) : Int)) n0 n0) (hostF (0 + ((1 : Nat) : Int)) n1 n0) (hostF (0 + ((2 : Nat) : Int)) n2 n0) (hostF (0 + ((3 : Nat) : Int)) n3 n0)))
    (k : SortOf b (toldF n0 n1 n2 n3)) : a = b := by
  refine sort_eq h k (groups_nodup ..) (told_nodup ..) fun g => ?_
  have hy : ∀ n, bitsF (sufB [YY (cB n), LL (cC n0)] (TT (cA n0) (cB n0) (cC n0))) (sufB [YY (cB n), LL (cC n0)] (TT (cA n1) (cB n1) (cC n0))) (sufB [YY (cB n), LL (cC n0)] (TT (cA n2) (cB n2) (cC n0))) (sufB [YY (cB n), LL (cC n0)] (TT (cA n3) (cB n3) (cC n0))) = sameF 3 n0 n1 n2 n3 n := fun n => by
    unfold sameF
    rw [same3, same3, same3, same3, suf_y _ (cA_lt n0) _ (cB_lt n0) _ (cB_lt n) _ (cC_lt n0), suf_y _ (cA_lt n1) _ (cB_lt n1) _ (cB_lt n) _ (cC_lt n0), suf_y _ (cA_lt n2) _ (cB_lt n2) _ (cB_lt n) _ (cC_lt n0), suf_y _ (cA_lt n3) _ (cB_lt n3) _ (cB_lt n) _ (cC_lt n0)]
  have hxy : ∀ n, 0 < cA n → bitsF (sufB (TT (cA n) (cB n) (cC n0)) (TT (cA n0) (cB n0) (cC n0))) (sufB (TT (cA n) (cB n) (cC n0)) (TT (cA n1) (cB n1) (cC n0))) (sufB (TT (cA n) (cB n) (cC n0)) (TT (cA n2) (cB n2) (cC n0))) (sufB (TT (cA n) (cB n) (cC n0)) (TT (cA n3) (cB n3) (cC n0))) = sameF 9 n0 n1 n2 n3 n := fun n hp => by
    unfold sameF
    rw [same9, same9, same9, same9, suf_xy _ (cA_lt n0) _ (cB_lt n0) _ (cA_lt n) _ (cB_lt n) _ (cC_lt n0) hp, suf_xy _ (cA_lt n1) _ (cB_lt n1) _ (cA_lt n) _ (cB_lt n) _ (cC_lt n0) hp, suf_xy _ (cA_lt n2) _ (cB_lt n2) _ (cA_lt n) _ (cB_lt n) _ (cC_lt n0) hp, suf_xy _ (cA_lt n3) _ (cB_lt n3) _ (cA_lt n) _ (cB_lt n) _ (cC_lt n0) hp]
  have hl : cC n0 = 0 → bitsF (sufB [LO] (TT (cA n0) (cB n0) (cC n0))) (sufB [LO] (TT (cA n1) (cB n1) (cC n0))) (sufB [LO] (TT (cA n2) (cB n2) (cC n0))) (sufB [LO] (TT (cA n3) (cB n3) (cC n0))) = 15 := fun hc => by
    rw [hc, suf_l _ (cA_lt n0) _ (cB_lt n0), suf_l _ (cA_lt n1) _ (cB_lt n1), suf_l _ (cA_lt n2) _ (cB_lt n2), suf_l _ (cA_lt n3) _ (cB_lt n3)]
    rfl
  have hpos : ∀ n : Int, 0 < (n.fdiv 3).fmod 3 ↔ 0 < cA n := fun n => by
    have := Int.fmod_nonneg_of_pos (n.fdiv 3) (b := 3) (by decide)
    unfold cA; omega
  rw [groups_iff (host_of (by decide) n0 n0) (host_of (by decide) n1 n0) (host_of (by decide) n2 n0) (host_of (by decide) n3 n0), told_mem, top_iff]
  constructor
  · rintro ⟨S, ho, hs, rfl⟩
    have key : ∀ n ∈ [n0, n1, n2, n3], S <:+ TT (cA n) (cB n) (cC n0) → (cC n0 = 0 ∧ bitsF (sufB S (TT (cA n0) (cB n0) (cC n0))) (sufB S (TT (cA n1) (cB n1) (cC n0))) (sufB S (TT (cA n2) (cB n2) (cC n0))) (sufB S (TT (cA n3) (cB n3) (cC n0))) = 15) ∨
        ∃ n ∈ [n0, n1, n2, n3], bitsF (sufB S (TT (cA n0) (cB n0) (cC n0))) (sufB S (TT (cA n1) (cB n1) (cC n0))) (sufB S (TT (cA n2) (cB n2) (cC n0))) (sufB S (TT (cA n3) (cB n3) (cC n0))) = sameF 3 n0 n1 n2 n3 n ∨
          (0 < (n.fdiv 3).fmod 3 ∧ bitsF (sufB S (TT (cA n0) (cB n0) (cC n0))) (sufB S (TT (cA n1) (cB n1) (cC n0))) (sufB S (TT (cA n2) (cB n2) (cC n0))) (sufB S (TT (cA n3) (cB n3) (cC n0))) = sameF 9 n0 n1 n2 n3 n) := by
      intro n hn hs
      rcases suf_cases hs ho with rfl | ⟨hp, rfl⟩ | ⟨hc, rfl⟩
      · exact .inr ⟨n, hn, .inl (hy n)⟩
      · exact .inr ⟨n, hn, .inr ⟨(hpos n).mpr hp, hxy n hp⟩⟩
      · exact .inl ⟨ll_lo (cC_lt n0) hc, hl (ll_lo (cC_lt n0) hc)⟩
    rcases hs with hs | hs | hs | hs
    · exact key n0 (by simp) hs
    · exact key n1 (by simp) hs
    · exact key n2 (by simp) hs
    · exact key n3 (by simp) hs
  · have wrap : ∀ {S : List (List Nat)} {n : Int}, n ∈ [n0, n1, n2, n3] → S <:+ TT (cA n) (cB n) (cC n0) → (S <:+ TT (cA n0) (cB n0) (cC n0) ∨ S <:+ TT (cA n1) (cB n1) (cC n0) ∨ S <:+ TT (cA n2) (cB n2) (cC n0) ∨ S <:+ TT (cA n3) (cB n3) (cC n0)) := by
      intro S n hn hs
      simp only [List.mem_cons, List.not_mem_nil, or_false] at hn
      rcases hn with rfl | rfl | rfl | rfl
      · exact .inl hs
      · exact .inr (.inl hs)
      · exact .inr (.inr (.inl hs))
      · exact .inr (.inr (.inr hs))
    rintro (⟨hc, rfl⟩ | ⟨n, hn, rfl | ⟨hp, rfl⟩⟩)
    · refine ⟨[LO], rfl, .inl ?_, (hl hc).symm⟩
      have := suf_l _ (cA_lt n0) _ (cB_lt n0)
      rw [hc]
      exact of_decide_eq_true this
    · refine ⟨[YY (cB n), LL (cC n0)], ok_y, wrap hn ?_, (hy n).symm⟩
      exact List.suffix_append _ _
    · exact ⟨_, ok_xy ((hpos n).mp hp), wrap hn (List.suffix_refl _), (hxy n ((hpos n).mp hp)).symm⟩
end Mine
end
section
open PySem PySem.W PyProof.Rows PySem.Calls PySem.Spec
set_option maxRecDepth 100000
namespace Mine
/-- of any two groups, one lies in the other or they have nothing in common -/
def Lam (V : List Int) : Prop := ∀ a ∈ V, ∀ b ∈ V, ([0, a, b].any fun x => x == Builtin.bitAnd a b) = true
theorem lam_bits : ∀ p0 p1 p2 p3 q0 q1 q2 q3 : Bool,
    ((!((p0 && q0) || (p1 && q1) || (p2 && q2) || (p3 && q3))) || ((!p0 || q0) && (!p1 || q1) && (!p2 || q2) && (!p3 || q3)) || ((!q0 || p0) && (!q1 || p1) && (!q2 || p2) && (!q3 || p3))) = true →
    ([0, bitsF p0 p1 p2 p3, bitsF q0 q1 q2 q3].any fun x => x == Builtin.bitAnd (bitsF p0 p1 p2 p3) (bitsF q0 q1 q2 q3)) = true := by decide +kernel
/-- a class of numbers -/
def Cls (f : Int → Bool) : Prop := (∀ m, f m = true) ∨ ∃ n : Int, (∀ m, f m = (m.fmod 3 == n.fmod 3)) ∨ (∀ m, f m = (m.fmod 9 == n.fmod 9))
theorem mod93 {m n : Int} (h : m.fmod 9 = n.fmod 9) : m.fmod 3 = n.fmod 3 := by
  rw [Int.fmod_eq_emod_of_nonneg _ (by decide), Int.fmod_eq_emod_of_nonneg _ (by decide)] at h ⊢
  omega
theorem cls_tri {f g : Int → Bool} (hf : Cls f) (hg : Cls g) : (∀ m, ¬ (f m = true ∧ g m = true)) ∨ (∀ m, f m = true → g m = true) ∨ (∀ m, g m = true → f m = true) := by
  rcases hf with hf | ⟨n, hf⟩
  · exact .inr (.inr fun m _ => hf m)
  rcases hg with hg | ⟨k, hg⟩
  · exact .inr (.inl fun m _ => hg m)
  by_cases h3 : n.fmod 3 = k.fmod 3
  · rcases hf with hf | hf
    · rcases hg with hg | hg
      · refine .inr (.inl fun m hm => ?_)
        rw [hf, beq_iff_eq] at hm
        rw [hg, beq_iff_eq, hm, h3]
      · refine .inr (.inr fun m hm => ?_)
        rw [hg, beq_iff_eq] at hm
        rw [hf, beq_iff_eq, mod93 hm, h3]
    · rcases hg with hg | hg
      · refine .inr (.inl fun m hm => ?_)
        rw [hf, beq_iff_eq] at hm
        rw [hg, beq_iff_eq, mod93 hm, h3]
      · by_cases h9 : n.fmod 9 = k.fmod 9
        · refine .inr (.inl fun m hm => ?_)
          rw [hf, beq_iff_eq] at hm
          rw [hg, beq_iff_eq, hm, h9]
        · refine .inl fun m ⟨h1, h2⟩ => ?_
          rw [hf, beq_iff_eq] at h1
          rw [hg, beq_iff_eq] at h2
          exact h9 (h1.symm.trans h2)
  · refine .inl fun m ⟨h1, h2⟩ => h3 ?_
    have e1 : m.fmod 3 = n.fmod 3 := by
      rcases hf with hf | hf
      · rw [hf, beq_iff_eq] at h1; exact h1
      · rw [hf, beq_iff_eq] at h1; exact mod93 h1
    have e2 : m.fmod 3 = k.fmod 3 := by
      rcases hg with hg | hg
      · rw [hg, beq_iff_eq] at h2; exact h2
      · rw [hg, beq_iff_eq] at h2; exact mod93 h2
    exact e1.symm.trans e2
theorem told_cls {n0 n1 n2 n3 x : Int} (h : x ∈ toldF n0 n1 n2 n3) : ∃ f, Cls f ∧ x = bitsF (f n0) (f n1) (f n2) (f n3) := by
  rcases (told_mem n0 n1 n2 n3).mp h with h | ⟨n, _, h | ⟨_, h⟩⟩
  · obtain ⟨_, rfl⟩ := top_iff.mp h
    exact ⟨fun _ => true, .inl fun _ => rfl, rfl⟩
  · exact ⟨fun m => m.fmod 3 == n.fmod 3, .inr ⟨n, .inl fun _ => rfl⟩, h⟩
  · exact ⟨fun m => m.fmod 9 == n.fmod 9, .inr ⟨n, .inr fun _ => rfl⟩, h⟩
theorem told_lam {n0 n1 n2 n3 a b : Int} (ha : a ∈ toldF n0 n1 n2 n3) (hb : b ∈ toldF n0 n1 n2 n3) : ([0, a, b].any fun x => x == Builtin.bitAnd a b) = true := by
  obtain ⟨f, hf, rfl⟩ := told_cls ha
  obtain ⟨g, hg, rfl⟩ := told_cls hb
  refine lam_bits _ _ _ _ _ _ _ _ ?_
  rcases cls_tri hf hg with h | h | h
  · have q : ∀ m, (f m && g m) = false := fun m => by
      cases h1 : f m <;> cases h2 : g m <;> first | rfl | exact absurd ⟨h1, h2⟩ (h m)
    rw [q n0, q n1, q n2, q n3]; rfl
  · have q : ∀ m, (!f m || g m) = true := fun m => by
      cases h1 : f m with
      | false => rfl
      | true => rw [h m h1]; rfl
    rw [q n0, q n1, q n2, q n3]; simp
  · have q : ∀ m, (!g m || f m) = true := fun m => by
      cases h1 : g m with
      | false => rfl
      | true => rw [h m h1]; rfl
    rw [q n0, q n1, q n2, q n3]; simp
theorem fam_lam {F l : List Int} {j : Nat} (s : SortOf F (toldAt l j)) {a b : Int} (ha : (F.any (· == a)) = true) (hb : (F.any (· == b)) = true) : ([0, a, b].any fun x => x == Builtin.bitAnd a b) = true :=
  told_lam (s.1.mem_iff.mp (any_eq_iff.mp ha)) (s.1.mem_iff.mp (any_eq_iff.mp hb))
theorem common5 : ∀ a1 a2 a3 b1 b2 b3 : Bool, decide (3 ≤ [a1, a2, a3, a1, a2].count true) = true → decide (3 ≤ [b1, b2, b3, b1, b2].count true) = true → ((a1 && b1) || (a2 && b2) || (a3 && b3)) = true := by decide +kernel
theorem common4 : ∀ a1 a2 a3 b1 b2 b3 : Bool, decide (3 ≤ [a1, a2, a3, a2].count true) = true → decide (3 ≤ [b1, b2, b3, b2].count true) = true → ((a1 && b1) || (a2 && b2) || (a3 && b3)) = true := by decide +kernel
end Mine
end
section
open PySem PySem.W PyProof.Rows PySem.Calls PySem.Spec
set_option maxRecDepth 100000
set_option maxHeartbeats 4000000
namespace Mine
open LCg (lst NsObj ns_obj lst_snoc fr_but news_but)
/-- a test's end: the ledger is as it was -/
def TestEnd (h₀ : Heap) (L : Addr) (m : Str → Option Value) (led : List (Addr × Obj)) (s : Shared) (b : Bool) (ok : Bool) (s' : Shared) : Prop :=
  ok = b ∧ ∃ h' tk', s' = { s with heap := h', toks := tk' } ∧ Fr h₀ L h' m ∧ News h₀ L h' led
theorem test_end {h₀ : Heap} {L : Addr} {m : Str → Option Value} {led : List (Addr × Obj)} {s : Shared} {b ok : Bool} {h' : Heap} {tk' : Nat} (e : ok = b) (F : Fr h₀ L h' m) (N : News h₀ L h' led) : TestEnd h₀ L m led s b ok { s with heap := h', toks := tk' } := ⟨e, h', tk', rfl, F, N⟩
/-- the ints of a range that a test lets through -/
def passF (p : Int → Bool) (a : Int) (n : Nat) : List Int := ((List.range n).map fun i => a + ((i : Nat) : Int)).filter p
theorem pass_succ {p : Int → Bool} {a : Int} {n : Nat} : passF p a (n + 1) = passF p a n ++ if p (a + (n : Int)) = true then [a + (n : Int)] else [] := by
  unfold passF
  rw [List.range_succ, List.map_append, List.filter_append]
  congr 1
  simp only [List.map_cons, List.map_nil, List.filter_cons, List.filter_nil]
section
variable {prog : Program} {w : World} {A : Around} {E : Value → Shared → Prop} {s : Shared} {h₀ : Heap} {L : Addr} {m : Str → Option Value} {env : Env}
/-- the frame of a comprehension with one cell -/
theorem newEnv_cell {scope : Scope} {cl : List (Str × Addr)} {x : Str} {Q : Env → Shared → Prop} (hc : ∀ k acc, cellsFrom k scope.names acc = (x, k) :: acc) (hp : ∀ h, pushCells h scope.names = h.push { cls := .type "cell", data := .cell none })
    (hQ : Q (newEnv scope s.heap.objs.size env.globals ((x, s.heap.objs.size + 1) :: cl) env.qual none .none (some env) builtinsNs) { s with heap := (s.heap.push { cls := .type "dict", data := .dict #[] }).push { cls := .type "cell", data := .cell none } }) :
    wpAny (model prog w) A (newFunctionEnv scope env.globals cl [] env.qual none .none (some env)) Q E s := by
  simp only [newFunctionEnv, Option.isSome_some, if_true]
  refine wpAny_bind (wpAny_alloc ?_)
  refine wpAny_bind (wpAny_layCells _ (fun name kind cells => by cases hkc : kind == NameKind.cell <;> simp [hkc]) _ _ _ _ ?_)
  rw [hc, hp]
  rw [show ({ s with heap := s.heap.push { cls := .type "dict", data := .dict #[] } } : Shared).heap.objs.size = s.heap.objs.size + 1 from Heap.size_push ..]
  refine wpAny_bind ?_
  rw [List.forIn_nil]
  exact wpAny_pure (wpAny_pure hQ)
/-- the turns of a comprehension over a range whose name is a cell: what the test lets through -/
theorem block_C {ct iter : Expr} {x : Str} {px pe : Pos} {scope : Scope} {cl : List (Str × Addr)} {pos : Pos} {I : Addr} {a : Int} {n : Nat} {news : List (Addr × Obj)} {p : Int → Bool} {RR : Value → Addr → Result → Shared → Prop}
    (hh : A.handled = none) (hc : ∀ k acc, cellsFrom k scope.names acc = (x, k) :: acc) (hp : ∀ h, pushCells h scope.names = h.push { cls := .type "cell", data := .cell none })
    (hkind : scope.kind = .function) (hx : (relabel scope env).names.lookup x = some .cell) (hdb : (x == ("__debug__" : Str)) = false) (hsz : n ≤ sizeLine)
    (hst : IsRangeIter s.heap I a n 1) (F : Fr h₀ L s.heap m) (N : News h₀ L s.heap news) (hIL : L ≠ I) (hI₀ : h₀.get? I = none) (off : ∀ p ∈ news, @LT.lt Nat _ p.1 I)
    (turn : ∀ i I oI C oC D ys c oc h tk t (E' : Value → Shared → Prop), i < n → (@LT.lt Nat _ I D ∧ @LT.lt Nat _ D C ∧ @LT.lt Nat _ C c) → (∀ p ∈ news, @LT.lt Nat _ p.1 I) → oc.data = .cell (some (.int (a + ((i : Nat) : Int)) t)) → Fr h₀ L h m → News h₀ L h ((I, oI) :: (C, oC) :: (D, lst ys) :: (c, oc) :: news) →
      wpAny (model prog w) A (isTrue ct (compEnvC scope ((x, c) :: cl) C env) (eval ct (compEnvC scope ((x, c) :: cl) C env))) (TestEnd h₀ L m ((I, oI) :: (C, oC) :: (D, lst ys) :: (c, oc) :: news) s (p (a + ((i : Nat) : Int)))) E' { s with heap := h, toks := tk })
    (hRR : ∀ D C h tk m' ys, (∀ p ∈ news, @LT.lt Nat _ p.1 D) → Fr h₀ L h m → News h₀ L h ((D, lst ys) :: news) → h.Ns C m' → h₀.get? C = none → C ≠ L → C ≠ D → (∀ p ∈ news, p.1 ≠ C) → IntsAre ys (passF p a n) → RR (.ref D) C (.ok .next) { s with heap := h, toks := tk }) :
    wpAny (model prog w) A (newList []) (fun acc s₃ => wpAny (model prog w) A (newFunctionEnv scope env.globals cl [] env.qual none .none (some env)) (fun cenv s₄ =>
      codeAny (model prog w) A (.compStart (.ListComp (.Name x pe) [⟨.Name x px, iter, [ct], 0⟩] scope pos) 0 (.ref I) acc { cenv with scope := relabel scope env }) (RR acc cenv.locals) s₄) E s₃) E s := by
  refine wpAny_newObj_type (newEnv_cell hc hp ?_)
  generalize hH2 : s.heap.push { cls := .type "list", dict := none, data := .seq ([] : List Value).toArray } = H2
  dsimp only
  have hC : H2.objs.size = s.heap.objs.size + 1 := by rw [← hH2, Heap.size_push]
  generalize hH3 : (H2.push { cls := .type "dict", data := .dict #[] }) = H3
  have hc3 : H3.objs.size = H2.objs.size + 1 := by rw [← hH3, Heap.size_push]
  rw [← hc3]
  generalize hH4 : (H3.push { cls := .type "cell", data := .cell none }) = H4
  have hIlt : @LT.lt Nat _ I s.heap.objs.size := Heap.lt_size (show s.heap.get? I = some _ from hst)
  have hLlt : @LT.lt Nat _ L s.heap.objs.size := F.ns.lt
  have fresh₀ : ∀ b, s.heap.objs.size ≤ b → h₀.get? b = none := fun b hb => by
    cases e : h₀.get? b with
    | none => rfl
    | some o' => exact absurd (Heap.lt_size (F.keep b o' e)) (Nat.not_lt.mpr hb)
  have old : ∀ b o, s.heap.get? b = some o → H4.get? b = some o := fun b o e => by
    rw [← hH4]; refine Heap.get?_push_of_some _ ?_
    rw [← hH3]; refine Heap.get?_push_of_some _ ?_
    rw [← hH2]; exact Heap.get?_push_of_some _ e
  have gD : H4.get? s.heap.objs.size = some (lst []) := by
    rw [← hH4]; refine Heap.get?_push_of_some _ ?_
    rw [← hH3]; refine Heap.get?_push_of_some _ ?_
    rw [← hH2]; exact Heap.get?_push_size _ rfl
  have gC : H4.Ns H2.objs.size (fun _ => none) := by
    have h1 := Heap.Ns.new H2 (.type "dict")
    rw [hH3] at h1
    rw [← hH4]
    exact h1.keeps fun b o e => Heap.get?_push_of_some _ e
  have gc : H4.get? H3.objs.size = some { cls := .type "cell", data := .cell none } := by rw [← hH4]; exact Heap.get?_push_size _ rfl
  have hD₀ := fresh₀ s.heap.objs.size (Nat.le_refl _)
  have hC₀ := fresh₀ H2.objs.size (by rw [hC]; exact Nat.le_succ _)
  have hc₀ := fresh₀ H3.objs.size (by rw [hc3, hC]; exact Nat.le_succ_of_le (Nat.le_succ _))
  have lDC : @LT.lt Nat _ s.heap.objs.size H2.objs.size := by rw [hC]; exact Nat.lt_succ_self _
  have lCc : @LT.lt Nat _ H2.objs.size H3.objs.size := by rw [hc3]; exact Nat.lt_succ_self _
  have lDc := Nat.lt_trans lDC lCc
  have W := LCg.range_walks (prog := prog) (w := w) (I := I) hh a n
  have loop : ∀ s₃ : Shared, s₃ = { s with heap := H4 } →
      codeAny (model prog w) A (.compLoop (.ListComp (.Name x pe) [⟨.Name x px, iter, [ct], 0⟩] scope pos) 0 (.ref I) (.ref s.heap.objs.size) (compEnvC scope ((x, H3.objs.size) :: cl) H2.objs.size env))
        (RR (.ref s.heap.objs.size) H2.objs.size) s₃ := by
    rintro s₃ rfl
    refine codeAny_compLoop_tests
      (fun k s' => ∃ h' tk i ys m' oc dv, s' = { s with heap := h', toks := tk } ∧ i ≤ n ∧ k = n + 1 - i ∧ ys.length ≤ i ∧ IsRangeIter h' I (a + (i : Nat) * 1) ((n : Int) - (i : Nat)) 1 ∧ Fr h₀ L h' m ∧ h'.Ns H2.objs.size m' ∧ News h₀ L h' ((s.heap.objs.size, lst ys) :: (H3.objs.size, oc) :: news) ∧
        oc.data = .cell dv ∧ IntsAre ys (passF p a i)) ?_ (n + 1)
      ⟨H4, s.toks, 0, [], _, { cls := .type "cell", data := .cell none }, none, rfl, Nat.zero_le _, rfl, Nat.le_refl _, ?_, F.keeps old, gC, fun q hq => ?_, rfl, .nil⟩
    · rintro k s' ⟨h', tk, i, ys, m', oc, dv, rfl, hi, rfl, hyl, hst', F', hn', N', eo, hys⟩
      by_cases hlt : i < n
      · refine W.item i _ _ _ hlt hst' fun v h₂ tk₂ hPv hst₂ hk₂ => ?_
        obtain ⟨t, rfl⟩ := hPv
        have kI : ∀ b o, b ≠ I → h'.get? b = some o → h₂.get? b = some o := fun b o hb e => hk₂ b o (fun hm => hb (List.mem_singleton.mp hm)) e
        have nI : ∀ q ∈ ((s.heap.objs.size, lst ys) :: (H3.objs.size, oc) :: news), q.1 ≠ I := fun q hq => by
          rcases List.mem_cons.mp hq with rfl | hq
          · exact Nat.ne_of_gt hIlt
          · rcases List.mem_cons.mp hq with rfl | hq
            · exact Nat.ne_of_gt (Nat.lt_trans hIlt lDc)
            · exact Nat.ne_of_lt (off q hq)
        have N₂ : News h₀ L h₂ ((s.heap.objs.size, lst ys) :: (H3.objs.size, oc) :: news) := news_but N' hk₂ nI
        have F₂ : Fr h₀ L h₂ m := fr_but F' hk₂ hIL hI₀
        refine wpAny_assign_Name (wpAny_storeName_cell (c := H3.objs.size) hkind hx (by rw [show (compEnvC scope ((x, H3.objs.size) :: cl) H2.objs.size env).cells = (x, H3.objs.size) :: cl from rfl, List.lookup_cons, beq_self_eq_true]) ⟨oc, (N₂ _ (.tail _ (.head _))).1, eo⟩ fun h₃ hcell₃ hs₃ => ?_)
        obtain ⟨oc₃, goc₃, eoc₃⟩ := hcell₃
        refine wpAny_tests_one ?_
        have cL : H3.objs.size ≠ L := Nat.ne_of_gt (Nat.lt_trans hLlt lDc)
        have F₃ : Fr h₀ L h₃ m := F₂.change hs₃ cL hc₀
        have hn₃ : h₃.Ns H2.objs.size m' := (hn'.at' fun o e => kI _ o (Nat.ne_of_gt (Nat.lt_trans hIlt lDC)) e).sameBut hs₃ (Nat.ne_of_lt lCc)
        obtain ⟨oC, heC, hoC⟩ := ns_obj hn₃
        have hst₃ : IsRangeIter h₃ I (a + ((i + 1 : Nat) : Int) * 1) ((n : Int) - ((i + 1 : Nat) : Int)) 1 := hs₃.extBut _ _ (Nat.ne_of_lt (Nat.lt_trans hIlt lDc)) hst₂
        have N₃ : News h₀ L h₃ ((I, _) :: (H2.objs.size, oC) :: (s.heap.objs.size, lst ys) :: (H3.objs.size, oc₃) :: news) := fun q hq => by
          rcases List.mem_cons.mp hq with rfl | hq
          · exact ⟨hst₃, Ne.symm hIL, hI₀⟩
          · rcases List.mem_cons.mp hq with rfl | hq
            · exact ⟨heC, Nat.ne_of_gt (Nat.lt_trans hLlt lDC), hC₀⟩
            · rcases List.mem_cons.mp hq with rfl | hq
              · exact ⟨hs₃.extBut _ _ (Nat.ne_of_lt lDc) (N₂ _ (.head _)).1, Nat.ne_of_gt hLlt, hD₀⟩
              · rcases List.mem_cons.mp hq with rfl | hq
                · exact ⟨goc₃, cL, hc₀⟩
                · have z := N₂ q (.tail _ (.tail _ hq))
                  exact ⟨hs₃.extBut _ _ (Nat.ne_of_lt (Nat.lt_trans (off q hq) (Nat.lt_trans hIlt lDc))) z.1, z.2⟩
        refine wpAny_mono (turn i I _ H2.objs.size oC s.heap.objs.size ys H3.objs.size oc₃ h₃ _ t _ hlt ⟨hIlt, lDC, lCc⟩ off eoc₃ F₃ N₃) (fun ok s₄ h₄ => ?_) fun _ _ e => e
        obtain ⟨rfl, h₄, tk₄, rfl, F₄, N₄⟩ := h₄
        have zI := (N₄ _ (.head _)).1
        have zC := (N₄ _ (.tail _ (.head _))).1
        have zD := (N₄ _ (.tail _ (.tail _ (.head _)))).1
        have N₄' : News h₀ L h₄ ((s.heap.objs.size, lst ys) :: (H3.objs.size, oc₃) :: news) := fun q hq => N₄ q (.tail _ (.tail _ hq))
        cases hb : p (a + ((i : Nat) : Int)) with
        | true =>
          simp only [if_true]
          refine wpAny_Name (wpAny_loadName_cell (c := H3.objs.size) hkind hx (by rw [show (compEnvC scope ((x, H3.objs.size) :: cl) H2.objs.size env).cells = (x, H3.objs.size) :: cl from rfl, List.lookup_cons, beq_self_eq_true]) ⟨oc₃, (N₄' _ (.tail _ (.head _))).1, eoc₃⟩ ?_) hdb
          refine append_at (hsz := by show ys.toArray.size ≤ sizeLine; rw [List.size_toArray]; exact Nat.le_trans (Nat.le_trans hyl hi) hsz) zD fun h₅ hs₅ hD₅ => ?_
          refine ⟨n + 1 - (i + 1), by omega, h₅, tk₄, i + 1, ys ++ [.int (a + ((i : Nat) : Int)) t], m', oc₃, _, rfl, hlt, rfl, by rw [List.length_append, List.length_singleton]; exact Nat.succ_le_succ hyl, hs₅.extBut _ _ (Nat.ne_of_lt hIlt) zI, F₄.change hs₅ (Nat.ne_of_gt hLlt) hD₀,
            (hoC.ns zC).sameBut hs₅ (Nat.ne_of_gt lDC), fun q hq => ?_, eoc₃, ?_⟩
          · rcases List.mem_cons.mp hq with rfl | hq
            · exact ⟨hD₅.trans (congrArg some (lst_snoc ys _)), Nat.ne_of_gt hLlt, hD₀⟩
            · have z := N₄' q (.tail _ hq)
              refine ⟨hs₅.extBut _ _ ?_ z.1, z.2⟩
              rcases List.mem_cons.mp hq with rfl | hq
              · exact Nat.ne_of_gt lDc
              · exact Nat.ne_of_lt (Nat.lt_trans (off q hq) hIlt)
          · rw [pass_succ, if_pos hb]
            exact IntsAre.append hys (.cons _ _ .nil)
        | false =>
          simp only [Bool.false_eq_true, if_false]
          refine ⟨n + 1 - (i + 1), by omega, h₄, tk₄, i + 1, ys, m', oc₃, _, rfl, hlt, rfl, Nat.le_succ_of_le hyl, zI, F₄, hoC.ns zC, N₄', eoc₃, ?_⟩
          rw [pass_succ, if_neg (by rw [hb]; exact Bool.false_ne_true), List.append_nil]
          exact hys
      · obtain rfl : i = n := Nat.le_antisymm hi (Nat.not_lt.mp hlt)
        refine W.done _ _ _ hst' fun h₂ tk₂ hk₂ => ?_
        have N₂ : News h₀ L h₂ ((s.heap.objs.size, lst ys) :: news) := fun q hq => by
          have z : (q ∈ ((s.heap.objs.size, lst ys) :: (H3.objs.size, oc) :: news)) ∧ q.1 ≠ I := by
            rcases List.mem_cons.mp hq with rfl | hq
            · exact ⟨.head _, Nat.ne_of_gt hIlt⟩
            · exact ⟨.tail _ (.tail _ hq), Nat.ne_of_lt (off q hq)⟩
          exact ⟨hk₂ _ _ (by simpa using z.2) (N' q z.1).1, (N' q z.1).2⟩
        exact hRR _ _ h₂ tk₂ m' ys (fun q hq => Nat.lt_trans (off q hq) hIlt) (fr_but F' hk₂ hIL hI₀) N₂ (hn'.at' fun o e => hk₂ _ o (by simpa using Nat.ne_of_gt (Nat.lt_trans hIlt lDC)) e) hC₀ (Nat.ne_of_gt (Nat.lt_trans hLlt lDC)) (Nat.ne_of_gt lDC)
          (fun q hq => Nat.ne_of_lt (Nat.lt_trans (off q hq) (Nat.lt_trans hIlt lDC))) hys
    · have := old _ _ (show s.heap.get? I = some _ from hst)
      show H4.get? I = some _
      rw [this]; simp
    · rcases List.mem_cons.mp hq with rfl | hq
      · exact ⟨gD, Nat.ne_of_gt hLlt, hD₀⟩
      · rcases List.mem_cons.mp hq with rfl | hq
        · exact ⟨gc, Nat.ne_of_gt (Nat.lt_trans hLlt lDc), hc₀⟩
        · exact ⟨old _ _ (N q hq).1, (N q hq).2⟩
  refine codeAny_compStart_list (loop _ rfl) (W.self 0 _ _ _ ?_ (loop _ rfl))
  have := old _ _ (show s.heap.get? I = some _ from hst)
  show H4.get? I = some _
  rw [this]; simp
end
end Mine
end
section
open PySem PySem.W PyProof.Rows PySem.Calls PySem.Spec
set_option maxRecDepth 100000
set_option maxHeartbeats 4000000
namespace Mine
open LCg (lst NsObj ns_obj lst_snoc fr_but news_but SrcAt)
section
variable {prog : Program} {w : World} {A : Around} {E : Value → Shared → Prop} {R : Result → Shared → Prop} {s : Shared}
theorem turn_outer (elt t0 i0 t1 i1 c1 : Expr) (scope : Scope) (pos : Pos) (it acc : Value) (env : Env) :
    compTurn (.ListComp elt [⟨t0, i0, [], 0⟩, ⟨t1, i1, [c1], 0⟩] scope pos) 0 it acc env = (standAt i0.pos >>= fun _ => pyNext it >>= fun r => match r with
      | none => pure (.done .next)
      | some v => letOwnedTupleGo t0 it v >>= fun _ => assign t0 env v >>= fun _ => eval i1 env >>= fun x => standAt i1.pos >>= fun _ => foldedSetIterable i1 env x >>= fun x => holding [x] (pyIter x) >>= fun j =>
        runOwn (.compStart (.ListComp elt [⟨t0, i0, [], 0⟩, ⟨t1, i1, [c1], 0⟩] scope pos) 1 j acc env) env >>= fun _ =>
          again (.compLoop (.ListComp elt [⟨t0, i0, [], 0⟩, ⟨t1, i1, [c1], 0⟩] scope pos) 0 it acc env)) := by rfl
theorem turn_inner (elt t0 i0 t1 i1 c1 : Expr) (scope : Scope) (pos : Pos) (it acc : Value) (env : Env) :
    compTurn (.ListComp elt [⟨t0, i0, [], 0⟩, ⟨t1, i1, [c1], 0⟩] scope pos) 1 it acc env = (do
      standAt i1.pos
      match ← pyNext it with
      | none => pure (.done .next)
      | some v =>
        letOwnedTupleGo t1 it v
        assign t1 env v
        let mut ok := true
        for c in [c1] do
          if ok then ok ← isTrue c env (eval c env)
        if ok then
          (do let _ ← call (.builtin "list.append") [acc, ← eval elt env])
        again (.compLoop (.ListComp elt [⟨t0, i0, [], 0⟩, ⟨t1, i1, [c1], 0⟩] scope pos) 1 it acc env)) := by rfl
theorem loop_inner {elt t0 i0 t1 i1 c1 : Expr} {scope : Scope} {pos : Pos} {it acc : Value} {env : Env} (I : Nat → Shared → Prop)
    (turn : ∀ n s, I n s → wpAny (model prog w) A (pyNext it) (fun r s₁ => match r with
      | none => R (.ok .next) s₁
      | some v => wpAny (model prog w) A (assign t1 env v) (fun _ s₂ =>
          wpAny (model prog w) A (isTrue c1 env (eval c1 env)) (fun ok s₃ => ok = false ∧ ∃ m, m < n ∧ I m s₃) (notedBy (model prog w) A env fun e s' => R (.error e) s') s₂) (notedBy (model prog w) A env fun e s' => R (.error e) s') s₁) (notedBy (model prog w) A env fun e s' => R (.error e) s') s)
    (n : Nat) (h : I n s) (ht : ∀ v, letOwnedTupleGo t1 it v = pure () := by intro _; rfl) :
    codeAny (model prog w) A (.compLoop (.ListComp elt [⟨t0, i0, [], 0⟩, ⟨t1, i1, [c1], 0⟩] scope pos) 1 it acc env) R s := by
  refine codeAny_loop rfl I (fun n s hI => ?_) n h
  show wpAny _ A ((compTurn (.ListComp elt [⟨t0, i0, [], 0⟩, ⟨t1, i1, [c1], 0⟩] scope pos) 1 it acc env).onRaise (fun x => do noteFrame x env; theTreesLotGoes x)) _ _ s
  refine wpAny_noted ?_
  rw [turn_inner]
  refine wpAny_bind (wpAny_standAt (wpAny_bind (wpAny_mono (turn n s hI) (fun r s₁ h₁ => ?_) fun _ _ h' => h')))
  cases r with
  | none => exact wpAny_pure h₁
  | some v =>
    refine wpAny_bind (wpAny_of_eq (ht v) ?_)
    refine wpAny_bind (wpAny_mono h₁ (fun _ s₂ h₂ => wpAny_bind (wpAny_mono (wpAny_tests_one h₂) (fun ok s₃ h₃ => ?_) fun _ _ h' => h')) fun _ _ h' => h')
    obtain ⟨rfl, h₃⟩ := h₃
    exact wpAny_pure ⟨rfl, h₃⟩
theorem loop_outer {elt t0 i0 t1 i1 c1 : Expr} {scope : Scope} {pos : Pos} {it acc : Value} {env : Env} (I : Nat → Shared → Prop)
    (turn : ∀ n s, I n s → wpAny (model prog w) A (pyNext it) (fun r s₁ => match r with
      | none => R (.ok .next) s₁
      | some v => wpAny (model prog w) A (assign t0 env v) (fun _ s₂ => wpAny (model prog w) A (eval i1 env) (fun x s₃ => wpAny (model prog w) A (pyIter x) (fun j s₄ =>
          codeAny (model prog w) A (.compStart (.ListComp elt [⟨t0, i0, [], 0⟩, ⟨t1, i1, [c1], 0⟩] scope pos) 1 j acc env) (fun r s₅ => match r with | .ok _ => ∃ m, m < n ∧ I m s₅ | .error _ => False) s₄)
            (notedBy (model prog w) A env fun e s' => R (.error e) s') s₃) (notedBy (model prog w) A env fun e s' => R (.error e) s') s₂) (notedBy (model prog w) A env fun e s' => R (.error e) s') s₁) (notedBy (model prog w) A env fun e s' => R (.error e) s') s)
    (n : Nat) (h : I n s) (hs : ∀ x, foldedSetIterable i1 env x = pure x := by intro _; rfl) (ht : ∀ v, letOwnedTupleGo t0 it v = pure () := by intro _; rfl) :
    codeAny (model prog w) A (.compLoop (.ListComp elt [⟨t0, i0, [], 0⟩, ⟨t1, i1, [c1], 0⟩] scope pos) 0 it acc env) R s := by
  refine codeAny_loop rfl I (fun n s hI => ?_) n h
  show wpAny _ A ((compTurn (.ListComp elt [⟨t0, i0, [], 0⟩, ⟨t1, i1, [c1], 0⟩] scope pos) 0 it acc env).onRaise (fun x => do noteFrame x env; theTreesLotGoes x)) _ _ s
  refine wpAny_noted ?_
  rw [turn_outer]
  refine wpAny_bind (wpAny_standAt (wpAny_bind (wpAny_mono (turn n s hI) (fun r s₁ h₁ => ?_) fun _ _ h' => h')))
  cases r with
  | none => exact wpAny_pure h₁
  | some v =>
    refine wpAny_bind (wpAny_of_eq (ht v) ?_)
    refine wpAny_bind (wpAny_mono h₁ (fun _ s₂ h₂ => wpAny_bind (wpAny_mono h₂ (fun x s₃ h₃ => ?_) fun _ _ h' => h')) fun _ _ h' => h')
    refine wpAny_bind (wpAny_standAt (wpAny_bind (wpAny_of_eq (hs x) (wpAny_bind (wpAny_holding (wpAny_mono h₃ (fun j s₄ h₄ => ?_) fun _ _ h' => h'))))))
    refine wpAny_bind (wpAny_runOwn (codeAny_mono h₄ fun r s₅ hr => ?_))
    cases r with
    | ok f => exact wpAny_pure ⟨rfl, hr⟩
    | error e => exact hr.elim
theorem start_inner {elt t0 i0 t1 i1 c1 : Expr} {scope : Scope} {pos : Pos} {it acc : Value} {env : Env}
    (h0 : codeAny (model prog w) A (.compLoop (.ListComp elt [⟨t0, i0, [], 0⟩, ⟨t1, i1, [c1], 0⟩] scope pos) 1 it acc env) R s)
    (h : wpAny (model prog w) A (pyIter it) (fun it' s' => codeAny (model prog w) A (.compLoop (.ListComp elt [⟨t0, i0, [], 0⟩, ⟨t1, i1, [c1], 0⟩] scope pos) 1 it' acc env) R s')
      (notedBy (model prog w) A env fun x s' => R (.error x) s') s) :
    codeAny (model prog w) A (.compStart (.ListComp elt [⟨t0, i0, [], 0⟩, ⟨t1, i1, [c1], 0⟩] scope pos) 1 it acc env) R s := by
  refine codeAny_of_tree ?_
  show wpAny _ _ ((compStart (.ListComp elt [⟨t0, i0, [], 0⟩, ⟨t1, i1, [c1], 0⟩] scope pos) 1 it acc env).onRaise (fun x => do noteFrame x env; standAt theWindowsPlace)) _ _ s
  refine wpAny_notedAt ?_
  unfold compStart
  show wpAny _ _ (ask >>= _) _ _ s
  refine wpAny_bind (wpAny_askSetting (wpAny_ite ?_))
  split
  · first
      | exact wpAny_bind (wpAny_pure (wpAny_pure (And.intro rfl h0)))
      | exact wpAny_pure (And.intro rfl h0)
  · first
      | exact wpAny_bind (wpAny_rule (wpAny_bind (wpAny_standAt (wpAny_bind (wpAny_mono h (fun it' s' h' => wpAny_pure (And.intro rfl h')) fun _ _ x => x)))))
      | (refine wpAny_bind (wpAny_rule ?_); show wpAny _ _ (standAt i1.pos >>= _) _ _ s; exact wpAny_bind (wpAny_standAt (wpAny_bind (wpAny_mono h (fun it' s' h' => wpAny_pure (And.intro rfl h')) fun _ _ x => x))))
end
section
variable {prog : Program} {w : World} {A : Around} {E : Value → Shared → Prop} {s : Shared} {h₀ : Heap} {L : Addr} {m : Str → Option Value} {env : Env}
/-- a comprehension of two clauses over one list, whose test lets nothing through: it hands back an empty list -/
theorem block_2 {elt i0 ct : Expr} {x y z : Str} {px py pz : Pos} {scope : Scope} {cl : List (Str × Addr)} {pos : Pos} {I lv cv : Addr} {vs : List Value} {ov : Obj} {news : List (Addr × Obj)} {RR : Value → Addr → Result → Shared → Prop}
    (hh : A.handled = none) (hcell : ∀ y ∈ scope.names, y.2 ≠ .cell) (hkind : scope.kind = .function) (hx : scope.names.lookup x = some .local) (hy : scope.names.lookup y = some .local) (hyx : x ≠ y)
    (hz : (relabel scope env).names.lookup z = some .cell) (hzc : cl.lookup z = some cv) (hzm : (cv, ov) ∈ news) (hzd : ov.data = .cell (some (.ref lv))) (hdb : (z == ("__debug__" : Str)) = false)
    (hst : s.heap.IsListIter I lv 0) (F : Fr h₀ L s.heap m) (N : News h₀ L s.heap news) (hIL : L ≠ I) (hI₀ : h₀.get? I = none) (off : ∀ p ∈ news, @LT.lt Nat _ p.1 I) (hS : SrcAt h₀ lv vs.toArray news) (hlv : @LT.lt Nat _ lv I)
    (turn : ∀ u v I₁ o₁ I oI C oC D m₂ h tk (E' : Value → Shared → Prop), u ∈ vs → v ∈ vs → (@LT.lt Nat _ I D ∧ @LT.lt Nat _ D C ∧ @LT.lt Nat _ C I₁) → (∀ p ∈ news, @LT.lt Nat _ p.1 I) → NsObj oC m₂ → m₂ x = some u → m₂ y = some v → Fr h₀ L h m →
      News h₀ L h ((I₁, o₁) :: (I, oI) :: (C, oC) :: (D, lst []) :: news) →
      wpAny (model prog w) A (isTrue ct (compEnvC scope cl C env) (eval ct (compEnvC scope cl C env))) (TestEnd h₀ L m ((I₁, o₁) :: (I, oI) :: (C, oC) :: (D, lst []) :: news) s false) E' { s with heap := h, toks := tk })
    (hRR : ∀ D C h tk m', (∀ p ∈ news, @LT.lt Nat _ p.1 D) → Fr h₀ L h m → News h₀ L h ((D, lst []) :: news) → h.Ns C m' → h₀.get? C = none → C ≠ L → C ≠ D → (∀ p ∈ news, p.1 ≠ C) → RR (.ref D) C (.ok .next) { s with heap := h, toks := tk }) :
    wpAny (model prog w) A (newList []) (fun acc s₃ => wpAny (model prog w) A (newFunctionEnv scope env.globals cl [] env.qual none .none (some env)) (fun cenv s₄ =>
      codeAny (model prog w) A (.compStart (.ListComp elt [⟨.Name x px, i0, [], 0⟩, ⟨.Name y py, .Name z pz, [ct], 0⟩] scope pos) 0 (.ref I) acc { cenv with scope := relabel scope env }) (RR acc cenv.locals) s₄) E s₃) E s := by
  refine wpAny_newObj_type (wpAny_newFunctionEnv hcell (by intro y hy; simp at hy) (fun h₁ hns₁ hsb₁ => ?_) hkind)
  dsimp only at hns₁ hsb₁ ⊢
  generalize hH2 : s.heap.push { cls := .type "list", dict := none, data := .seq ([] : List Value).toArray } = H2 at hns₁ hsb₁ ⊢
  have hC : H2.objs.size = s.heap.objs.size + 1 := by rw [← hH2, Heap.size_push]
  have hIlt : @LT.lt Nat _ I s.heap.objs.size := by obtain ⟨o, e, _⟩ := hst; exact Heap.lt_size e
  have hLlt : @LT.lt Nat _ L s.heap.objs.size := F.ns.lt
  have lDC : @LT.lt Nat _ s.heap.objs.size H2.objs.size := by rw [hC]; exact Nat.lt_succ_self _
  have old : ∀ b o, s.heap.get? b = some o → h₁.get? b = some o := fun b o e => hsb₁.extBut b o (Nat.ne_of_lt (Nat.lt_trans (Heap.lt_size e) lDC)) (Heap.get?_push_of_some _ (hH2 ▸ Heap.get?_push_of_some _ e))
  have gD : h₁.get? s.heap.objs.size = some (lst []) := hsb₁.extBut _ _ (Nat.ne_of_lt lDC) (Heap.get?_push_of_some _ (hH2 ▸ Heap.get?_push_size _ rfl))
  have fresh₀ : ∀ b, s.heap.objs.size ≤ b → h₀.get? b = none := fun b hb => by
    cases e : h₀.get? b with
    | none => rfl
    | some o' => exact absurd (Heap.lt_size (F.keep b o' e)) (Nat.not_lt.mpr hb)
  have hD₀ := fresh₀ s.heap.objs.size (Nat.le_refl _)
  have hC₀ := fresh₀ H2.objs.size (by rw [hC]; exact Nat.le_succ _)
  have DL : s.heap.objs.size ≠ L := Nat.ne_of_gt hLlt
  have CL : H2.objs.size ≠ L := Nat.ne_of_gt (Nat.lt_trans hLlt lDC)
  have hlist : ∀ h' nw, (∀ b o, h₀.get? b = some o → h'.get? b = some o) → News h₀ L h' nw → (∀ q ∈ news, q ∈ nw) → h'.IsList lv vs.toArray := fun h' nw k N' sub => hS.list k (fun q hq => N' q (sub q hq))
  have W := Walks.list (prog := prog) (w := w) hh I lv (Nat.ne_of_lt hlv) vs.toArray
  have hsz : vs.toArray.size = vs.length := by simp
  rw [hsz] at W
  have loop : ∀ s₃ : Shared, s₃ = { s with heap := h₁, toks := s.toks + ([] : List (Str × Value)).length } →
      codeAny (model prog w) A (.compLoop (.ListComp elt [⟨.Name x px, i0, [], 0⟩, ⟨.Name y py, .Name z pz, [ct], 0⟩] scope pos) 0 (.ref I) (.ref s.heap.objs.size) (compEnvC scope cl H2.objs.size env))
        (RR (.ref s.heap.objs.size) H2.objs.size) s₃ := by
    rintro s₃ rfl
    refine loop_outer
      (fun k s' => ∃ h' tk i m', s' = { s with heap := h', toks := tk } ∧ i ≤ vs.length ∧ k = vs.length + 1 - i ∧ h'.IsListIter I lv i ∧ Fr h₀ L h' m ∧ h'.Ns H2.objs.size m' ∧ News h₀ L h' ((s.heap.objs.size, lst []) :: news)) ?_ (vs.length + 1)
      ⟨h₁, _, 0, _, rfl, Nat.zero_le _, rfl, hst.at fun o e => old _ o e, F.keeps old, hns₁, fun q hq => ?_⟩
    · rintro k s' ⟨h', tk, i, m', rfl, hi, rfl, hst', F', hn', N'⟩
      have hl' := hlist h' _ F'.keep N' fun q hq => .tail _ hq
      by_cases hlt : i < vs.length
      · refine W.item i _ _ _ hlt ⟨hst', hl'⟩ fun u h₂ tk₂ hPv hst₂ hk₂ => ?_
        have hu : u ∈ vs := List.mem_of_getElem? (by simpa using (show vs.toArray[i]? = some u from hPv))
        have kI : ∀ b o, b ≠ I → h'.get? b = some o → h₂.get? b = some o := fun b o hb e => hk₂ b o (fun hm => hb (List.mem_singleton.mp hm)) e
        have N₂ : News h₀ L h₂ ((s.heap.objs.size, lst []) :: news) := news_but N' hk₂ fun q hq => by
          rcases List.mem_cons.mp hq with rfl | hq
          · exact Nat.ne_of_gt hIlt
          · exact Nat.ne_of_lt (off q hq)
        have F₂ : Fr h₀ L h₂ m := fr_but F' hk₂ hIL hI₀
        refine wpAny_assign_Name (wpAny_storeName_local (lookup_relabel_local hx) (hn'.at' fun o e => kI _ o (Nat.ne_of_gt (Nat.lt_trans hIlt lDC)) e) (fun h₃ hn₃ hs₃ => ?_) (by simp [compEnvC, relabel, hkind]))
        have F₃ : Fr h₀ L h₃ m := F₂.change hs₃ CL hC₀
        obtain ⟨oI, heI⟩ : ∃ o, h₃.get? I = some o := by obtain ⟨o, e, _⟩ := hst₂.1; exact ⟨o, hs₃.extBut _ _ (Nat.ne_of_lt (Nat.lt_trans hIlt lDC)) e⟩
        have hst₃ : h₃.IsListIter I lv (i + 1) := hst₂.1.at fun o e => hs₃.extBut _ _ (Nat.ne_of_lt (Nat.lt_trans hIlt lDC)) e
        have N₃ : News h₀ L h₃ ((I, oI) :: (s.heap.objs.size, lst []) :: news) := fun q hq => by
          rcases List.mem_cons.mp hq with rfl | hq
          · exact ⟨heI, Ne.symm hIL, hI₀⟩
          · have q' := N₂ q hq
            refine ⟨hs₃.extBut _ _ ?_ q'.1, q'.2⟩
            rcases List.mem_cons.mp hq with rfl | hq
            · exact Nat.ne_of_lt lDC
            · exact Nat.ne_of_lt (Nat.lt_trans (off q hq) (Nat.lt_trans hIlt lDC))
        refine wpAny_Name (wpAny_loadName_cell (c := cv) hkind hz hzc ⟨ov, (N₃ _ (.tail _ (.tail _ hzm))).1, hzd⟩ ?_) hdb
        have hl₃ := hlist h₃ _ F₃.keep N₃ fun q hq => .tail _ (.tail _ hq)
        refine wpAny_pyIter_list hl₃ ?_
        obtain ⟨oC, heC, hoC⟩ := ns_obj hn₃
        have hClt : @LT.lt Nat _ H2.objs.size h₃.objs.size := Heap.lt_size heC
        have lDj := Nat.lt_trans lDC hClt
        have lIj := Nat.lt_trans hIlt lDj
        generalize hH4 : h₃.push { cls := .type "list_iterator", data := .fields #[.ref lv, .int 0 0] } = H4
        have old₄ : ∀ b o, h₃.get? b = some o → H4.get? b = some o := fun b o e => by rw [← hH4]; exact Heap.get?_push_of_some _ e
        have gj : H4.get? h₃.objs.size = some { cls := .type "list_iterator", data := .fields #[.ref lv, .int 0 0] } := by rw [← hH4]; exact Heap.get?_push_size _ rfl
        have hj₀ : h₀.get? h₃.objs.size = none := by
          cases e : h₀.get? h₃.objs.size with
          | none => rfl
          | some o' => exact absurd (Heap.lt_size (F₃.keep _ o' e)) (Nat.lt_irrefl _)
        have hjL : L ≠ h₃.objs.size := Nat.ne_of_lt (Nat.lt_trans hLlt lDj)
        have WJ := Walks.list (prog := prog) (w := w) hh h₃.objs.size lv (Nat.ne_of_lt (Nat.lt_trans hlv lIj)) vs.toArray
        rw [hsz] at WJ
        have hstJ : H4.IsListIter h₃.objs.size lv 0 := ⟨_, gj, rfl, rfl⟩
        have loopJ : ∀ s₅ : Shared, s₅ = { s with heap := H4, toks := tk₂ + 1 } →
            codeAny (model prog w) A (.compLoop (.ListComp elt [⟨.Name x px, i0, [], 0⟩, ⟨.Name y py, .Name z pz, [ct], 0⟩] scope pos) 1 (.ref h₃.objs.size) (.ref s.heap.objs.size) (compEnvC scope cl H2.objs.size env))
              (fun r s₅ => match r with
                | .ok _ => ∃ m_1, m_1 < vs.length + 1 - i ∧ ∃ h' tk i m', s₅ = { s with heap := h', toks := tk } ∧ i ≤ vs.length ∧ m_1 = vs.length + 1 - i ∧ h'.IsListIter I lv i ∧ Fr h₀ L h' m ∧ h'.Ns H2.objs.size m' ∧ News h₀ L h' ((s.heap.objs.size, lst []) :: news)
                | .error _ => False) s₅ := by
          rintro s₅ rfl
          refine loop_inner
            (fun k s' => ∃ h' tk j m', s' = { s with heap := h', toks := tk } ∧ j ≤ vs.length ∧ k = vs.length + 1 - j ∧ h'.IsListIter h₃.objs.size lv j ∧ Fr h₀ L h' m ∧ h'.Ns H2.objs.size m' ∧ m' x = some u ∧ News h₀ L h' ((I, oI) :: (s.heap.objs.size, lst []) :: news)) ?_ (vs.length + 1)
            ⟨H4, _, 0, _, rfl, Nat.zero_le _, rfl, hstJ, F₃.keeps old₄, hn₃.at' fun o e => old₄ _ o e, by simp, fun q hq => ⟨old₄ _ _ (N₃ q hq).1, (N₃ q hq).2⟩⟩
          rintro k s' ⟨h', tk, j, m', rfl, hj, rfl, hst', F', hn', hmx, N'⟩
          have hl' := hlist h' _ F'.keep N' fun q hq => .tail _ (.tail _ hq)
          have nJ : ∀ q ∈ ((I, oI) :: (s.heap.objs.size, lst []) :: news), q.1 ≠ h₃.objs.size := fun q hq => by
            rcases List.mem_cons.mp hq with rfl | hq
            · exact Nat.ne_of_lt lIj
            · rcases List.mem_cons.mp hq with rfl | hq
              · exact Nat.ne_of_lt lDj
              · exact Nat.ne_of_lt (Nat.lt_trans (off q hq) lIj)
          by_cases hlt' : j < vs.length
          · refine WJ.item j _ _ _ hlt' ⟨hst', hl'⟩ fun v h₅ tk₅ hPw hst₅ hk₅ => ?_
            have hv : v ∈ vs := List.mem_of_getElem? (by simpa using (show vs.toArray[j]? = some v from hPw))
            have kJ : ∀ b o, b ≠ h₃.objs.size → h'.get? b = some o → h₅.get? b = some o := fun b o hb e => hk₅ b o (fun hm => hb (List.mem_singleton.mp hm)) e
            have N₅ : News h₀ L h₅ ((I, oI) :: (s.heap.objs.size, lst []) :: news) := news_but N' hk₅ nJ
            have F₅ : Fr h₀ L h₅ m := fr_but F' hk₅ hjL hj₀
            refine wpAny_assign_Name (wpAny_storeName_local (lookup_relabel_local hy) (hn'.at' fun o e => kJ _ o (Nat.ne_of_lt hClt) e) (fun h₆ hn₆ hs₆ => ?_) (by simp [compEnvC, relabel, hkind]))
            have F₆ : Fr h₀ L h₆ m := F₅.change hs₆ CL hC₀
            obtain ⟨o₁, he₁⟩ : ∃ o, h₆.get? h₃.objs.size = some o := by obtain ⟨o, e, _⟩ := hst₅.1; exact ⟨o, hs₆.extBut _ _ (Nat.ne_of_gt hClt) e⟩
            have hst₆ : h₆.IsListIter h₃.objs.size lv (j + 1) := hst₅.1.at fun o e => hs₆.extBut _ _ (Nat.ne_of_gt hClt) e
            obtain ⟨oC₆, heC₆, hoC₆⟩ := ns_obj hn₆
            have N₆ : News h₀ L h₆ ((h₃.objs.size, o₁) :: (I, oI) :: (H2.objs.size, oC₆) :: (s.heap.objs.size, lst []) :: news) := fun q hq => by
              rcases List.mem_cons.mp hq with rfl | hq
              · exact ⟨he₁, Ne.symm hjL, hj₀⟩
              · have up : ∀ q, q ∈ ((I, oI) :: (s.heap.objs.size, lst []) :: news) → q.1 ≠ H2.objs.size → h₆.get? q.1 = some q.2 ∧ q.1 ≠ L ∧ h₀.get? q.1 = none := fun q hq hne => ⟨hs₆.extBut _ _ hne (N₅ q hq).1, (N₅ q hq).2⟩
                rcases List.mem_cons.mp hq with rfl | hq
                · exact up _ (.head _) (Nat.ne_of_lt (Nat.lt_trans hIlt lDC))
                · rcases List.mem_cons.mp hq with rfl | hq
                  · exact ⟨heC₆, CL, hC₀⟩
                  · rcases List.mem_cons.mp hq with rfl | hq
                    · exact up _ (.tail _ (.head _)) (Nat.ne_of_lt lDC)
                    · exact up q (.tail _ (.tail _ hq)) (Nat.ne_of_lt (Nat.lt_trans (off q hq) (Nat.lt_trans hIlt lDC)))
            refine wpAny_mono (turn u v h₃.objs.size o₁ I oI H2.objs.size oC₆ s.heap.objs.size _ h₆ _ _ hu hv ⟨hIlt, lDC, hClt⟩ off hoC₆ (by simp [hyx, hmx]) (by simp) F₆ N₆) (fun ok s₇ h₇ => ?_) fun _ _ e => e
            obtain ⟨rfl, h₇, tk₇, rfl, F₇, N₇⟩ := h₇
            refine ⟨rfl, vs.length + 1 - (j + 1), by omega, h₇, tk₇, j + 1, _, rfl, hlt', rfl, ?_, F₇, hoC₆.ns (N₇ _ (.tail _ (.tail _ (.head _)))).1, by simp [hyx, hmx], fun q hq => ?_⟩
            · obtain ⟨o, e, r⟩ := hst₆
              rw [he₁] at e; cases e
              exact ⟨o₁, (N₇ _ (.head _)).1, r⟩
            · rcases List.mem_cons.mp hq with rfl | hq
              · exact N₇ _ (.tail _ (.head _))
              · exact N₇ q (.tail _ (.tail _ (.tail _ hq)))
          · obtain rfl : j = vs.length := Nat.le_antisymm hj (Nat.not_lt.mp hlt')
            refine WJ.done _ _ _ ⟨hst', hl'⟩ fun h₅ tk₅ hk₅ => ?_
            have N₅ : News h₀ L h₅ ((I, oI) :: (s.heap.objs.size, lst []) :: news) := news_but N' hk₅ nJ
            refine ⟨vs.length + 1 - (i + 1), by omega, h₅, tk₅, i + 1, m', rfl, hlt, rfl, ?_, fr_but F' hk₅ hjL hj₀, hn'.at' fun o e => hk₅ _ o (by simpa using Nat.ne_of_lt hClt) e, fun q hq => N₅ q (.tail _ hq)⟩
            obtain ⟨o, e, r⟩ := hst₃
            rw [heI] at e; cases e
            exact ⟨oI, (N₅ _ (.head _)).1, r⟩
        exact start_inner (loopJ _ rfl) (WJ.self 0 _ _ _ ⟨hstJ, hlist H4 _ (F₃.keeps old₄).keep (fun q hq => ⟨old₄ _ _ (N₃ q hq).1, (N₃ q hq).2⟩) fun q hq => .tail _ (.tail _ hq)⟩ (loopJ _ rfl))
      · obtain rfl : i = vs.length := Nat.le_antisymm hi (Nat.not_lt.mp hlt)
        refine W.done _ _ _ ⟨hst', hl'⟩ fun h₂ tk₂ hk₂ => ?_
        exact hRR _ _ h₂ tk₂ m' (fun q hq => Nat.lt_trans (off q hq) hIlt) (fr_but F' hk₂ hIL hI₀) (news_but N' hk₂ fun q hq => by
          rcases List.mem_cons.mp hq with rfl | hq
          · exact Nat.ne_of_gt hIlt
          · exact Nat.ne_of_lt (off q hq)) (hn'.at' fun o e => hk₂ _ o (by simpa using Nat.ne_of_gt (Nat.lt_trans hIlt lDC)) e) hC₀ CL (Nat.ne_of_gt lDC)
          (fun q hq => Nat.ne_of_lt (Nat.lt_trans (off q hq) (Nat.lt_trans hIlt lDC)))
    · rcases List.mem_cons.mp hq with rfl | hq
      · exact ⟨gD, DL, hD₀⟩
      · exact ⟨old _ _ (N q hq).1, (N q hq).2⟩
  exact codeAny_compStart_list (loop _ rfl) (W.self 0 _ _ _ ⟨hst.at fun o e => old _ o e, hlist h₁ news (F.keeps old).keep (fun q hq => ⟨old _ _ (N q hq).1, (N q hq).2⟩) fun _ h => h⟩ (loop _ rfl))
end
end Mine
end
section
open PySem PySem.W PyProof.Rows PySem.Calls PySem.Spec
set_option maxRecDepth 100000
set_option maxHeartbeats 4000000
namespace Mine
open LCg (lst NsObj ns_obj lst_snoc fr_but news_but SrcAt)
section
variable {prog : Program} {w : World} {A : Around} {E : Value → Shared → Prop} {s : Shared} {h₀ : Heap} {L : Addr} {m : Str → Option Value} {env : Env}
/-- the source of a comprehension is a range; what its turns need, what its end gives -/
def RangeC (prog : Program) (w : World) (A : Around) (h₀ : Heap) (L : Addr) (m : Str → Option Value) (env : Env) (ct : Expr) (x : Str) (scope : Scope) (cl : List (Str × Addr)) (Q : Value → Shared → Prop) (xv : Value) (s₁ : Shared) : Prop :=
  ∃ (r : Addr) (a b : Int) (t u v : Tok) (n : Nat) (news : List (Addr × Obj)) (p : Int → Bool), xv = .ref r ∧ A.handled = none ∧ Fr h₀ L s₁.heap m ∧ News h₀ L s₁.heap news ∧ IsRange s₁.heap r a b 1 t u v ∧ Builtin.Range.small a b 1 = true ∧ Builtin.Range.rangeSize a b 1 = ((n : Nat) : Int) ∧ n ≤ sizeLine ∧
    (∀ i I oI C oC D ys c oc h tk t (E' : Value → Shared → Prop), i < n → (@LT.lt Nat _ I D ∧ @LT.lt Nat _ D C ∧ @LT.lt Nat _ C c) → (∀ p ∈ news, @LT.lt Nat _ p.1 I) → oc.data = .cell (some (.int (a + ((i : Nat) : Int)) t)) → Fr h₀ L h m → News h₀ L h ((I, oI) :: (C, oC) :: (D, lst ys) :: (c, oc) :: news) →
      wpAny (model prog w) A (isTrue ct (compEnvC scope ((x, c) :: cl) C env) (eval ct (compEnvC scope ((x, c) :: cl) C env))) (TestEnd h₀ L m ((I, oI) :: (C, oC) :: (D, lst ys) :: (c, oc) :: news) s₁ (p (a + ((i : Nat) : Int)))) E' { s₁ with heap := h, toks := tk }) ∧
    (∀ D h tk ys, (∀ p ∈ news, @LT.lt Nat _ p.1 D) → Fr h₀ L h m → News h₀ L h ((D, lst ys) :: news) → IntsAre ys (passF p a n) → Q (.ref D) { s₁ with heap := h, toks := tk })
theorem ListComp_C {ct iter : Expr} {x : Str} {px pe : Pos} {scope : Scope} {cl : List (Str × Addr)} {pos : Pos} {Q : Value → Shared → Prop} (_F₀ : Fr h₀ L s.heap m)
    (hclos : closureFor scope env = pure cl) (hc : ∀ k acc, cellsFrom k scope.names acc = (x, k) :: acc) (hp : ∀ h, pushCells h scope.names = h.push { cls := .type "cell", data := .cell none })
    (hkind : scope.kind = .function) (hnames : ∀ y ∈ scope.names, y.2 = .local → scope.names.lookup y.1 = some .local) (hx : (relabel scope env).names.lookup x = some .cell) (hdb : (x == ("__debug__" : Str)) = false)
    (h : wpAny (model prog w) A (eval iter env) (RangeC prog w A h₀ L m env ct x scope cl Q) E s)
    (hs : ∀ x, foldedSetIterable iter env x = pure x := by intro _; rfl) :
    wpAny (model prog w) A (eval (.ListComp (.Name x pe) [⟨.Name x px, iter, [ct], 0⟩] scope pos) env) Q E s := by
  rw [eval_ListComp]
  refine wpAny_comprehension_free (use := none) rfl hs hclos hkind hnames (wpAny_mono h (fun xv s₁ h₁ => ?_) fun _ _ e => e)
  obtain ⟨r, a, b, t, u, v, n, news, p, rfl, hh, F, N, hr, hsm, hn, hsz, turn, fin⟩ := h₁
  refine wpAny_pyIter_range hr hsm ?_
  refine block_C (s := { s₁ with heap := _ }) (news := news) (p := p) hh hc hp hkind hx hdb hsz (by show IsRangeIter _ _ _ _ _; rw [hn]; exact Heap.get?_push_size _ rfl) (F.keeps fun _ _ e => Heap.get?_push_of_some _ e)
    (N.grown fun _ _ e => Heap.get?_push_of_some _ e) (Nat.ne_of_lt F.ns.lt) (next_is_new F) (fun q hq => Heap.lt_size (N q hq).1) turn ?_
  intro D C h' tk m' ys lt F' N' hn hC₀ hCL hCD offC hys
  refine ⟨m', hn, fun h'' hs'' => fin D h'' tk ys lt (F'.change hs'' hCL hC₀) (fun q hq => ?_) hys⟩
  refine ⟨hs''.extBut _ _ ?_ (N' q hq).1, (N' q hq).2⟩
  rcases List.mem_cons.mp hq with rfl | hq
  · exact Ne.symm hCD
  · exact offC q hq
/-- the source of a comprehension of two clauses -/
def ListSrc2 (prog : Program) (w : World) (A : Around) (h₀ : Heap) (L : Addr) (m : Str → Option Value) (env : Env) (ct : Expr) (x y z : Str) (scope : Scope) (cl : List (Str × Addr)) (Q : Value → Shared → Prop) (xv : Value) (s₁ : Shared) : Prop :=
  ∃ (lv cv : Addr) (vs : List Value) (ov : Obj) (news : List (Addr × Obj)), xv = .ref lv ∧ A.handled = none ∧ Fr h₀ L s₁.heap m ∧ News h₀ L s₁.heap news ∧ SrcAt h₀ lv vs.toArray news ∧ cl.lookup z = some cv ∧ (cv, ov) ∈ news ∧ ov.data = .cell (some (.ref lv)) ∧
    (∀ u v I₁ o₁ I oI C oC D m₂ h tk (E' : Value → Shared → Prop), u ∈ vs → v ∈ vs → (@LT.lt Nat _ I D ∧ @LT.lt Nat _ D C ∧ @LT.lt Nat _ C I₁) → (∀ p ∈ news, @LT.lt Nat _ p.1 I) → NsObj oC m₂ → m₂ x = some u → m₂ y = some v → Fr h₀ L h m →
      News h₀ L h ((I₁, o₁) :: (I, oI) :: (C, oC) :: (D, lst []) :: news) →
      wpAny (model prog w) A (isTrue ct (compEnvC scope cl C env) (eval ct (compEnvC scope cl C env))) (TestEnd h₀ L m ((I₁, o₁) :: (I, oI) :: (C, oC) :: (D, lst []) :: news) s₁ false) E' { s₁ with heap := h, toks := tk }) ∧
    (∀ D h tk, (∀ p ∈ news, @LT.lt Nat _ p.1 D) → Fr h₀ L h m → News h₀ L h ((D, lst []) :: news) → Q (.ref D) { s₁ with heap := h, toks := tk })
theorem ListComp_2 {elt i0 ct : Expr} {x y z : Str} {px py pz : Pos} {scope : Scope} {cl : List (Str × Addr)} {pos : Pos} {Q : Value → Shared → Prop} (_F₀ : Fr h₀ L s.heap m)
    (hclos : closureFor scope env = pure cl) (hcell : ∀ y ∈ scope.names, y.2 ≠ .cell) (hkind : scope.kind = .function) (hnames : ∀ y ∈ scope.names, y.2 = .local → scope.names.lookup y.1 = some .local)
    (hx : scope.names.lookup x = some .local) (hy : scope.names.lookup y = some .local) (hyx : x ≠ y) (hz : (relabel scope env).names.lookup z = some .cell) (hdb : (z == ("__debug__" : Str)) = false)
    (h : wpAny (model prog w) A (eval i0 env) (ListSrc2 prog w A h₀ L m env ct x y z scope cl Q) E s)
    (hs : ∀ x, foldedSetIterable i0 env x = pure x := by intro _; rfl) :
    wpAny (model prog w) A (eval (.ListComp elt [⟨.Name x px, i0, [], 0⟩, ⟨.Name y py, .Name z pz, [ct], 0⟩] scope pos) env) Q E s := by
  rw [eval_ListComp]
  refine wpAny_comprehension_free (use := none) rfl hs hclos hkind hnames (wpAny_mono h (fun xv s₁ h₁ => ?_) fun _ _ e => e)
  obtain ⟨lv, cv, vs, ov, news, rfl, hh, F, N, S, hzc, hzm, hzd, turn, fin⟩ := h₁
  have hl := S.list F.keep N
  have hlt : lv < s₁.heap.objs.size := by obtain ⟨_, e, _⟩ := hl; exact Heap.lt_size e
  refine wpAny_pyIter_list hl ?_
  refine block_2 (s := { s₁ with heap := _ }) (vs := vs) (news := news) hh hcell hkind hx hy hyx hz hzc hzm hzd hdb ⟨_, Heap.get?_push_size _ rfl, rfl, rfl⟩ (F.keeps fun _ _ e => Heap.get?_push_of_some _ e)
    (N.grown fun _ _ e => Heap.get?_push_of_some _ e) (Nat.ne_of_lt F.ns.lt) (next_is_new F) (fun q hq => Heap.lt_size (N q hq).1) S hlt turn ?_
  intro D C h' tk m' lt F' N' hn hC₀ hCL hCD offC
  refine ⟨m', hn, fun h'' hs'' => fin D h'' tk lt (F'.change hs'' hCL hC₀) (fun q hq => ?_)⟩
  refine ⟨hs''.extBut _ _ ?_ (N' q hq).1, (N' q hq).2⟩
  rcases List.mem_cons.mp hq with rfl | hq
  · exact Ne.symm hCD
  · exact offC q hq
/-- one turn of a comprehension without a test -/
theorem comp_turnU {elt : Expr} {x : Str} {scope : Scope} {cl : List (Str × Addr)} {S : List (Addr × Obj) → Prop} {P : Nat → Value → Prop} {Fin : List Value → List (Addr × Obj) → Prop} {k i : Nat} {ys : List Value} {news : List (Addr × Obj)} (y : Value)
    (turn : ∀ v I oI C oC D m₂ h tk (E' : Value → Shared → Prop), P i v → NsObj oC m₂ → m₂ x = some v → Fr h₀ L h m → News h₀ L h ((I, oI) :: (C, oC) :: (D, lst ys) :: news) → LCg.Off3 I C D news → ((@Ne Nat I C) ∧ (@Ne Nat I D) ∧ (@Ne Nat C D)) →
      wpAny (model prog w) A (eval elt (compEnvC scope cl C env)) (LCg.CompEnd h₀ L m { s with heap := h, toks := tk } I oI C oC D (lst ys) S (fun y' news' => y' = y ∧ news' = news)) E' { s with heap := h, toks := tk })
    (rest : LCg.CompRest prog w A h₀ L m env elt x scope cl s S P Fin k (i + 1) (ys ++ [y]) news) : LCg.CompRest prog w A h₀ L m env elt x scope cl s S P Fin (k + 1) i ys news := by
  refine LCg.CompRest.succ ?_
  intro v I oI C oC D m₂ h tk E' hv hC hx F N off ne
  refine wpAny_mono (turn v I oI C oC D m₂ h tk E' hv hC hx F N off ne) (fun y' s₃ hr => ?_) fun _ _ e => e
  obtain ⟨h', tk', nw, e, F', N', off', hS, rfl, rfl⟩ := hr
  exact ⟨h', tk', _, e, F', N', off', hS, rest⟩
end
end Mine
end
section
open PySem PySem.W PyProof.Rows PySem.Calls PySem.Spec
set_option maxRecDepth 100000
set_option maxHeartbeats 4000000
namespace Mine
/-- between the turns of the loop over the judges -/
abbrev judJ (mb : Str → Option Value) (px p4 p5 : Addr × Obj) (c3 c2 c1 : Addr) (R : List (Addr × Obj)) (_I : Addr) (_i : Nat) (m : Str → Option Value) (n : List (Addr × Obj)) : Prop :=
  ∃ (u1 u2 : Option Value) (o3 o2 o1 : Obj) (d3 d2 d1 : Option Value), m = (fun y => if y = Str.ofString "inside" then u1 else if y = Str.ofString "hosts" then u2 else mb y) ∧
    n = px :: p4 :: p5 :: (c3, o3) :: (c2, o2) :: (c1, o1) :: R ∧ o3.data = .cell d3 ∧ o2.data = .cell d2 ∧ o1.data = .cell d1
theorem jud_src {h₀ : Heap} {mb : Str → Option Value} {lx : Addr} {vx : Obj} {p4 p5 : Addr × Obj} {c3 c2 c1 : Addr} {R : List (Addr × Obj)} {vs : List Value} {k : Nat} (e : vx = W.listOf vs.toArray k) :
    h₀.IsList lx vs.toArray ∨ ∃ lo n, lo.cls = .type "list" ∧ lo.data = .seq vs.toArray n ∧ ∀ I i m n, judJ mb (lx, vx) p4 p5 c3 c2 c1 R I i m n → (lx, lo) ∈ n :=
  .inr ⟨vx, k, by rw [e], by rw [e], by rintro I i m n ⟨u1, u2, o3, o2, o1, d3, d2, d1, rfl, rfl, _⟩; exact .head _⟩
theorem news_jud {h₀ h : Heap} {L : Addr} {x0 x1 x2 x3 x4 x5 x6 : Addr × Obj} {rest : List (Addr × Obj)} (N : News h₀ L h (x0 :: x1 :: x2 :: x3 :: x4 :: x5 :: x6 :: rest)) : News h₀ L h (x0 :: x1 :: x3 :: rest) := fun p hp => by
  rcases List.mem_cons.mp hp with rfl | hp
  · exact N _ (.head _)
  · rcases List.mem_cons.mp hp with rfl | hp
    · exact N _ (.tail _ (.head _))
    · rcases List.mem_cons.mp hp with rfl | hp
      · exact N _ (.tail _ (.tail _ (.tail _ (.head _))))
      · exact N _ (.tail _ (.tail _ (.tail _ (.tail _ (.tail _ (.tail _ (.tail _ hp)))))))
theorem ints_mem {u : Value} : ∀ {vs : List Value} {ns : List Int}, IntsAre vs ns → u ∈ vs → ∃ a t, u = .int a t ∧ a ∈ ns
  | _, _, .nil, h => nomatch h
  | _, _, .cons a t r, h => by
    rcases List.mem_cons.mp h with rfl | h
    · exact ⟨a, t, rfl, .head _⟩
    · obtain ⟨b, t', e, hb⟩ := ints_mem r h
      exact ⟨b, t', e, .tail _ hb⟩
theorem lam5 {A B C l : List Int} (sA : SortOf A (toldAt l 0)) (sB : SortOf B (toldAt l 1)) (sC : SortOf C (toldAt l 2)) :
    Lam (passF (fun g => decide (3 ≤ [A.any (· == g), B.any (· == g), C.any (· == g), A.any (· == g), B.any (· == g)].count true)) 1 15) := by
  intro a ha b hb
  have pa := (List.mem_filter.mp ha).2
  have pb := (List.mem_filter.mp hb).2
  have hc := common5 _ _ _ _ _ _ pa pb
  rw [Bool.or_eq_true, Bool.or_eq_true, Bool.and_eq_true, Bool.and_eq_true, Bool.and_eq_true] at hc
  rcases hc with (⟨h1, h2⟩ | ⟨h1, h2⟩) | ⟨h1, h2⟩
  · exact fam_lam sA h1 h2
  · exact fam_lam sB h1 h2
  · exact fam_lam sC h1 h2
theorem lam4 {A B C l : List Int} (sA : SortOf A (toldAt l 0)) (sB : SortOf B (toldAt l 1)) (sC : SortOf C (toldAt l 2)) :
    Lam (passF (fun g => decide (3 ≤ [A.any (· == g), B.any (· == g), C.any (· == g), B.any (· == g)].count true)) 1 15) := by
  intro a ha b hb
  have pa := (List.mem_filter.mp ha).2
  have pb := (List.mem_filter.mp hb).2
  have hc := common4 _ _ _ _ _ _ pa pb
  rw [Bool.or_eq_true, Bool.or_eq_true, Bool.and_eq_true, Bool.and_eq_true, Bool.and_eq_true] at hc
  rcases hc with (⟨h1, h2⟩ | ⟨h1, h2⟩) | ⟨h1, h2⟩
  · exact fam_lam sA h1 h2
  · exact fam_lam sB h1 h2
  · exact fam_lam sC h1 h2
section
variable {prog : Program} {w : World} {A : Around} {s : Shared} {h₀ : Heap} {L : Addr} {m : Str → Option Value} {env : Env}
open LCg (lst NsObj)
/-- one turn of a comprehension with a test that hands back its own name -/
theorem comp_turnT {ct : Expr} {x : Str} {pe : Pos} {scope : Scope} {cl : List (Str × Addr)} {S : List (Addr × Obj) → Prop} {P : Nat → Value → Prop} {Fin : List Value → List (Addr × Obj) → Prop} {k i : Nat} {ys : List Value} {news : List (Addr × Obj)} (b : Bool) (v₀ : Value)
    (hP : ∀ v, P i v → v = v₀) (hS : S news) (hkind : scope.kind = .function) (hx : scope.names.lookup x = some .local) (hdb : (x == ("__debug__" : Str)) = false)
    (turn : ∀ I oI C oC D m₂ h tk (E' : Value → Shared → Prop), NsObj oC m₂ → m₂ x = some v₀ → Fr h₀ L h m → News h₀ L h ((I, oI) :: (C, oC) :: (D, lst ys) :: news) → LCg.Off3 I C D news → ((@Ne Nat I C) ∧ (@Ne Nat I D) ∧ (@Ne Nat C D)) →
      wpAny (model prog w) A (isTrue ct (compEnvC scope cl C env) (eval ct (compEnvC scope cl C env))) (TestEnd h₀ L m ((I, oI) :: (C, oC) :: (D, lst ys) :: news) s b) E' { s with heap := h, toks := tk })
    (rest : ∀ ys' : List Value, ys'.length = ys.length + b.toNat → LCt.CompRestT prog w A h₀ L m env ct (.Name x pe) x scope cl s S P Fin k (i + 1) ys' news) : LCt.CompRestT prog w A h₀ L m env ct (.Name x pe) x scope cl s S P Fin (k + 1) i ys news := by
  refine LCt.CompRestT.succ ?_
  intro v I oI C oC D m₂ h tk E' hv hC hmx F N off ne
  obtain rfl := hP v hv
  refine wpAny_mono (turn I oI C oC D m₂ h tk E' hC hmx F N off ne) (fun ok s₂ hq => ?_) fun _ _ e => e
  obtain ⟨rfl, h₂, tk₂, rfl, F₂, N₂⟩ := hq
  cases ok with
  | true =>
    simp only [if_true]
    exact wpAny_Name (wpAny_loadName_local hkind (lookup_relabel_local hx) (hC.ns (N₂ _ (.tail _ (.head _))).1) hmx ⟨h₂, tk₂, news, rfl, F₂, N₂, off, hS, rest _ (by rw [List.length_append]; rfl)⟩) hdb
  | false =>
    simp only [Bool.false_eq_true, if_false]
    exact ⟨h₂, tk₂, news, rfl, F₂, N₂, off, hS, rest _ rfl⟩
end
theorem len_ys {prog : Program} {w : World} {A : Around} {E : Value → Shared → Prop} {s : Shared} {h₀ : Heap} {L l : Addr} {ys : List Value} {news : List (Addr × Obj)} {Q : Value → Shared → Prop} (N : News h₀ L s.heap news) (hm : (l, LCg.lst ys) ∈ news) (hz : ys.length ≤ 5)
    (h : Q (.int (ys.length : Int) (s.toks + 1)) { s with toks := s.toks + 1 + 1 }) : wpAny (model prog w) A (call (.builtin "len") [.ref l]) Q E s := by
  refine len_list (items := ys.toArray) ⟨_, (N _ hm).1, rfl, _, rfl⟩ (by rw [List.size_toArray]; omega) ?_
  rw [List.size_toArray]
  exact h
theorem vote5 {a b c : Bool} {y1 y2 y3 y4 y5 : Nat} (h1 : y1 = 0 + a.toNat) (h2 : y2 = y1 + b.toNat) (h3 : y3 = y2 + c.toNat) (h4 : y4 = y3 + a.toNat) (h5 : y5 = y4 + b.toNat) : decide ((5 : Int) < 2 * (y5 : Int)) = decide (3 ≤ [a, b, c, a, b].count true) := by
  subst h1 h2 h3 h4 h5
  cases a <;> cases b <;> cases c <;> decide
theorem vote4 {a b c : Bool} {y1 y2 y3 y4 : Nat} (h1 : y1 = 0 + a.toNat) (h2 : y2 = y1 + b.toNat) (h3 : y3 = y2 + c.toNat) (h4 : y4 = y3 + b.toNat) : decide ((4 : Int) < 2 * (y4 : Int)) = decide (3 ≤ [a, b, c, b].count true) := by
  subst h1 h2 h3 h4
  cases a <;> cases b <;> cases c <;> decide
end Mine
end
section
open PySem PySem.W PyProof.Rows PySem.Calls PySem.Spec
set_option maxRecDepth 100000
set_option maxHeartbeats 4000000
namespace Mine
open LCg (lst NsObj)
/-- between the turns of the loop over the made register's machines -/
abbrev madJ (mb : Str → Option Value) (lh : Addr) (pv pI px p4 p5 p3 p2 : Addr × Obj) (c1 : Addr) (R : List (Addr × Obj)) (hs : List Str) (j : Nat) (m : Str → Option Value) (n : List (Addr × Obj)) : Prop :=
  ∃ (un : Option Value) (vs : List Value) (kh : Nat) (o : Obj) (dv : Option Value),
    m = (fun y => if y = Str.ofString "inside" then un else mb y) ∧ n = (lh, W.listOf vs.toArray kh) :: pv :: pI :: px :: p4 :: p5 :: p3 :: p2 :: (c1, o) :: R ∧ o.data = .cell dv ∧ StrsAre vs (hs.take j) ∧ vs.length = j
theorem news_mad {h₀ h : Heap} {L : Addr} {x0 x1 x2 x3 : Addr × Obj} {rest : List (Addr × Obj)} (N : News h₀ L h (x0 :: x1 :: x2 :: x3 :: rest)) : News h₀ L h (x0 :: rest) := fun p hp => by
  rcases List.mem_cons.mp hp with rfl | hp
  · exact N _ (.head _)
  · exact N _ (.tail _ (.tail _ (.tail _ (.tail _ hp))))
/-- a made machine's host -/
def insideF (V : List Int) (j : Nat) : List Int := V.filter fun g => decide ((g.fdiv (2 ^ j)).fmod 2 = 1) && decide (g ≠ 15)
def labelF (g : Int) : Str := Str.ofString ".c" ++ Str.ofString (toString g)
def madeAt (V : List Int) (j : Nat) : Str :=
  Str.ofString "m" ++ Str.ofString (toString (0 + (j : Int))) ++ Txt.join (Str.ofString "") ((insideF V j).map labelF) ++ (if V.any (· == 15) = true then Str.ofString ".local" else Str.ofString ".net")
abbrev madesAt (V : List Int) : List Str := [madeAt V 0, madeAt V 1, madeAt V 2, madeAt V 3]
theorem mades_get {V : List Int} {j : Nat} (h : j < 4) : (madesAt V)[j]? = some (madeAt V j) := by
  match j, h with
  | 0, _ => rfl
  | 1, _ => rfl
  | 2, _ => rfl
  | 3, _ => rfl
section
variable {prog : Program} {w : World} {A : Around} {s : Shared} {h₀ : Heap} {L : Addr} {m : Str → Option Value} {env : Env}
theorem comp_filter {ct : Expr} {x : Str} {pe : Pos} {scope : Scope} {cl : List (Str × Addr)} {S : List (Addr × Obj) → Prop} {Fin : List Value → List (Addr × Obj) → Prop} {news : List (Addr × Obj)} {vs : List Value} {ns : List Int} (p : Int → Bool)
    (hi : IntsAre vs ns) (hS : S news) (hkind : scope.kind = .function) (hx : scope.names.lookup x = some .local) (hdb : (x == ("__debug__" : Str)) = false)
    (turn : ∀ a t I oI C oC D ys m₂ h tk (E' : Value → Shared → Prop), a ∈ ns → NsObj oC m₂ → m₂ x = some (.int a t) → Fr h₀ L h m → News h₀ L h ((I, oI) :: (C, oC) :: (D, lst ys) :: news) → LCg.Off3 I C D news → ((@Ne Nat I C) ∧ (@Ne Nat I D) ∧ (@Ne Nat C D)) →
      wpAny (model prog w) A (isTrue ct (compEnvC scope cl C env) (eval ct (compEnvC scope cl C env))) (TestEnd h₀ L m ((I, oI) :: (C, oC) :: (D, lst ys) :: news) s (p a)) E' { s with heap := h, toks := tk })
    (fin : ∀ ys, IntsAre ys (ns.filter p) → Fin ys news) :
    LCt.CompRestT prog w A h₀ L m env ct (.Name x pe) x scope cl s S (fun i v => vs.toArray[i]? = some v) Fin vs.toArray.size 0 [] news := by
  have hl := hi.length
  have key : ∀ (k i : Nat) (ys : List Value), i + k = vs.length → IntsAre ys ((ns.take i).filter p) → LCt.CompRestT prog w A h₀ L m env ct (.Name x pe) x scope cl s S (fun i v => vs.toArray[i]? = some v) Fin k i ys news := by
    intro k
    induction k with
    | zero =>
      intro i ys e hys
      refine LCt.CompRestT.zero (fin ys ?_)
      rw [List.take_of_length_le (by omega)] at hys
      exact hys
    | succ k ih =>
      intro i ys e hys
      refine LCt.CompRestT.succ ?_
      intro v I oI C oC D m₂ h tk E' hv hC hmx F N off ne
      have hv' : vs[i]? = some v := by simpa using hv
      obtain ⟨a, t, rfl, ha⟩ : ∃ a t, v = .int a t ∧ ns[i]? = some a := by
        clear ih hys turn fin hmx hv e hl
        induction hi generalizing i with
        | nil => cases hv'
        | cons b u r ih2 =>
          cases i with
          | zero => cases hv'; exact ⟨_, _, rfl, rfl⟩
          | succ i => simpa using ih2 (i := i) (by simpa using hv')
      have hm : a ∈ ns := List.mem_of_getElem? ha
      refine wpAny_mono (turn a t I oI C oC D ys m₂ h tk E' hm hC hmx F N off ne) (fun ok s₂ hq => ?_) fun _ _ e => e
      obtain ⟨hok, h₂, tk₂, rfl, F₂, N₂⟩ := hq
      have hst : (ns.take (i + 1)).filter p = (ns.take i).filter p ++ if p a = true then [a] else [] := by
        rw [take_snoc ha, List.filter_append, List.filter_cons, List.filter_nil]
      cases ok with
      | true =>
        simp only [if_true]
        refine wpAny_Name (wpAny_loadName_local hkind (lookup_relabel_local hx) (hC.ns (N₂ _ (.tail _ (.head _))).1) hmx ⟨h₂, tk₂, news, rfl, F₂, N₂, off, hS, ih (i + 1) _ (by omega) ?_⟩) hdb
        rw [hst, if_pos hok.symm]
        exact IntsAre.append hys (.cons _ _ .nil)
      | false =>
        simp only [Bool.false_eq_true, if_false]
        refine ⟨h₂, tk₂, news, rfl, F₂, N₂, off, hS, ih (i + 1) _ (by omega) ?_⟩
        rw [hst, if_neg (by rw [← hok]; exact Bool.false_ne_true), List.append_nil]
        exact hys
  exact key _ 0 [] (by simp) .nil
theorem comp_texts {elt : Expr} {x : Str} {scope : Scope} {cl : List (Str × Addr)} {S : List (Addr × Obj) → Prop} {Fin : List Value → List (Addr × Obj) → Prop} {news : List (Addr × Obj)} {vs : List Value} {ns : List Int} (f : Int → Str)
    (hi : IntsAre vs ns)
    (turn : ∀ a t I oI C oC D ys m₂ h tk (E' : Value → Shared → Prop), a ∈ ns → NsObj oC m₂ → m₂ x = some (.int a t) → Fr h₀ L h m → News h₀ L h ((I, oI) :: (C, oC) :: (D, lst ys) :: news) → LCg.Off3 I C D news → ((@Ne Nat I C) ∧ (@Ne Nat I D) ∧ (@Ne Nat C D)) →
      wpAny (model prog w) A (eval elt (compEnvC scope cl C env)) (LCg.CompEnd h₀ L m { s with heap := h, toks := tk } I oI C oC D (lst ys) S (fun y news' => (∃ t', y = .str (f a) t') ∧ news' = news)) E' { s with heap := h, toks := tk })
    (fin : ∀ ys, StrsAre ys (ns.map f) → Fin ys news) :
    LCg.CompRest prog w A h₀ L m env elt x scope cl s S (fun i v => vs.toArray[i]? = some v) Fin vs.toArray.size 0 [] news := by
  have hl := hi.length
  have key : ∀ (k i : Nat) (ys : List Value), i + k = vs.length → StrsAre ys ((ns.take i).map f) → LCg.CompRest prog w A h₀ L m env elt x scope cl s S (fun i v => vs.toArray[i]? = some v) Fin k i ys news := by
    intro k
    induction k with
    | zero =>
      intro i ys e hys
      refine LCg.CompRest.zero (fin ys ?_)
      rw [List.take_of_length_le (by omega)] at hys
      exact hys
    | succ k ih =>
      intro i ys e hys
      refine LCg.CompRest.succ ?_
      intro v I oI C oC D m₂ h tk E' hv hC hmx F N off ne
      have hv' : vs[i]? = some v := by simpa using hv
      obtain ⟨a, t, rfl, ha⟩ : ∃ a t, v = .int a t ∧ ns[i]? = some a := by
        clear ih hys turn fin hmx hv e hl
        induction hi generalizing i with
        | nil => cases hv'
        | cons b u r ih2 =>
          cases i with
          | zero => cases hv'; exact ⟨_, _, rfl, rfl⟩
          | succ i => simpa using ih2 (i := i) (by simpa using hv')
      have hm : a ∈ ns := List.mem_of_getElem? ha
      refine wpAny_mono (turn a t I oI C oC D ys m₂ h tk E' hm hC hmx F N off ne) (fun y s₂ hq => ?_) fun _ _ e => e
      obtain ⟨h₂, tk₂, nw, e₂, F₂, N₂, off₂, hS₂, ⟨t', rfl⟩, rfl⟩ := hq
      refine ⟨h₂, tk₂, _, e₂, F₂, N₂, off₂, hS₂, ih (i + 1) _ (by omega) ?_⟩
      rw [take_snoc ha, List.map_append]
      exact strs_snoc hys
  exact key _ 0 [] (by simp) .nil
end
theorem pass_bound {p : Int → Bool} : ∀ g ∈ passF p 1 15, 1 ≤ g ∧ g < 16 := by
  intro g hg
  unfold passF at hg
  obtain ⟨i, hi, rfl⟩ := List.mem_map.mp (List.mem_filter.mp hg).1
  have := List.mem_range.mp hi
  omega
theorem pass_len {p : Int → Bool} : (passF p 1 15).length ≤ 15 := by
  unfold passF
  refine Nat.le_trans (List.length_filter_le _ _) ?_
  rw [List.length_map, List.length_range]
  exact Nat.le_refl _
theorem pass_sort {p : Int → Bool} : (passF p 1 15).Pairwise (· < ·) := by
  unfold passF
  refine List.Pairwise.filter _ ?_
  exact (by decide : ((List.range 15).map fun i => (1 : Int) + ((i : Nat) : Int)).Pairwise (· < ·))
theorem sz_num {a : Int} (h : 1 ≤ a ∧ a < 16) : Sz (Str.ofString (toString a)) 20 := by
  obtain ⟨k, hk, rfl⟩ : ∃ k : Nat, k < 16 ∧ a = (k : Int) := ⟨a.toNat, by omega, by omega⟩
  exact (by decide +kernel : ∀ k, k < 16 → (Str.ofString (toString ((k : Nat) : Int))).length ≤ 20) k hk
theorem label_len {a : Int} (h : 1 ≤ a ∧ a < 16) : (labelF a).length ≤ 4 := by
  obtain ⟨k, hk, rfl⟩ : ∃ k : Nat, k < 16 ∧ a = (k : Int) := ⟨a.toNat, by omega, by omega⟩
  exact (by decide +kernel : ∀ k, k < 16 → (labelF ((k : Nat) : Int)).length ≤ 4) k hk
theorem inside_sub {V : List Int} {j : Nat} : ∀ g ∈ insideF V j, g ∈ V := fun _ h => (List.mem_filter.mp h).1
theorem labels_sum : ∀ (l : List Int), (∀ g ∈ l, 1 ≤ g ∧ g < 16) → ((l.map labelF).map (·.length)).sum ≤ 4 * l.length
  | [], _ => by simp
  | g :: l, h => by
    have h1 := label_len (h g (.head _))
    have h2 := labels_sum l fun x hx => h x (.tail _ hx)
    simp only [List.map_cons, List.sum_cons, List.length_cons]
    omega
theorem inside_len {V : List Int} {j : Nat} (h : V.length ≤ 15) : (insideF V j).length ≤ 15 := Nat.le_trans (List.length_filter_le _ _) h
theorem labels_weight {V : List Int} {j : Nat} (hb : ∀ g ∈ V, 1 ≤ g ∧ g < 16) (hl : V.length ≤ 15) : (((insideF V j).map labelF).map (·.length)).sum + ((insideF V j).map labelF).length ≤ 1048576 := by
  have h1 := labels_sum (insideF V j) fun g hg => hb g (inside_sub g hg)
  have h2 := inside_len (j := j) hl
  rw [List.length_map]
  omega
theorem join_len0 : ∀ l : List Str, (PySem.Str.join (Str.ofString "") l).length = (l.map (·.length)).sum
  | [] => rfl
  | [x] => by simp [PySem.Str.join]
  | x :: y :: r => by
    show (x ++ Str.ofString "" ++ PySem.Str.join (Str.ofString "") (y :: r)).length = _
    rw [PySem.Str.length_append, PySem.Str.length_append, join_len0 (y :: r)]
    have z : (PySem.Str.ofString "").length = 0 := by decide
    rw [z]
    simp only [List.map_cons, List.sum_cons]
    omega
theorem join_eq (l : List Str) : Txt.join (Str.ofString "") l = PySem.Str.join (Str.ofString "") l := by
  show Builtin.Str.glued (PySem.Str.ofString "") l = _
  rw [StrLaws.glued_eq_join]
theorem join_len (l : List Str) : (Txt.join (Str.ofString "") l).length = (l.map (·.length)).sum := by rw [join_eq, join_len0]
theorem sz_join {V : List Int} {j : Nat} (hb : ∀ g ∈ V, 1 ≤ g ∧ g < 16) (hl : V.length ≤ 15) : Sz (Txt.join (Str.ofString "") ((insideF V j).map labelF)) 60 := by
  unfold Sz
  rw [join_len]
  have h1 := labels_sum (insideF V j) fun g hg => hb g (inside_sub g hg)
  have h2 := inside_len (j := j) hl
  omega
theorem news_drop2 {h₀ h : Heap} {L : Addr} {a b : Addr × Obj} {r : List (Addr × Obj)} (N : News h₀ L h (a :: b :: r)) : News h₀ L h r := fun p hp => N p (.tail _ (.tail _ hp))
theorem made_local {V : List Int} {j : Nat} (h : (V.any (· == 15)) = true) : madeAt V j = Str.ofString "m" ++ Str.ofString (toString (0 + (j : Int))) ++ Txt.join (Str.ofString "") ((insideF V j).map labelF) ++ Str.ofString ".local" := by
  unfold madeAt; rw [if_pos h]
theorem made_net {V : List Int} {j : Nat} (h : (V.any (· == 15)) = false) : madeAt V j = Str.ofString "m" ++ Str.ofString (toString (0 + (j : Int))) ++ Txt.join (Str.ofString "") ((insideF V j).map labelF) ++ Str.ofString ".net" := by
  unfold madeAt; rw [if_neg (by rw [h]; exact Bool.false_ne_true)]
theorem fr_jud {h₀ h : Heap} {L : Addr} {a b : Str} {v1 v2 w1 w2 : Option Value} {r : Str → Option Value}
    (F : Fr h₀ L h (fun y => if y = a then v1 else if y = b then v2 else if y = a then w1 else if y = b then w2 else r y)) : Fr h₀ L h (fun y => if y = a then v1 else if y = b then v2 else r y) := by
  have e : (fun y => if y = a then v1 else if y = b then v2 else if y = a then w1 else if y = b then w2 else r y) = fun y => if y = a then v1 else if y = b then v2 else r y := by
    funext y
    by_cases h1 : y = a
    · simp only [if_pos h1]
    · by_cases h2 : y = b
      · simp only [if_neg h1, if_pos h2]
      · simp only [if_neg h1, if_neg h2]
  rw [e] at F; exact F
end Mine
end
section
open PySem PySem.W PyProof.Rows PySem.F PySem.Spec PySem.Calls
set_option maxRecDepth 100000
namespace Mine
theorem ndd_lab : ∀ (T : List (List Nat)) (m : List Nat), 46 ∉ m → LabL T → nddB (m ++ dotted T) = true
  | [], [], _, _ => rfl
  | T, c :: m, hm, hT => by
    have h1 : (c == 46) = false := by
      cases q : (c == 46) with
      | false => rfl
      | true => exact absurd (by rw [beq_iff_eq.mp q]; exact .head _) hm
    have h2 := ndd_lab T m (fun h => hm (.tail _ h)) hT
    show (!(c == 46 && Sre.isDigit ((m ++ dotted T).getD 0 0)) && nddB (m ++ dotted T)) = true
    rw [h1, h2]; rfl
  | l :: r, [], _, hT => by
    obtain ⟨hl, c, q, rfl, _, hd⟩ := hT l (.head _)
    have h2 := ndd_lab r (c :: q) hl hT.tail
    show (!(46 == 46 && Sre.isDigit c) && nddB ((c :: q) ++ dotted r)) = true
    rw [hd, h2]; rfl
termination_by T m => (T.length, m.length)
def lab (g : Int) : List Nat := 99 :: tl (Str.ofString (toString g))
def LV (V : List Int) : List Nat := if V.any (· == 15) = true then LO else [110, 101, 116]
theorem nam_eq : ∀ j : Nat, j < 4 → tl (Str.ofString "m") ++ tl (Str.ofString (toString (0 + (j : Int)))) = nam j := by decide +kernel
theorem label_tl (g : Int) : tl (labelF g) = 46 :: lab g := by
  unfold labelF
  rw [tl_append, show tl (Str.ofString ".c") = [46, 99] by decide +kernel]
  rfl
theorem join_tl0 : ∀ I : List Int, tl (PySem.Str.join (Str.ofString "") (I.map labelF)) = dotted (I.map lab)
  | [] => rfl
  | [g] => by
    show tl (labelF g) = 46 :: (lab g ++ [])
    rw [label_tl, List.append_nil]
  | g :: k :: r => by
    show tl (labelF g ++ Str.ofString "" ++ PySem.Str.join (Str.ofString "") ((k :: r).map labelF)) = 46 :: (lab g ++ dotted ((k :: r).map lab))
    rw [tl_append, tl_append, join_tl0 (k :: r), label_tl, show tl (Str.ofString "") = [] by decide +kernel, List.append_nil]
    rfl
theorem join_tl (I : List Int) : tl (Txt.join (Str.ofString "") (I.map labelF)) = dotted (I.map lab) := by rw [join_eq, join_tl0]
theorem last_tl (V : List Int) : tl (if V.any (· == 15) = true then Str.ofString ".local" else Str.ofString ".net") = dotted [LV V] := by
  unfold LV
  split
  · decide +kernel
  · decide +kernel
def mT (V : List Int) (j : Nat) : List (List Nat) := (insideF V j).map lab ++ [LV V]
theorem made_tl {V : List Int} {j : Nat} (hj : j < 4) : tl (madeAt V j) = nam j ++ dotted (mT V j) := by
  unfold madeAt mT
  rw [tl_append, tl_append, tl_append, join_tl, last_tl, nam_eq j hj, dotted_app, List.append_assoc]
def lowB (l : List Nat) : Bool := l.all fun c => decide (c < 128 ∧ ¬ (65 ≤ c ∧ c ≤ 90))
theorem lab_ok : ∀ k, k < 16 → (labB [lab ((k : Nat) : Int)] && lowB (lab ((k : Nat) : Int))) = true := by decide +kernel
theorem lab_good {g : Int} (h : 1 ≤ g ∧ g < 16) : (46 ∉ lab g ∧ ∃ c r, lab g = c :: r ∧ c ≠ 109 ∧ Sre.isDigit c = false) ∧ lowB (lab g) = true := by
  obtain ⟨k, hk, rfl⟩ : ∃ k : Nat, k < 16 ∧ g = (k : Int) := ⟨g.toNat, by omega, by omega⟩
  have := lab_ok k hk
  rw [Bool.and_eq_true] at this
  exact ⟨lab_of this.1 _ (.head _), this.2⟩
theorem lv_good (V : List Int) : labB [LV V] = true ∧ lowB (LV V) = true := by
  unfold LV
  split <;> decide +kernel
theorem mt_lab {V : List Int} {j : Nat} (hb : ∀ g ∈ V, 1 ≤ g ∧ g < 16) : LabL (mT V j) := by
  intro l hl
  rcases List.mem_append.mp hl with hl | hl
  · obtain ⟨g, hg, rfl⟩ := List.mem_map.mp hl
    exact (lab_good (hb g (inside_sub g hg))).1
  · exact lab_of (lv_good V).1 l hl
theorem made_len {V : List Int} {j : Nat} (hj : j < 4) (hb : ∀ g ∈ V, 1 ≤ g ∧ g < 16) (hl : V.length ≤ 15) : (madeAt V j).length ≤ 100 := by
  have h1 : (Str.ofString "m").length = 1 := by decide +kernel
  have h2 : (Str.ofString (toString (0 + (j : Int)))).length ≤ 20 := sz_str hj
  have h3 : (Txt.join (Str.ofString "") ((insideF V j).map labelF)).length ≤ 60 := sz_join hb hl
  have h4 : (if V.any (· == 15) = true then Str.ofString ".local" else Str.ofString ".net").length ≤ 6 := by split <;> decide +kernel
  unfold madeAt
  rw [PySem.Str.length_append, PySem.Str.length_append, PySem.Str.length_append]
  omega
theorem made_host {V : List Int} {j : Nat} (hj : j < 4) (hb : ∀ g ∈ V, 1 ≤ g ∧ g < 16) (hl : V.length ≤ 15) : HostOf (madeAt V j) (nam j) (mT V j) := by
  refine ⟨made_tl hj, ⟨?_, _, rfl⟩, mt_lab hb, made_len hj hb hl⟩
  unfold nam
  simp only [List.mem_cons, List.not_mem_nil, or_false]
  omega
theorem dotted_mem : ∀ {T : List (List Nat)} {c : Nat}, c ∈ dotted T → c = 46 ∨ ∃ l ∈ T, c ∈ l
  | [], _, h => nomatch h
  | l :: r, c, h => by
    rcases List.mem_cons.mp (show c ∈ 46 :: (l ++ dotted r) from h) with h | h
    · exact .inl h
    · rcases List.mem_append.mp h with h | h
      · exact .inr ⟨l, .head _, h⟩
      · rcases dotted_mem h with h | ⟨k, hk, hc⟩
        · exact .inl h
        · exact .inr ⟨k, .tail _ hk, hc⟩
theorem good_made {V : List Int} {j : Nat} (hj : j < 4) (hb : ∀ g ∈ V, 1 ≤ g ∧ g < 16) (hl : V.length ≤ 15) : Good (madeAt V j) := by
  have H := made_host hj hb hl
  refine ⟨?_, ?_, H.len⟩
  · intro c hc
    have hc' : c ∈ tl (madeAt V j) := hc
    rw [H.eq] at hc'
    rcases List.mem_append.mp hc' with h | h
    · unfold nam at h
      simp only [List.mem_cons, List.not_mem_nil, or_false] at h
      omega
    · rcases dotted_mem h with rfl | ⟨l, hl, hm⟩
      · decide
      · have low : lowB l = true := by
          rcases List.mem_append.mp hl with hl | hl
          · obtain ⟨g, hg, rfl⟩ := List.mem_map.mp hl
            exact (lab_good (hb g (inside_sub g hg))).2
          · rw [List.mem_singleton.mp hl]; exact (lv_good V).2
        exact of_decide_eq_true (List.all_eq_true.mp low c hm)
  · refine ndd_of ?_
    rw [show (madeAt V j).cps.toList = tl (madeAt V j) from rfl, H.eq]
    exact ndd_lab _ _ H.nam.1 H.lab
/-- whether a machine is in a group -/
def bt (j : Nat) (g : Int) : Bool := decide ((g.fdiv (2 ^ j)).fmod 2 = 1)
theorem inside_mem {V : List Int} {j : Nat} {g : Int} : g ∈ insideF V j ↔ g ∈ V ∧ bt j g = true ∧ g ≠ 15 := by
  unfold insideF bt
  rw [List.mem_filter, Bool.and_eq_true, decide_eq_true_eq, decide_eq_true_eq]
theorem bits_all : ∀ k, k < 16 → bitsF (bt 0 ((k : Nat) : Int)) (bt 1 ((k : Nat) : Int)) (bt 2 ((k : Nat) : Int)) (bt 3 ((k : Nat) : Int)) = ((k : Nat) : Int) := by decide +kernel
theorem bits_of {g : Int} (h : 1 ≤ g ∧ g < 16) : bitsF (bt 0 g) (bt 1 g) (bt 2 g) (bt 3 g) = g := by
  obtain ⟨k, hk, rfl⟩ : ∃ k : Nat, k < 16 ∧ g = (k : Int) := ⟨g.toNat, by omega, by omega⟩
  exact bits_all k hk
theorem some_all : ∀ k, k < 16 → (k == 0 || bt 0 ((k : Nat) : Int) || bt 1 ((k : Nat) : Int) || bt 2 ((k : Nat) : Int) || bt 3 ((k : Nat) : Int)) = true := by decide +kernel
theorem some_bit {g : Int} (h : 1 ≤ g ∧ g < 16) : ∃ j, j < 4 ∧ bt j g = true := by
  obtain ⟨k, hk, rfl⟩ : ∃ k : Nat, k < 16 ∧ g = (k : Int) := ⟨g.toNat, by omega, by omega⟩
  have h1 := some_all k hk
  have h0 : (k == 0) = false := beq_eq_false_iff_ne.mpr (by omega)
  rw [h0, Bool.false_or, Bool.or_eq_true, Bool.or_eq_true, Bool.or_eq_true] at h1
  rcases h1 with ((h1 | h1) | h1) | h1
  · exact ⟨0, by decide, h1⟩
  · exact ⟨1, by decide, h1⟩
  · exact ⟨2, by decide, h1⟩
  · exact ⟨3, by decide, h1⟩
theorem sub_all : ∀ g, g < 16 → ∀ h, h < 16 → ∀ j, j < 4 → ∀ k, k < 4 →
    (!([0, ((g : Nat) : Int), ((h : Nat) : Int)].any fun x => x == Builtin.bitAnd ((g : Nat) : Int) ((h : Nat) : Int)) || !(decide (g ≤ h)) || !(bt j ((g : Nat) : Int)) || !(bt j ((h : Nat) : Int)) || !(bt k ((g : Nat) : Int)) || bt k ((h : Nat) : Int)) = true := by decide +kernel
theorem sub_bit {g h : Int} {j k : Nat} (bg : 1 ≤ g ∧ g < 16) (bh : 1 ≤ h ∧ h < 16) (hl : ([0, g, h].any fun x => x == Builtin.bitAnd g h) = true) (le : g ≤ h) (hj : j < 4) (hk : k < 4) (h1 : bt j g = true) (h2 : bt j h = true) (h3 : bt k g = true) : bt k h = true := by
  obtain ⟨a, ha, rfl⟩ : ∃ k : Nat, k < 16 ∧ g = (k : Int) := ⟨g.toNat, by omega, by omega⟩
  obtain ⟨b, hb, rfl⟩ : ∃ k : Nat, k < 16 ∧ h = (k : Int) := ⟨h.toNat, by omega, by omega⟩
  have := sub_all a ha b hb j hj k hk
  rw [hl, h1, h2, h3, decide_eq_true (show a ≤ b by omega)] at this
  exact this
theorem lab_inj_all : ∀ a, a < 16 → ∀ b, b < 16 → (!(lab ((a : Nat) : Int) == lab ((b : Nat) : Int)) || a == b) = true := by decide +kernel
theorem lab_inj {g h : Int} (bg : 1 ≤ g ∧ g < 16) (bh : 1 ≤ h ∧ h < 16) (e : lab g = lab h) : g = h := by
  obtain ⟨a, ha, rfl⟩ : ∃ k : Nat, k < 16 ∧ g = (k : Int) := ⟨g.toNat, by omega, by omega⟩
  obtain ⟨b, hb, rfl⟩ : ∃ k : Nat, k < 16 ∧ h = (k : Int) := ⟨h.toNat, by omega, by omega⟩
  have := lab_inj_all a ha b hb
  rw [e, beq_self_eq_true, Bool.not_true, Bool.false_or, beq_iff_eq] at this
  rw [this]
theorem lab_lv {g : Int} {V : List Int} : lab g ≠ LV V := by
  unfold lab LV LO
  split
  · intro e; injection e with h _; exact absurd h (by decide)
  · intro e; injection e with h _; exact absurd h (by decide)
theorem from_suf {g : Int} : ∀ {I : List Int}, I.Pairwise (· < ·) → I.filter (fun h => decide (g ≤ h)) <:+ I
  | [], _ => List.suffix_refl _
  | x :: r, hp => by
    obtain ⟨h1, h2⟩ := List.pairwise_cons.mp hp
    rw [List.filter_cons]
    by_cases hx : g ≤ x
    · rw [if_pos (decide_eq_true hx), List.filter_eq_self.mpr fun y hy => decide_eq_true (by have := h1 y hy; omega)]
      exact List.suffix_refl _
    · rw [if_neg (by rw [decide_eq_true_eq]; exact hx)]
      exact List.suffix_cons_iff.mpr (.inr (from_suf h2))
theorem suf_from {g : Int} {r I : List Int} (h : g :: r <:+ I) (hp : I.Pairwise (· < ·)) : g :: r = I.filter fun h => decide (g ≤ h) := by
  obtain ⟨P, rfl⟩ := h
  obtain ⟨_, hq, hx⟩ := List.pairwise_append.mp hp
  rw [List.filter_append, List.filter_eq_nil_iff.mpr fun y hy => by
    rw [decide_eq_true_eq]
    have := hx y hy g (.head _)
    omega, List.nil_append, List.filter_eq_self.mpr fun y hy => decide_eq_true (by
    rcases List.mem_cons.mp hy with rfl | hy
    · exact Int.le_refl _
    · have := (List.pairwise_cons.mp hq).1 y hy
      omega)]
theorem suf_snoc {α : Type} {S A : List α} {z : α} (h : S <:+ A ++ [z]) : S = [] ∨ ∃ S', S = S' ++ [z] ∧ S' <:+ A := by
  obtain ⟨P, e⟩ := h
  rcases List.eq_nil_or_concat S with rfl | ⟨S', z', rfl⟩
  · exact .inl rfl
  · rw [List.concat_eq_append, ← List.append_assoc] at e
    obtain ⟨e1, e2⟩ := List.append_inj' e rfl
    injection e2 with e2 _
    exact .inr ⟨S', by rw [List.concat_eq_append, e2], P, e1⟩
theorem made_iff {V : List Int} (hb : ∀ g ∈ V, 1 ≤ g ∧ g < 16) (hs : V.Pairwise (· < ·)) (hl : Lam V) (hlen : V.length ≤ 15) (g : Int) : g ∈ groupsF (madeAt V 0) (madeAt V 1) (madeAt V 2) (madeAt V 3) ↔ g ∈ V := by
  have ps : ∀ j, (insideF V j).Pairwise (· < ·) := fun j => List.Pairwise.filter _ hs
  have all15 : 15 ∈ V → LV V = LO := fun h => by unfold LV; rw [if_pos (any_eq_iff.mpr h)]
  have of15 : LV V = LO → 15 ∈ V := fun h => by
    unfold LV at h
    by_cases q : V.any (· == 15) = true
    · exact any_eq_iff.mp q
    · rw [if_neg q] at h; exact absurd h (by decide)
  have lo : LV V = LO → bitsF (sufB [LO] (mT V 0)) (sufB [LO] (mT V 1)) (sufB [LO] (mT V 2)) (sufB [LO] (mT V 3)) = 15 := fun h => by
    have q : ∀ j, sufB [LO] (mT V j) = true := fun j => by
      unfold sufB mT
      rw [decide_eq_true_eq, h]
      exact List.suffix_append _ _
    rw [q, q, q, q]; rfl
  have same : ∀ {j k : Nat} {g : Int}, j < 4 → k < 4 → g ∈ V → bt j g = true → bt k g = true → (insideF V j).filter (fun h => decide (g ≤ h)) = (insideF V k).filter (fun h => decide (g ≤ h)) := by
    intro j k g hj hk hg h1 h2
    unfold insideF
    rw [List.filter_filter, List.filter_filter]
    refine List.filter_congr fun h hh => ?_
    by_cases le : g ≤ h
    · have e : bt j h = bt k h := by
        rw [Bool.eq_iff_iff]
        exact ⟨fun q => sub_bit (hb g hg) (hb h hh) (hl g hg h hh) le hj hk h1 q h2, fun q => sub_bit (hb g hg) (hb h hh) (hl g hg h hh) le hk hj h2 q h1⟩
      unfold bt at e
      rw [e]
    · rw [decide_eq_false le]; rfl
  have bits : ∀ {j : Nat} {g : Int}, j < 4 → g ∈ V → bt j g = true → g ≠ 15 → ∀ k, k < 4 → sufB (((insideF V j).filter fun h => decide (g ≤ h)).map lab ++ [LV V]) (mT V k) = bt k g := by
    intro j g hj hg h1 h15 k hk
    rw [Bool.eq_iff_iff]
    unfold sufB
    rw [decide_eq_true_eq]
    constructor
    · intro h
      have hm : lab g ∈ mT V k := h.subset (List.mem_append_left _ (List.mem_map.mpr ⟨g, List.mem_filter.mpr ⟨inside_mem.mpr ⟨hg, h1, h15⟩, decide_eq_true (Int.le_refl _)⟩, rfl⟩))
      rcases List.mem_append.mp hm with hm | hm
      · obtain ⟨i, hi, e⟩ := List.mem_map.mp hm
        have := lab_inj (hb i (inside_sub i hi)) (hb g hg) e
        rw [← this]; exact (inside_mem.mp hi).2.1
      · exact absurd (List.mem_singleton.mp hm) lab_lv
    · intro h
      rw [same hj hk hg h1 h]
      obtain ⟨P, e⟩ := from_suf (g := g) (ps k)
      unfold mT
      refine ⟨P.map lab, ?_⟩
      rw [← List.append_assoc, ← List.map_append, e]
  have val : ∀ {j : Nat} {g : Int}, j < 4 → g ∈ V → bt j g = true → g ≠ 15 → bitsF (sufB (((insideF V j).filter fun h => decide (g ≤ h)).map lab ++ [LV V]) (mT V 0)) (sufB (((insideF V j).filter fun h => decide (g ≤ h)).map lab ++ [LV V]) (mT V 1)) (sufB (((insideF V j).filter fun h => decide (g ≤ h)).map lab ++ [LV V]) (mT V 2)) (sufB (((insideF V j).filter fun h => decide (g ≤ h)).map lab ++ [LV V]) (mT V 3)) = g := by
    intro j g hj hg h1 h15
    rw [bits hj hg h1 h15 0 (by decide), bits hj hg h1 h15 1 (by decide), bits hj hg h1 h15 2 (by decide), bits hj hg h1 h15 3 (by decide), bits_of (hb g hg)]
  rw [groups_iff (made_host (by decide) hb hlen) (made_host (by decide) hb hlen) (made_host (by decide) hb hlen) (made_host (by decide) hb hlen)]
  constructor
  · rintro ⟨S, ho, hsuf, rfl⟩
    have key : ∀ j, j < 4 → S <:+ mT V j → bitsF (sufB S (mT V 0)) (sufB S (mT V 1)) (sufB S (mT V 2)) (sufB S (mT V 3)) ∈ V := by
      intro j hj h
      rcases suf_snoc h with rfl | ⟨S', rfl, h'⟩
      · cases ho
      · obtain ⟨P, e⟩ := h'
        obtain ⟨l1, l2, e1, _, rfl⟩ := List.map_eq_append_iff.mp e.symm
        cases l2 with
        | nil =>
          have h2 : (LV V == LO) = true := ho
          have h3 := beq_iff_eq.mp h2
          have h4 := lo h3
          show bitsF (sufB [LV V] (mT V 0)) (sufB [LV V] (mT V 1)) (sufB [LV V] (mT V 2)) (sufB [LV V] (mT V 3)) ∈ V
          rw [h3, h4]; exact of15 h3
        | cons g r =>
          have hsub : g :: r <:+ insideF V j := ⟨l1, e1.symm⟩
          have hg := inside_mem.mp (hsub.subset (.head _))
          rw [suf_from hsub (ps j), val hj hg.1 hg.2.1 hg.2.2]
          exact hg.1
    rcases hsuf with h | h | h | h
    · exact key 0 (by decide) h
    · exact key 1 (by decide) h
    · exact key 2 (by decide) h
    · exact key 3 (by decide) h
  · intro hg
    by_cases h15 : g = 15
    · subst h15
      refine ⟨[LO], rfl, .inl ?_, (lo (all15 hg)).symm⟩
      unfold mT
      rw [all15 hg]
      exact List.suffix_append _ _
    · obtain ⟨j, hj, hbj⟩ := some_bit (hb g hg)
      have hin : g ∈ insideF V j := inside_mem.mpr ⟨hg, hbj, h15⟩
      have hs2 : ((insideF V j).filter fun h => decide (g ≤ h)).map lab ++ [LV V] <:+ mT V j := by
        have := bits hj hg hbj h15 j hj
        rw [hbj] at this
        exact of_decide_eq_true this
      refine ⟨_, ?_, ?_, (val hj hg hbj h15).symm⟩
      · have hm : g ∈ (insideF V j).filter fun h => decide (g ≤ h) := List.mem_filter.mpr ⟨hin, decide_eq_true (Int.le_refl _)⟩
        cases hq : (insideF V j).filter fun h => decide (g ≤ h) with
        | nil => rw [hq] at hm; cases hm
        | cons a r =>
          cases r with
          | nil => rfl
          | cons b r => rfl
      · match j, hj, hs2 with
        | 0, _, h => exact .inl h
        | 1, _, h => exact .inr (.inl h)
        | 2, _, h => exact .inr (.inr (.inl h))
        | 3, _, h => exact .inr (.inr (.inr h))
theorem made_law {a V : List Int} (h : SortOf a (groupsF (madeAt V 0) (madeAt V 1) (madeAt V 2) (madeAt V 3))) (hb : ∀ g ∈ V, 1 ≤ g ∧ g < 16) (hs : V.Pairwise (· < ·)) (hl : Lam V) (hlen : V.length ≤ 15) : a = V :=
  sort_eq h ⟨List.Perm.refl V, hs.imp fun h => Int.le_of_lt h⟩ (groups_nodup ..) (hs.imp fun h => Int.ne_of_lt h) (made_iff hb hs hl hlen)
end Mine
end
section
open PySem PySem.W PyProof.Rows PySem.Calls PySem.Spec
set_option maxRecDepth 100000
set_option maxHeartbeats 16000000
namespace Mine
local macro_rules | `(tactic| walk_at "MYENTERC") => `(tactic| (refine wpAny_call ?_; k_dflt (refine' pure_defC ?k1 ?k2 ?k3 ?k5 ?kA ?kF ?kK ?k6 ?k7 ?k8 ?k9 ?kB ?kD ?_ ?c2 ?c3 ?c4; (case kA => exact rfl); (case kF => exact rfl); (case kK => assumption); (case k1 => k_asm); (case k2 => k_asm); (case k3 => k_asm); (case k5 => k_asm); (case k6 => k_is); (case k7 => k_is); (case k8 => ktr_room); (case k9 => exact BindsTo.of_eq rfl); (case kB => exact rfl); (case kD => decide +kernel); (case c2 => exact rfl); (case c3 => exact rfl); (case c4 => exact rfl); k_whole; intro L' h' tk' cells' F' N' Y' B' X' T'; k_cells Y'; (try simp only [List.cons_append, List.nil_append] at N'); (try dsimp only); (try k_fold))))
local macro_rules | `(tactic| walk_at "MYENTERP") => `(tactic| (refine wpAny_call ?_; k_dflt (refine' pure_def ?k1 ?k2 ?k3 ?k5 ?kA ?kF ?kK ?k6 ?k7 ?k8 ?k9 ?kB ?_ ?c2 ?c3 ?c4 ?c5; (case kA => exact rfl); (case kF => exact rfl); (case kK => assumption); (case k1 => k_asm); (case k2 => k_asm); (case k3 => k_asm); (case k5 => k_asm); (case k6 => k_is); (case k7 => k_is); (case k8 => ktr_room); (case k9 => exact BindsTo.of_eq rfl); (case kB => exact locs rfl); (case c5 => decide); (case c2 => exact rfl); (case c3 => exact rfl); (case c4 => exact rfl); k_whole; intro L' h' F' N' B' X' T'; (try dsimp only); (try k_fold))))
local macro_rules | `(tactic| walk_at "call ref") => `(tactic| (k_here; (with_reducible show wpAny _ _ (call (Value.ref 64) [Value.str _ _]) _ _ _); k_dflt (refine' reach _ _ _ _ _ _ _ _ _ _ _ _ _ _ _ _ _ _ _ _ _ _ _ _ ?k1 ?k2 ?k3 ?k4 ?k5 ?kK ?kp ?kd ?ku ?_; (case k1 => k_asm); (case k2 => k_asm); (case k3 => k_asm); (case k4 => k_asm); (case k5 => k_asm); (case kK => first | exact rfl | assumption); (case kp => refine ⟨by first | with_reducible assumption | exact ndd_slice (by with_reducible assumption) (by decide), by omega⟩); (case kd => ktr_room); (case ku => ktr_units); k_whole; intro t9 h9 tk9 F9 N9; (try dsimp only); (try k_fold))))
local macro_rules | `(tactic| walk_at "call ref") => `(tactic| (k_here; (with_reducible show wpAny _ _ (call (Value.ref 91) [Value.str _ _, Value.int _ _, Value.str _ _]) _ _ _); k_dflt (refine' law_in _ _ _ _ _ _ _ _ _ _ _ _ _ _ _ _ _ _ _ _ _ _ _ _ _ _ _ _ ?k1 ?k2 ?k3 ?k4 ?k5 ?kK ?kp ?kd ?ku ?_; (case k1 => k_asm); (case k2 => k_asm); (case k3 => k_asm); (case k4 => k_asm); (case k5 => k_asm); (case kK => first | exact rfl | assumption); (case kp => refine ⟨by with_reducible assumption, by with_reducible assumption, by with_reducible assumption, by with_reducible assumption, by omega, by omega⟩); (case kd => ktr_room); (case ku => ktr_units); k_whole; intro t9 h9 tk9 F9 N9; (try dsimp only); (try k_fold))))
local macro_rules | `(tactic| walk_at "exec For Name Name cons nil") => `(tactic| (refine Hold.out ?_))
local macro_rules | `(tactic| walk_at "exec For Name List cons nil") => `(tactic| (refine Hold.out ?_))
local macro_rules | `(tactic| walk_at "exec For Name Call cons nil") => `(tactic| (refine Hold.out ?_))
local macro_rules | `(tactic| walk_at "exec While BoolOp cons nil") => `(tactic| (refine Hold.out ?_))
local macro_rules | `(tactic| walk_at "pyIter ref") => `(tactic| (refine Hold.out ?_))
local macro_rules | `(tactic| walk_at "eval ListComp") => `(tactic| (refine Hold.out ?_))
local macro_rules | `(tactic| walk_at "CompSrcT") => `(tactic| (refine Hold.out ?_))
local macro_rules | `(tactic| walk_at "call builtin:list.append") => `(tactic| (k_here; k_dflt (refine' append_K ?k1 ?k2 ?k3 ?_ ?z; (case k1 => k_asm); (case k2 => k_asm); (case k3 => k_upd); (case z => size_fits); k_whole); intro h' F' N'; (try k_sweep)))
local macro_rules | `(tactic| walk_at "CompEnd") => `(tactic| (refine' comp_fin ?k1 ?k2 ?k3 ?k4 ?_; (case k1 => k_asm); (case k2 => k_asm); (case k3 => assumption); (case k4 => first | trivial | assumption); k_whole))
local macro_rules | `(tactic| walk_at "subscriptTail List cons Slice ref ref") => `(tactic| (k_here; (with_reducible show wpAny _ _ (subscriptTail _ (PySem.Expr.Slice (some _) none none _) (Value.ref _) (Value.ref _)) _ _ _); k_dflt (refine kba_turn (value' := PySem.Expr.Name (PySem.Str.ofString "_") ⟨0, 0, 0, 0⟩) (fun _ => rfl) ?_); k_dflt (refine' kmk_slice_ints ?F ?N ?l ?p ?q ?i ?m ?c ?_ ?s ?t ?z); (case F => k_dflt k_asm); (case N => k_dflt k_asm); (case l => k_dflt kmk_list); (case p => k_dflt kmk_part); (case q => k_dflt kmk_part); (case i => k_dflt l_ints); (case m => exact kmk_from (by k_dflt l_ints) (Int.natCast_nonneg _)); (case c => k_dflt kmk_len); (case s => with_unfolding_all rfl); (case t => k_dflt kmk_pure); (case z => exact Nat.le_of_ble_eq_true rfl); k_whole; intro D' ws' h' F' N' l1 hI' hC' hL'; (try k_lt l1); (try k_sweep)))
local macro_rules | `(tactic| walk_at "binaryOp Add str str") => `(tactic| (k_here; (with_reducible show wpAny _ _ (binaryOp Operator.Add (Value.str _ _) (Value.str _ _)) _ _ _); (refine KOpn.add (sz_add (by first | with_reducible exact sz_lit (by decide +kernel) | with_reducible exact sz_app (sz_lit (by decide +kernel)) (by with_reducible assumption) | with_reducible exact sz_app (sz_app (sz_lit (by decide +kernel)) (by with_reducible assumption)) (by first | with_reducible exact sz_tab (by decide +kernel) | with_reducible assumption) | with_reducible exact sz_app (sz_app (sz_app (sz_lit (by decide +kernel)) (by with_reducible assumption)) (sz_tab (by decide +kernel))) (sz_tab (by decide +kernel))) (by first | with_reducible assumption | with_reducible exact sz_tab (by decide +kernel) | with_reducible exact sz_lit (by decide +kernel)) (by decide)) ?_); intro t' k' hx9; clear hx9))
local macro_rules | `(tactic| walk_at "execs cons Assign cons") => `(tactic| (refine wpAny_execs_cons ?_))
local macro_rules | `(tactic| walk_at "call ref") => `(tactic| (k_here; (with_reducible show wpAny _ _ (call (Value.ref 96) [Value.ref _]) _ _ _); k_dflt (refine' law_family _ _ _ _ _ _ _ _ _ _ _ _ _ _ _ _ _ _ _ _ _ _ _ _ _ _ _ _ _ _ _ ?k1 ?k2 ?k3 ?k4 ?k5 ?kK ?kp ?kd ?ku ?_; (case k1 => k_asm); (case k2 => k_asm); (case k3 => k_asm); (case k4 => k_asm); (case k5 => k_asm); (case kK => exact rfl); (case kp => (refine ⟨News.isList (by k_asm) (by k_mem), ?_, ?_, ?_, ?_⟩ <;> first | with_reducible assumption | exact good_host (by decide))); (case kd => ktr_room); (case ku => ktr_units); k_whole; intro D9 vs9 ns9 c9 h9 tk9 F9 N9 ne9 hi9 hs9; (k_lt ne9); (try dsimp only); (try k_fold))))
local macro_rules | `(tactic| walk_at "call ref") => `(tactic| (k_here; (with_reducible show wpAny _ _ (call (Value.ref 101) [Value.ref _]) _ _ _); k_dflt (refine' law_told _ _ _ _ _ _ _ _ _ _ _ _ _ _ _ _ _ _ _ _ _ _ _ _ _ _ _ _ _ _ _ ?k1 ?k2 ?k3 ?k4 ?k5 ?kK ?kp ?kd ?ku ?_; (case k1 => k_asm); (case k2 => k_asm); (case k3 => k_asm); (case k4 => k_asm); (case k5 => k_asm); (case kK => exact rfl); (case kp => exact News.isList (by k_asm) (by k_mem)); (case kd => ktr_room); (case ku => ktr_units); k_whole; intro D9 vs9 ns9 c9 h9 tk9 F9 N9 ne9 hi9 hs9; (k_lt ne9); (try dsimp only); (try k_fold))))
local macro_rules | `(tactic| walk_at "CompSrc") => `(tactic| (refine Hold.out ?_))
local macro_rules | `(tactic| walk_at "CompEnd") => `(tactic| (refine' comp_fin ?k1 ?k2 ?k3 ?k4 ?_; (case k1 => k_asm); (case k2 => k_asm); (case k3 => assumption); (case k4 => first | trivial | assumption | exact Or.inr ⟨_, by k_mem, rfl, _, rfl⟩); k_whole))
local macro_rules | `(tactic| walk_at "compareOp In int ref") => `(tactic| (k_here; k_dflt (refine in_list_ints (News.isList (by k_asm) (by k_mem)) (by first | with_reducible assumption | exact .cons _ _ (.cons _ _ (.cons _ _ .nil))) ?_)))
local macro_rules | `(tactic| walk_at "compareOp NotIn int ref") => `(tactic| (k_here; k_dflt (refine notin_list_ints (News.isList (by k_asm) (by k_mem)) (by first | with_reducible assumption | exact .cons _ _ (.cons _ _ (.cons _ _ .nil))) ?_)))
local macro_rules | `(tactic| walk_at "call ref") => `(tactic| (k_here; (with_reducible show wpAny _ _ (call (Value.ref 84) [Value.ref _]) _ _ _); k_dflt (refine' median5 _ _ _ _ _ _ _ _ _ _ _ _ _ _ _ _ _ _ _ _ _ _ _ _ _ _ _ _ ?k1 ?k2 ?k3 ?k4 ?k5 ?kK ?kp ?kd ?ku ?_; (case k1 => k_asm); (case k2 => k_asm); (case k3 => k_asm); (case k4 => k_asm); (case k5 => k_asm); (case kK => exact rfl); (case kp => exact News.isList (by k_asm) (by k_mem)); (case kd => ktr_room); (case ku => ktr_units); k_whole; intro h9 tk9 F9 N9; (try dsimp only); (try k_fold))))
local macro_rules | `(tactic| walk_at "call ref") => `(tactic| (k_here; (with_reducible show wpAny _ _ (call (Value.ref 84) [Value.ref _]) _ _ _); k_dflt (refine' median4 _ _ _ _ _ _ _ _ _ _ _ _ _ _ _ _ _ _ _ _ _ _ _ _ _ _ _ ?k1 ?k2 ?k3 ?k4 ?k5 ?kK ?kp ?kd ?ku ?_; (case k1 => k_asm); (case k2 => k_asm); (case k3 => k_asm); (case k4 => k_asm); (case k5 => k_asm); (case kK => exact rfl); (case kp => exact News.isList (by k_asm) (by k_mem)); (case kd => ktr_room); (case ku => ktr_units); k_whole; intro h9 tk9 F9 N9; (try dsimp only); (try k_fold))))
local macro_rules | `(tactic| walk_at "binaryOp Mult int int") => `(tactic| (k_here; (refine mul_int ?_ (IntMulOk.of_left (by decide)))))
local macro_rules | `(tactic| walk_at "call builtin:len") => `(tactic| (k_here; (with_reducible show wpAny _ _ (call (Value.builtin "len") [Value.ref _]) _ _ _); first | (k_dflt (refine len_ys (by k_asm) (by k_mem) (by with_reducible assumption) ?_)) | (k_dflt (refine kun_lenL (k := 5) (items := #[_, _, _, _, _]) (News.isList (by k_asm) (by k_mem)) rfl (by decide) ?_)) | (k_dflt (refine kun_lenL (k := 4) (items := #[_, _, _, _]) (News.isList (by k_asm) (by k_mem)) rfl (by decide) ?_))))
local macro_rules | `(tactic| walk_at "exec Assign cons ListComp") => `(tactic| ((with_reducible show wpAny _ _ (exec (Stmt.Assign [PySem.Expr.Name (PySem.Str.ofString "inside") _] _ _) _) _ _ _); refine Hold.out ?_))
local macro_rules | `(tactic| walk_at "call builtin:str.join") => `(tactic| (k_here; k_dflt (refine join_listW (News.isList (by k_asm) (by k_mem)) (by assumption) (by decide +kernel) (by assumption) ?_); intro t' k'))
theorem law_holds : PySem.Challenge.rw_rs0049_01.Holds := by
  refine Mine.hd ?_
  w_on
  w_strict (k_go0; (all_goals try k_fold))
  rename_i w s₀ s₁ mg mb G Y fa o pm doc ho hg KX X V GL T B TE TW a1 a2 M a3 a4 hcd ns h1 h2 h3 h4 h5 as1 as2 l vals as3 hL ra w1 r0 hI hr hc1 hc2 K0 hD h₁ tk₁ F0 ov oj oi e1 e2 e3 N0 X0
  have hend : ∀ (h8 : Heap) (tk8 : Nat) (m : Str → Option Value), Fr s₁.heap s₁.heap.objs.size h8 m → GoodW PySem.Challenge.rw_rs0049_01.row.claim (classAt s₀.heap) (ExcName.means s₀.heap) [ofPy (PyData.list (List.map PyData.int ns))] s₁ (Except.ok (Flow.ret (Value.bool true))) { s₁ with heap := h8, toks := tk8 } := by
    intro h8 tk8 m F8
    k_steps
  clear hD X0 hr r0 w1 ra h5 h4 h3 h2 h1 hcd M TW TE B GL V X
  have d1 : oi.data = .cell none := e3
  have d2 : oj.data = .cell none := e2
  have d3 : ov.data = .cell none := e1
  clear e1 e2 e3
  clear ho hg Y G
  have F1 : Fr s₁.heap s₁.heap.objs.size h₁ (fun y => if y = Str.ofString "script" then some (Value.ref l) else none) := F0
  dsimp only
  refine seq_cut (fun s' => ∃ (h : Heap) (tk : Nat) (ln : Addr) (nv : List Value), s' = { s₁ with heap := h, toks := tk } ∧ Fr s₁.heap s₁.heap.objs.size h (fun y => if y = Str.ofString "numbers" then some (Value.ref ln) else if y = Str.ofString "script" then some (Value.ref l) else none) ∧
    News s₁.heap s₁.heap.objs.size h [(ln, W.listOf nv.toArray 0), (s₁.heap.objs.size + 1 + 1 + 1, ov), (s₁.heap.objs.size + 1 + 1, oj), (s₁.heap.objs.size + 1, oi)] ∧ @LT.lt Nat _ (s₁.heap.objs.size + 1 + 1 + 1) ln ∧ IntsAre nv (numF ns)) ?_ ?_
  · k_steps
    rename Fr _ _ _ _ => F6
    rename News _ _ _ _ => N6
    rename IntsAre _ (List.take 12 ns ++ _) => hI6
    refine ⟨rfl, _, _, _, _, rfl, F6, fun p hp => ?_, by omega, hI6⟩
    rcases List.mem_cons.mp hp with rfl | hp
    · exact N6 _ (.head _)
    · exact N6 _ (.tail _ (.tail _ (.tail _ (.tail _ (.tail _ hp)))))
  rintro s' ⟨h, tk, ln, nv, rfl, F1, N1, lt1, hnv⟩
  obtain ⟨n0, n1, n2, n3, n4, n5, n6, n7, n8, n9, n10, n11, en⟩ := twelve (numF_len ns)
  rw [en] at hnv
  obtain ⟨t0, t1, t2, t3, t4, t5, t6, t7, t8, t9, t10, t11, rfl⟩ := ints12 hnv
  clear hnv N0 F0
  k_steps
  refine Hold.mk ?_
  refine For_turns (by assumption) ?_
  k_steps
  refine Hold.mk ?_
  rename Fr _ _ _ _ => F2
  rename News _ _ _ _ => N2
  refine iter_JI (vs := [Value.int 0 _, Value.int 4 _, Value.int 8 _]) (J := regJ _ _ (W.listOf [Value.int 0 _, Value.int 4 _, Value.int 8 _].toArray 0) _ _ _ _ _ (toldAt (numF ns))) rfl F2 N2 (fun _ => ⟨none, none, none, none, [], 0, oi, none, reg_start rfl rfl rfl rfl, rfl, d1, rfl, (fun _ _ h => nomatch h), (fun _ h => nomatch h), .nil⟩) (reg_src rfl) ?_ ?_
  · rintro i v m₁ news₁ I it h tk hlt hi hv ⟨u1, u2, u3, u4, fs, kf, o, dv, rfl, rfl, eo, hfl, hfs, hlo, hpw⟩ hoff F3 N3
    clear F2 N2 hoff
    k_lt hlt
    have hi3 : i < 3 := hi
    rcases i with _ | _ | _ | i
    · cases hv
      match fs, hfl with
      | [], _ =>
      clear hfl
      dsimp only [List.map, Fam.obj, Fam.val] at N3
      (k_with "table" => skip)
      k_steps
      refine Hold.mk ?_
      refine For_turns (by assumption) ?_
      k_steps
      refine Hold.mk ?_
      rename Fr _ _ _ _ => F4
      rename News _ _ _ _ => N4
      have N5 := drop2 N4
      have F5 := fr_self (a := Str.ofString "n") F4
      clear N4 F4
      refine iter_R (n := 4) (J := hosJ _ _ _ _ _ _ _ _ _ _ (hostsAt [n0, n1, n2, n3, n4, n5, n6, n7, n8, n9, n10, n11] 0)) rfl F5 N5 ⟨_, [], 0, o, dv, rfl, rfl, eo, .nil, rfl⟩ (by assumption) (by decide) (by rfl) ?_ ?_
      · rintro j v m₂ n₂ I2 it2 h8 tk8 _ hlt8 hj ⟨tj, rfl⟩ ⟨un, vs, kh, o2, dv2, rfl, rfl, eo2, hvs, hlen2⟩ hoff8 F8 N8
        clear hoff8 F5 N5
        k_lt hlt8
        have hsz : vs.toArray.size ≤ sizeLine := by rw [List.size_toArray]; unfold sizeLine; omega
        have hszj := sz_str hj
        k_steps
        rename Fr s₁.heap _ _ _ => F9
        rename News s₁.heap _ _ _ => N9
        rename _ = Data.cell (some (Value.int (0 + (j : Int)) _)) => eo9
        rw [push_list] at N9
        refine ⟨_, _, _, _, rfl, fr_twice F9, (fun p hp => N9 p (.tail _ (.tail _ hp))), ?_, _, vs ++ [Value.str _ _], kh + 1, _, _, rfl, rfl, eo9, ?_, ?_⟩
        · refine allNe_mem ?_
          repeat' (first | exact True.intro | refine And.intro ?_ ?_ | (refine neN ?_; (try dsimp only); omega))
        · rw [take_snoc (hosts_get hj)]
          exact strs_snoc hvs
        · rw [List.length_append, hlen2]; rfl
      · rintro m₂ n₂ h8 tk8 ⟨un, vs, kh, o2, dv2, rfl, rfl, eo2, hvs, hlen2⟩ F8 N8
        clear F5 N5
        obtain ⟨th0, th1, th2, th3, rfl⟩ := strs4 hvs
        clear hvs hlen2
        k_steps
        · rename Fr _ _ _ _ => F9
          rename News _ _ _ _ => N9
          rename @Eq (List Int) _ _ => ea
          rename SortOf _ (toldF _ _ _ _) => hsT
          rename IntsAre _ _ => hiT
          rw [← ea] at hsT
          clear hiT
          rename IntsAre _ _ => hiG
          dsimp only at F9
          have hsN : toldAt (numF ns) 0 = toldF n0 n1 n2 n3 := by rw [en]; rfl
          rw [← hsN] at hsT
          refine ⟨_, _, _, _, rfl, fr_reg F9, news_reg N9, ?_, _, _, _, _, [] ++ [⟨_, _, _, _⟩], kf + 1, _, _, rfl, rfl, eo2, rfl, fams_snoc rfl hfs ⟨hiG, hsT⟩, fams_all hlo ?_, fams_pw hpw ?_⟩
          · refine allNe_mem ?_
            repeat' (first | exact True.intro | refine And.intro ?_ ?_ | (refine neN ?_; (try dsimp only); omega))
          · (try dsimp only); omega
          · exact fun _ h => nomatch h
        · rename SortOf _ (toldF _ _ _ _) => hsT
          rename SortOf _ (groupsF _ _ _ _) => hsG
          exact absurd (reg_law n0 n1 n2 n3 hsG hsT) (by assumption)
    · cases hv
      match fs, hfl with
      | [f0], _ =>
      have hlo0 := hlo f0 (.head _)
      clear hfl
      dsimp only [List.map, Fam.obj, Fam.val] at N3
      (k_with "table" => skip)
      k_steps
      refine Hold.mk ?_
      refine For_turns (by assumption) ?_
      k_steps
      refine Hold.mk ?_
      rename Fr _ _ _ _ => F4
      rename News _ _ _ _ => N4
      have N5 := drop2 N4
      have F5 := fr_self (a := Str.ofString "n") F4
      clear N4 F4
      refine iter_R (n := 4) (J := hosJ _ _ _ _ _ _ _ _ _ _ (hostsAt [n0, n1, n2, n3, n4, n5, n6, n7, n8, n9, n10, n11] 4)) rfl F5 N5 ⟨_, [], 0, o, dv, rfl, rfl, eo, .nil, rfl⟩ (by assumption) (by decide) (by rfl) ?_ ?_
      · rintro j v m₂ n₂ I2 it2 h8 tk8 _ hlt8 hj ⟨tj, rfl⟩ ⟨un, vs, kh, o2, dv2, rfl, rfl, eo2, hvs, hlen2⟩ hoff8 F8 N8
        clear hoff8 F5 N5
        k_lt hlt8
        have hsz : vs.toArray.size ≤ sizeLine := by rw [List.size_toArray]; unfold sizeLine; omega
        have hszj := sz_str hj
        k_steps
        rename Fr s₁.heap _ _ _ => F9
        rename News s₁.heap _ _ _ => N9
        rename _ = Data.cell (some (Value.int (0 + (j : Int)) _)) => eo9
        rw [push_list] at N9
        refine ⟨_, _, _, _, rfl, fr_twice F9, (fun p hp => N9 p (.tail _ (.tail _ hp))), ?_, _, vs ++ [Value.str _ _], kh + 1, _, _, rfl, rfl, eo9, ?_, ?_⟩
        · refine allNe_mem ?_
          repeat' (first | exact True.intro | refine And.intro ?_ ?_ | (refine neN ?_; (try dsimp only); omega))
        · rw [take_snoc (hosts_get hj)]
          exact strs_snoc hvs
        · rw [List.length_append, hlen2]; rfl
      · rintro m₂ n₂ h8 tk8 ⟨un, vs, kh, o2, dv2, rfl, rfl, eo2, hvs, hlen2⟩ F8 N8
        clear F5 N5
        obtain ⟨th0, th1, th2, th3, rfl⟩ := strs4 hvs
        clear hvs hlen2
        k_steps
        · rename Fr _ _ _ _ => F9
          rename News _ _ _ _ => N9
          rename @Eq (List Int) _ _ => ea
          rename SortOf _ (toldF _ _ _ _) => hsT
          rename IntsAre _ _ => hiT
          rw [← ea] at hsT
          clear hiT
          rename IntsAre _ _ => hiG
          dsimp only at F9
          have hsN : toldAt (numF ns) 1 = toldF n4 n5 n6 n7 := by rw [en]; rfl
          rw [← hsN] at hsT
          refine ⟨_, _, _, _, rfl, fr_reg F9, news_reg N9, ?_, _, _, _, _, [f0] ++ [⟨_, _, _, _⟩], kf + 1, _, _, rfl, rfl, eo2, rfl, fams_snoc rfl hfs ⟨hiG, hsT⟩, fams_all hlo ?_, fams_pw hpw ?_⟩
          · refine allNe_mem ?_
            repeat' (first | exact True.intro | refine And.intro ?_ ?_ | (refine neN ?_; (try dsimp only); omega))
          · (try dsimp only); omega
          · intro g hg
            simp only [List.mem_cons, List.not_mem_nil, or_false] at hg
            subst hg
            (try dsimp only); omega
        · rename SortOf _ (toldF _ _ _ _) => hsT
          rename SortOf _ (groupsF _ _ _ _) => hsG
          exact absurd (reg_law n4 n5 n6 n7 hsG hsT) (by assumption)
    · cases hv
      match fs, hfl with
      | [f0, f1], _ =>
      have hlo0 := hlo f0 (.head _)
      have hlo1 := hlo f1 (.tail _ (.head _))
      have hpw1 := (List.pairwise_cons.mp hpw).1 f1 (.head _)
      clear hfl
      dsimp only [List.map, Fam.obj, Fam.val] at N3
      (k_with "table" => skip)
      k_steps
      refine Hold.mk ?_
      refine For_turns (by assumption) ?_
      k_steps
      refine Hold.mk ?_
      rename Fr _ _ _ _ => F4
      rename News _ _ _ _ => N4
      have N5 := drop2 N4
      have F5 := fr_self (a := Str.ofString "n") F4
      clear N4 F4
      refine iter_R (n := 4) (J := hosJ _ _ _ _ _ _ _ _ _ _ (hostsAt [n0, n1, n2, n3, n4, n5, n6, n7, n8, n9, n10, n11] 8)) rfl F5 N5 ⟨_, [], 0, o, dv, rfl, rfl, eo, .nil, rfl⟩ (by assumption) (by decide) (by rfl) ?_ ?_
      · rintro j v m₂ n₂ I2 it2 h8 tk8 _ hlt8 hj ⟨tj, rfl⟩ ⟨un, vs, kh, o2, dv2, rfl, rfl, eo2, hvs, hlen2⟩ hoff8 F8 N8
        clear hoff8 F5 N5
        k_lt hlt8
        have hsz : vs.toArray.size ≤ sizeLine := by rw [List.size_toArray]; unfold sizeLine; omega
        have hszj := sz_str hj
        k_steps
        rename Fr s₁.heap _ _ _ => F9
        rename News s₁.heap _ _ _ => N9
        rename _ = Data.cell (some (Value.int (0 + (j : Int)) _)) => eo9
        rw [push_list] at N9
        refine ⟨_, _, _, _, rfl, fr_twice F9, (fun p hp => N9 p (.tail _ (.tail _ hp))), ?_, _, vs ++ [Value.str _ _], kh + 1, _, _, rfl, rfl, eo9, ?_, ?_⟩
        · refine allNe_mem ?_
          repeat' (first | exact True.intro | refine And.intro ?_ ?_ | (refine neN ?_; (try dsimp only); omega))
        · rw [take_snoc (hosts_get hj)]
          exact strs_snoc hvs
        · rw [List.length_append, hlen2]; rfl
      · rintro m₂ n₂ h8 tk8 ⟨un, vs, kh, o2, dv2, rfl, rfl, eo2, hvs, hlen2⟩ F8 N8
        clear F5 N5
        obtain ⟨th0, th1, th2, th3, rfl⟩ := strs4 hvs
        clear hvs hlen2
        k_steps
        · rename Fr _ _ _ _ => F9
          rename News _ _ _ _ => N9
          rename @Eq (List Int) _ _ => ea
          rename SortOf _ (toldF _ _ _ _) => hsT
          rename IntsAre _ _ => hiT
          rw [← ea] at hsT
          clear hiT
          rename IntsAre _ _ => hiG
          dsimp only at F9
          have hsN : toldAt (numF ns) 2 = toldF n8 n9 n10 n11 := by rw [en]; rfl
          rw [← hsN] at hsT
          refine ⟨_, _, _, _, rfl, fr_reg F9, news_reg N9, ?_, _, _, _, _, [f0, f1] ++ [⟨_, _, _, _⟩], kf + 1, _, _, rfl, rfl, eo2, rfl, fams_snoc rfl hfs ⟨hiG, hsT⟩, fams_all hlo ?_, fams_pw hpw ?_⟩
          · refine allNe_mem ?_
            repeat' (first | exact True.intro | refine And.intro ?_ ?_ | (refine neN ?_; (try dsimp only); omega))
          · (try dsimp only); omega
          · intro g hg
            simp only [List.mem_cons, List.not_mem_nil, or_false] at hg
            rcases hg with rfl | rfl
            · (try dsimp only); omega
            · (try dsimp only); omega
        · rename SortOf _ (toldF _ _ _ _) => hsT
          rename SortOf _ (groupsF _ _ _ _) => hsG
          exact absurd (reg_law n8 n9 n10 n11 hsG hsT) (by assumption)
    · exact absurd hi3 (by omega)
  · rintro I m₁ news₁ h tk hlt ⟨u1, u2, u3, u4, fs, kf, o, dv, rfl, rfl, eo, hfl, hfs, hlo, hpw⟩ F3 N3
    clear F2 N2
    k_lt hlt
    match fs, hfl with
    | [fA, fB, fC], _ =>
    obtain ⟨iA, sA⟩ := hfs 0 fA rfl
    obtain ⟨iB, sB⟩ := hfs 1 fB rfl
    obtain ⟨iC, sC⟩ := hfs 2 fC rfl
    have loA := hlo fA (.head _)
    have loB := hlo fB (.tail _ (.head _))
    have loC := hlo fC (.tail _ (.tail _ (.head _)))
    have ltAB := (List.pairwise_cons.mp hpw).1 fB (.head _)
    have ltBC := (List.pairwise_cons.mp (List.pairwise_cons.mp hpw).2).1 fC (.head _)
    clear hfl hfs hlo hpw
    dsimp only [List.map, Fam.obj, Fam.val] at N3
    have N4 : News _ _ _ (_ :: (_ :: _ :: _)) := fun p hp => N3 p (.tail _ hp)
    clear N3
    k_steps
    refine Hold.mk ?_
    refine For_turns (by assumption) ?_
    k_steps
    refine Hold.mk ?_
    rename Fr _ _ _ _ => F5
    rename News _ _ _ _ => N5
    have N6 := news_jud N5
    have F6 := fr_self (a := Str.ofString "inside") (fr_self (a := Str.ofString "hosts") F5)
    clear N5 F5
    dsimp only at F6
    refine iter_JI (vs := [Value.ref _, Value.ref _]) (J := judJ _ (_, W.listOf [Value.ref _, Value.ref _].toArray 0) _ _ _ _ _ _) rfl F6 N6 (fun _ => ⟨_, _, ov, oj, o, _, _, _, rfl, rfl, d3, d2, eo⟩) (jud_src rfl) ?_ ?_
    · rintro i v m₂ n₂ I2 it2 h8 tk8 hlt8 hi hv ⟨w1, w2, o3, o2, o1, e3, e2, e1, rfl, rfl, x3, x2, x1⟩ hoff8 F8 N8
      clear F6 N6 hoff8
      k_lt hlt8
      rcases i with _ | _ | i
      · cases hv
        k_steps
        refine Hold.mk ?_
        k_dflt (refine ListComp_C (by k_asm) (by with_unfolding_all rfl) (fun _ _ => rfl) (fun _ => rfl) (by rfl) (by decide) (by rfl) (by decide) ?_)
        k_steps
        rename Fr _ _ _ _ => F9
        rename News _ _ _ _ => N9
        refine ⟨_, 1, 16, _, _, _, 15, _, fun g => decide (3 ≤ [fA.ns.any (· == g), fB.ns.any (· == g), fC.ns.any (· == g), fA.ns.any (· == g), fB.ns.any (· == g)].count true), rfl, rfl, F9, N9, by assumption, by decide, rfl, by decide, ?_, ?_⟩
        · intro i I oI C oC D ys c oc h tk t E' hi hlt3 hlts eoc F7 N7
          clear F9 N9
          k_lt hlts
          dsimp only
          k_steps
          refine Hold.mk ?_
          k_dflt (refine LCg.ListComp_U (F₀ := by k_asm) (by with_unfolding_all rfl) (by decide) (by rfl) (by decide) (by rfl) ?_)
          k_steps
          refine Hold.mk ?_
          k_dflt (refine LCg.CompSrc.ledger (by rfl) (by k_asm) (by k_asm) (by k_mem) (by exact Nat.le_of_ble_eq_true rfl) ?_)
          intro g6
          dsimp only
          refine comp_turnU (.bool (fA.ns.any (· == 1 + ((i : Nat) : Int)))) ?_ ?_
          · intro v7 I7 oI7 C7 oC7 D7 m7 h7 tk7 E7 hv7 hC7 hx7 F7' N7' off7 ne7
            obtain rfl : Value.ref fA.a = v7 := Option.some.inj hv7
            dsimp only
            k_steps
          refine comp_turnU (.bool (fB.ns.any (· == 1 + ((i : Nat) : Int)))) ?_ ?_
          · intro v7 I7 oI7 C7 oC7 D7 m7 h7 tk7 E7 hv7 hC7 hx7 F7' N7' off7 ne7
            obtain rfl : Value.ref fB.a = v7 := Option.some.inj hv7
            dsimp only
            k_steps
          refine comp_turnU (.bool (fC.ns.any (· == 1 + ((i : Nat) : Int)))) ?_ ?_
          · intro v7 I7 oI7 C7 oC7 D7 m7 h7 tk7 E7 hv7 hC7 hx7 F7' N7' off7 ne7
            obtain rfl : Value.ref fC.a = v7 := Option.some.inj hv7
            dsimp only
            k_steps
          refine comp_turnU (.bool (fA.ns.any (· == 1 + ((i : Nat) : Int)))) ?_ ?_
          · intro v7 I7 oI7 C7 oC7 D7 m7 h7 tk7 E7 hv7 hC7 hx7 F7' N7' off7 ne7
            obtain rfl : Value.ref fA.a = v7 := Option.some.inj hv7
            dsimp only
            k_steps
          refine comp_turnU (.bool (fB.ns.any (· == 1 + ((i : Nat) : Int)))) ?_ ?_
          · intro v7 I7 oI7 C7 oC7 D7 m7 h7 tk7 E7 hv7 hC7 hx7 F7' N7' off7 ne7
            obtain rfl : Value.ref fB.a = v7 := Option.some.inj hv7
            dsimp only
            k_steps
          refine LCg.CompRest.zero ?_
          intro D7 h7 tk7 F7' N7' off7
          simp only [List.nil_append, List.cons_append] at N7'
          (try dsimp only)
          clear F7 N7
          k_steps
          rename Fr _ _ _ _ => Fe
          rename News _ _ _ _ => Ne
          refine test_end ?_ Fe (fun p hp => Ne p (.tail _ hp))
          first | rfl | (generalize decide (3 ≤ List.count true _) = bb; cases bb <;> rfl)
        intro Dv hv9 tkv ysv ltv Fv Nv hysv
        clear F9 N9
        k_lt ltv
        have hlam := lam5 sA sB sC
        have hVb := pass_bound (p := fun g => decide (3 ≤ [fA.ns.any (· == g), fB.ns.any (· == g), fC.ns.any (· == g), fA.ns.any (· == g), fB.ns.any (· == g)].count true))
        have hVl := pass_len (p := fun g => decide (3 ≤ [fA.ns.any (· == g), fB.ns.any (· == g), fC.ns.any (· == g), fA.ns.any (· == g), fB.ns.any (· == g)].count true))
        have hVs := pass_sort (p := fun g => decide (3 ≤ [fA.ns.any (· == g), fB.ns.any (· == g), fC.ns.any (· == g), fA.ns.any (· == g), fB.ns.any (· == g)].count true))
        generalize eV : passF _ 1 15 = V at hysv hlam hVb hVl hVs
        k_steps
        refine Hold.mk ?_
        k_dflt (refine ListComp_2 (by k_asm) (by with_unfolding_all rfl) (by decide) (by rfl) (by decide) (by rfl) (by rfl) (by decide) (by rfl) (by decide) ?_)
        k_steps
        rename Fr _ _ _ _ => F9
        rename News _ _ _ _ => N9
        refine ⟨_, _, ysv, _, _, rfl, rfl, F9, N9, .inr ⟨_, by k_mem, rfl, _, rfl⟩, rfl, by k_mem, by assumption, ?_, ?_⟩
        · intro u v I₁ o₁ I oI C oC D m₂ h tk E' hu hv hord hlts hC hmx hmy F7 N7
          clear F9 N9
          obtain ⟨a, ta, rfl, ha⟩ := ints_mem hysv hu
          obtain ⟨b, tb, rfl, hb⟩ := ints_mem hysv hv
          k_lt hlts
          dsimp only
          k_steps
          rename Fr _ _ _ _ => Fe
          rename News _ _ _ _ => Ne
          exact test_end (by rw [hlam a ha b hb]; rfl) Fe (fun p hp => Ne p (.tail _ hp))
        intro De hde tkde lte Fd Nd
        clear F9 N9
        k_lt lte
        have hnil : IntsAre [] [] := .nil
        k_steps
        refine Hold.mk ?_
        k_dflt (refine ListComp_C (by k_asm) (by with_unfolding_all rfl) (fun _ _ => rfl) (fun _ => rfl) (by rfl) (by decide) (by rfl) (by decide) ?_)
        k_steps
        rename Fr _ _ _ _ => F9
        rename News _ _ _ _ => N9
        refine ⟨_, 1, 16, _, _, _, 15, _, fun g => decide (3 ≤ [fA.ns.any (· == g), fB.ns.any (· == g), fC.ns.any (· == g), fA.ns.any (· == g), fB.ns.any (· == g)].count true), rfl, rfl, F9, N9, by assumption, by decide, rfl, by decide, ?_, ?_⟩
        · intro i I oI C oC D ys c oc h tk t E' hi hlt3 hlts eoc F7 N7
          clear F9 N9
          k_lt hlts
          dsimp only
          k_steps
          refine Hold.mk ?_
          k_dflt (refine LCt.ListComp_T (F₀ := by k_asm) (by with_unfolding_all rfl) (by decide) (by rfl) (by decide) (by rfl) ?_)
          k_steps
          refine Hold.mk ?_
          k_dflt (refine LCt.CompSrcT.ledger (by rfl) (by k_asm) (by k_asm) (by k_mem) (by exact Nat.le_of_ble_eq_true rfl) ?_)
          intro g6
          dsimp only
          refine comp_turnT (fA.ns.any (· == 1 + ((i : Nat) : Int))) (.ref fA.a) (fun v hv => (Option.some.inj hv).symm) (Or.inr ⟨_, by k_mem, rfl, _, rfl⟩) (by rfl) (by rfl) (by decide) ?_ ?_
          · intro I7 oI7 C7 oC7 D7 m7 h7 tk7 E7 hC7 hx7 F7' N7' off7 ne7
            dsimp only
            k_steps
            rename Fr _ _ _ _ => Fe
            rename News _ _ _ _ => Ne
            exact test_end rfl Fe Ne
          intro ys1 hy1
          refine comp_turnT (fB.ns.any (· == 1 + ((i : Nat) : Int))) (.ref fB.a) (fun v hv => (Option.some.inj hv).symm) (Or.inr ⟨_, by k_mem, rfl, _, rfl⟩) (by rfl) (by rfl) (by decide) ?_ ?_
          · intro I7 oI7 C7 oC7 D7 m7 h7 tk7 E7 hC7 hx7 F7' N7' off7 ne7
            dsimp only
            k_steps
            rename Fr _ _ _ _ => Fe
            rename News _ _ _ _ => Ne
            exact test_end rfl Fe Ne
          intro ys2 hy2
          refine comp_turnT (fC.ns.any (· == 1 + ((i : Nat) : Int))) (.ref fC.a) (fun v hv => (Option.some.inj hv).symm) (Or.inr ⟨_, by k_mem, rfl, _, rfl⟩) (by rfl) (by rfl) (by decide) ?_ ?_
          · intro I7 oI7 C7 oC7 D7 m7 h7 tk7 E7 hC7 hx7 F7' N7' off7 ne7
            dsimp only
            k_steps
            rename Fr _ _ _ _ => Fe
            rename News _ _ _ _ => Ne
            exact test_end rfl Fe Ne
          intro ys3 hy3
          refine comp_turnT (fA.ns.any (· == 1 + ((i : Nat) : Int))) (.ref fA.a) (fun v hv => (Option.some.inj hv).symm) (Or.inr ⟨_, by k_mem, rfl, _, rfl⟩) (by rfl) (by rfl) (by decide) ?_ ?_
          · intro I7 oI7 C7 oC7 D7 m7 h7 tk7 E7 hC7 hx7 F7' N7' off7 ne7
            dsimp only
            k_steps
            rename Fr _ _ _ _ => Fe
            rename News _ _ _ _ => Ne
            exact test_end rfl Fe Ne
          intro ys4 hy4
          refine comp_turnT (fB.ns.any (· == 1 + ((i : Nat) : Int))) (.ref fB.a) (fun v hv => (Option.some.inj hv).symm) (Or.inr ⟨_, by k_mem, rfl, _, rfl⟩) (by rfl) (by rfl) (by decide) ?_ ?_
          · intro I7 oI7 C7 oC7 D7 m7 h7 tk7 E7 hC7 hx7 F7' N7' off7 ne7
            dsimp only
            k_steps
            rename Fr _ _ _ _ => Fe
            rename News _ _ _ _ => Ne
            exact test_end rfl Fe Ne
          intro ys5 hy5
          have hle5 : ys5.length ≤ 5 := by have q1 := Bool.toNat_le (fA.ns.any (· == 1 + ((i : Nat) : Int))); have q2 := Bool.toNat_le (fB.ns.any (· == 1 + ((i : Nat) : Int))); have q3 := Bool.toNat_le (fC.ns.any (· == 1 + ((i : Nat) : Int))); simp only [List.length_nil] at hy1; omega
          have hsz7 : ys5.toArray.size ≤ sizeLine := by rw [List.size_toArray]; unfold sizeLine; omega
          refine LCt.CompRestT.zero ?_
          intro D7 h7 tk7 F7' N7' off7
          (try dsimp only)
          clear F7 N7
          k_steps
          rename Fr _ _ _ _ => Fe
          rename News _ _ _ _ => Ne
          exact test_end (vote5 hy1 hy2 hy3 hy4 hy5) Fe (fun p hp => Ne p (.tail _ hp))
        intro Dw hw tkw ysw ltw Fw Nw hysw
        rw [eV] at hysw
        clear F9 N9 eV
        k_lt ltw
        k_steps
        refine Hold.mk ?_
        refine For_turns (by assumption) ?_
        k_steps
        refine Hold.mk ?_
        rename Fr _ _ _ _ => F9
        rename News _ _ _ _ => N9
        have N8 := news_mad N9
        have F8 := fr_self (a := Str.ofString "inside") F9
        clear N9 F9
        refine iter_R (n := 4) (J := madJ _ _ _ _ _ _ _ _ _ _ _ (madesAt V)) rfl F8 N8 ⟨_, [], 0, o1, _, rfl, rfl, by assumption, .nil, rfl⟩ (by assumption) (by decide) (by rfl) ?_ ?_
        · rintro j v m₃ n₃ I3 it3 h3 tk3 _ hlt3 hj ⟨tj, rfl⟩ ⟨v1, vs, kh, o4, dv4, rfl, rfl, eo4, hvs, hlen4⟩ hoff3 F9 N9
          clear hoff3 F8 N8
          k_lt hlt3
          have hsz : vs.toArray.size ≤ sizeLine := by rw [List.size_toArray]; unfold sizeLine; omega
          have hszj := sz_str hj
          have ej : (0 + (j : Int)).toNat = j := by omega
          k_steps
          refine Hold.mk ?_
          k_dflt (refine LCt.Assign_ListComp_T (F₀ := by k_asm) (by rfl) (by with_unfolding_all rfl) (by with_unfolding_all rfl) (by decide) (by rfl) (by decide) (by rfl) (by rfl) (by rfl) ?_)
          k_steps
          refine Hold.mk ?_
          k_dflt (refine LCt.CompSrcT.ledger (its := ysv.toArray) (by rfl) (by k_asm) (by k_asm) (by k_mem) (by rw [List.size_toArray, hysv.length]; unfold sizeLine; omega) ?_)
          intro g6
          dsimp only
          refine comp_filter (fun g => decide ((g.fdiv (2 ^ j)).fmod 2 = 1) && decide (g ≠ 15)) hysv (Or.inr ⟨_, by k_mem, rfl, _, rfl⟩) (by rfl) (by rfl) (by decide) ?_ ?_
          · intro a ta I7 oI7 C7 oC7 D7 ys7 m7 h7 tk7 E7 ha hC7 hx7 F7' N7' off7 ne7
            have hab := hVb a ha
            dsimp only
            k_steps
            · rename _ = (1 : Int) => q1
              rename _ ≠ (15 : Int) => q2
              rw [ej] at q1
              exact test_end (by rw [decide_eq_true q1, decide_eq_true q2]; rfl) F7' N7'
            · rename _ = (1 : Int) => q1
              rename _ = (15 : Int) => q2
              rw [ej] at q1
              exact test_end (by rw [decide_eq_true q1, decide_eq_false (not_not_intro q2)]; rfl) F7' N7'
            · rename _ ≠ (1 : Int) => q1
              rw [ej] at q1
              exact test_end (by rw [decide_eq_false q1]; rfl) F7' N7'
          · intro ysn hysn Dn hn tkn Fn Nn offn
            have hysi : IntsAre ysn (insideF V j) := hysn
            clear hysn
            have hszn : ysn.length ≤ 15 := by rw [hysi.length]; exact inside_len hVl
            (try dsimp only)
            k_steps
            refine Hold.mk ?_
            k_dflt (refine LCg.ListComp_U (F₀ := by k_asm) (by with_unfolding_all rfl) (by decide) (by rfl) (by decide) (by rfl) ?_)
            k_steps
            refine Hold.mk ?_
            k_dflt (refine LCg.CompSrc.ledger (its := ysn.toArray) (by rfl) (by k_asm) (by k_asm) (by k_mem) (by rw [List.size_toArray]; unfold sizeLine; omega) ?_)
            intro g6
            dsimp only
            refine comp_texts labelF hysi ?_ ?_
            · intro a ta I7 oI7 C7 oC7 D7 ys7 m7 h7 tk7 E7 ha hC7 hx7 F7' N7' off7 ne7
              have hsza := sz_num (hVb a (inside_sub a ha))
              have hb1 := (hVb a (inside_sub a ha)).1
              have hb2 := (hVb a (inside_sub a ha)).2
              dsimp only
              k_steps
            · intro ysx hysx Dx hx tkx Fx Nx offx
              have hwx := labels_weight (j := j) hVb hVl
              have hjx := sz_join (j := j) hVb hVl
              (try dsimp only)
              k_steps
              clear offx offn
              · rename News _ _ _ _ => Nq
                have Np := news_drop2 Nq
                clear Nq
                k_steps
                rename Fr _ _ _ _ => Fe
                rename News _ _ _ _ => Ne
                rename _ = Data.cell (some (Value.int (0 + (j : Int)) _)) => eo9
                rename (List.any V _) = true => hq
                rw [push_list] at Ne
                refine ⟨_, _, _, _, rfl, fr_twice Fe, Ne, ?_, _, vs ++ [Value.str _ _], kh + 1, _, _, rfl, rfl, eo9, ?_, ?_⟩
                · refine allNe_mem ?_
                  repeat' (first | exact True.intro | refine And.intro ?_ ?_ | (refine neN ?_; (try dsimp only); omega))
                · rw [take_snoc (mades_get hj), made_local hq]
                  exact strs_snoc hvs
                · rw [List.length_append, hlen4]; rfl
              · rename News _ _ _ _ => Nq
                have Np := news_drop2 Nq
                clear Nq
                k_steps
                rename Fr _ _ _ _ => Fe
                rename News _ _ _ _ => Ne
                rename _ = Data.cell (some (Value.int (0 + (j : Int)) _)) => eo9
                rename (List.any V _) = false => hq
                rw [push_list] at Ne
                refine ⟨_, _, _, _, rfl, fr_twice Fe, Ne, ?_, _, vs ++ [Value.str _ _], kh + 1, _, _, rfl, rfl, eo9, ?_, ?_⟩
                · refine allNe_mem ?_
                  repeat' (first | exact True.intro | refine And.intro ?_ ?_ | (refine neN ?_; (try dsimp only); omega))
                · rw [take_snoc (mades_get hj), made_net hq]
                  exact strs_snoc hvs
                · rw [List.length_append, hlen4]; rfl
        · rintro m₃ n₃ h3 tk3 ⟨v1, vs, kh, o4, dv4, rfl, rfl, eo4, hvs, hlen4⟩ F9 N9
          clear F8 N8
          obtain ⟨th0, th1, th2, th3, rfl⟩ := strs4 hvs
          clear hvs hlen4
          have hg0 := good_made (j := 0) (by decide) hVb hVl
          have hg1 := good_made (j := 1) (by decide) hVb hVl
          have hg2 := good_made (j := 2) (by decide) hVb hVl
          have hg3 := good_made (j := 3) (by decide) hVb hVl
          k_steps
          · rename Fr _ _ _ _ => Fe
            rename News _ _ _ _ => Ne
            dsimp only at Fe
            refine ⟨_, _, _, _, rfl, fr_jud Fe, (fun p hp => Ne p (.tail _ (.tail _ (.tail _ hp)))), ?_, _, _, _, _, _, _, _, _, rfl, rfl, by assumption, by assumption, by assumption⟩
            refine allNe_mem ?_
            repeat' (first | exact True.intro | refine And.intro ?_ ?_ | (refine neN ?_; (try dsimp only); omega))
          · rename SortOf _ (groupsF _ _ _ _) => hsG
            exact absurd (made_law hsG hVb hVs hlam hVl) (by assumption)
      · cases hv
        k_steps
        refine Hold.mk ?_
        k_dflt (refine ListComp_C (by k_asm) (by with_unfolding_all rfl) (fun _ _ => rfl) (fun _ => rfl) (by rfl) (by decide) (by rfl) (by decide) ?_)
        k_steps
        rename Fr _ _ _ _ => F9
        rename News _ _ _ _ => N9
        refine ⟨_, 1, 16, _, _, _, 15, _, fun g => decide (3 ≤ [fA.ns.any (· == g), fB.ns.any (· == g), fC.ns.any (· == g), fB.ns.any (· == g)].count true), rfl, rfl, F9, N9, by assumption, by decide, rfl, by decide, ?_, ?_⟩
        · intro i I oI C oC D ys c oc h tk t E' hi hlt3 hlts eoc F7 N7
          clear F9 N9
          k_lt hlts
          dsimp only
          k_steps
          refine Hold.mk ?_
          k_dflt (refine LCg.ListComp_U (F₀ := by k_asm) (by with_unfolding_all rfl) (by decide) (by rfl) (by decide) (by rfl) ?_)
          k_steps
          refine Hold.mk ?_
          k_dflt (refine LCg.CompSrc.ledger (by rfl) (by k_asm) (by k_asm) (by k_mem) (by exact Nat.le_of_ble_eq_true rfl) ?_)
          intro g6
          dsimp only
          refine comp_turnU (.bool (fA.ns.any (· == 1 + ((i : Nat) : Int)))) ?_ ?_
          · intro v7 I7 oI7 C7 oC7 D7 m7 h7 tk7 E7 hv7 hC7 hx7 F7' N7' off7 ne7
            obtain rfl : Value.ref fA.a = v7 := Option.some.inj hv7
            dsimp only
            k_steps
          refine comp_turnU (.bool (fB.ns.any (· == 1 + ((i : Nat) : Int)))) ?_ ?_
          · intro v7 I7 oI7 C7 oC7 D7 m7 h7 tk7 E7 hv7 hC7 hx7 F7' N7' off7 ne7
            obtain rfl : Value.ref fB.a = v7 := Option.some.inj hv7
            dsimp only
            k_steps
          refine comp_turnU (.bool (fC.ns.any (· == 1 + ((i : Nat) : Int)))) ?_ ?_
          · intro v7 I7 oI7 C7 oC7 D7 m7 h7 tk7 E7 hv7 hC7 hx7 F7' N7' off7 ne7
            obtain rfl : Value.ref fC.a = v7 := Option.some.inj hv7
            dsimp only
            k_steps
          refine comp_turnU (.bool (fB.ns.any (· == 1 + ((i : Nat) : Int)))) ?_ ?_
          · intro v7 I7 oI7 C7 oC7 D7 m7 h7 tk7 E7 hv7 hC7 hx7 F7' N7' off7 ne7
            obtain rfl : Value.ref fB.a = v7 := Option.some.inj hv7
            dsimp only
            k_steps
          refine LCg.CompRest.zero ?_
          intro D7 h7 tk7 F7' N7' off7
          simp only [List.nil_append, List.cons_append] at N7'
          (try dsimp only)
          clear F7 N7
          k_steps
          rename Fr _ _ _ _ => Fe
          rename News _ _ _ _ => Ne
          refine test_end ?_ Fe (fun p hp => Ne p (.tail _ hp))
          first | rfl | (generalize decide (3 ≤ List.count true _) = bb; cases bb <;> rfl)
        intro Dv hv9 tkv ysv ltv Fv Nv hysv
        clear F9 N9
        k_lt ltv
        have hlam := lam4 sA sB sC
        have hVb := pass_bound (p := fun g => decide (3 ≤ [fA.ns.any (· == g), fB.ns.any (· == g), fC.ns.any (· == g), fB.ns.any (· == g)].count true))
        have hVl := pass_len (p := fun g => decide (3 ≤ [fA.ns.any (· == g), fB.ns.any (· == g), fC.ns.any (· == g), fB.ns.any (· == g)].count true))
        have hVs := pass_sort (p := fun g => decide (3 ≤ [fA.ns.any (· == g), fB.ns.any (· == g), fC.ns.any (· == g), fB.ns.any (· == g)].count true))
        generalize eV : passF _ 1 15 = V at hysv hlam hVb hVl hVs
        k_steps
        refine Hold.mk ?_
        k_dflt (refine ListComp_2 (by k_asm) (by with_unfolding_all rfl) (by decide) (by rfl) (by decide) (by rfl) (by rfl) (by decide) (by rfl) (by decide) ?_)
        k_steps
        rename Fr _ _ _ _ => F9
        rename News _ _ _ _ => N9
        refine ⟨_, _, ysv, _, _, rfl, rfl, F9, N9, .inr ⟨_, by k_mem, rfl, _, rfl⟩, rfl, by k_mem, by assumption, ?_, ?_⟩
        · intro u v I₁ o₁ I oI C oC D m₂ h tk E' hu hv hord hlts hC hmx hmy F7 N7
          clear F9 N9
          obtain ⟨a, ta, rfl, ha⟩ := ints_mem hysv hu
          obtain ⟨b, tb, rfl, hb⟩ := ints_mem hysv hv
          k_lt hlts
          dsimp only
          k_steps
          rename Fr _ _ _ _ => Fe
          rename News _ _ _ _ => Ne
          exact test_end (by rw [hlam a ha b hb]; rfl) Fe (fun p hp => Ne p (.tail _ hp))
        intro De hde tkde lte Fd Nd
        clear F9 N9
        k_lt lte
        have hnil : IntsAre [] [] := .nil
        k_steps
        refine Hold.mk ?_
        k_dflt (refine ListComp_C (by k_asm) (by with_unfolding_all rfl) (fun _ _ => rfl) (fun _ => rfl) (by rfl) (by decide) (by rfl) (by decide) ?_)
        k_steps
        rename Fr _ _ _ _ => F9
        rename News _ _ _ _ => N9
        refine ⟨_, 1, 16, _, _, _, 15, _, fun g => decide (3 ≤ [fA.ns.any (· == g), fB.ns.any (· == g), fC.ns.any (· == g), fB.ns.any (· == g)].count true), rfl, rfl, F9, N9, by assumption, by decide, rfl, by decide, ?_, ?_⟩
        · intro i I oI C oC D ys c oc h tk t E' hi hlt3 hlts eoc F7 N7
          clear F9 N9
          k_lt hlts
          dsimp only
          k_steps
          refine Hold.mk ?_
          k_dflt (refine LCt.ListComp_T (F₀ := by k_asm) (by with_unfolding_all rfl) (by decide) (by rfl) (by decide) (by rfl) ?_)
          k_steps
          refine Hold.mk ?_
          k_dflt (refine LCt.CompSrcT.ledger (by rfl) (by k_asm) (by k_asm) (by k_mem) (by exact Nat.le_of_ble_eq_true rfl) ?_)
          intro g6
          dsimp only
          refine comp_turnT (fA.ns.any (· == 1 + ((i : Nat) : Int))) (.ref fA.a) (fun v hv => (Option.some.inj hv).symm) (Or.inr ⟨_, by k_mem, rfl, _, rfl⟩) (by rfl) (by rfl) (by decide) ?_ ?_
          · intro I7 oI7 C7 oC7 D7 m7 h7 tk7 E7 hC7 hx7 F7' N7' off7 ne7
            dsimp only
            k_steps
            rename Fr _ _ _ _ => Fe
            rename News _ _ _ _ => Ne
            exact test_end rfl Fe Ne
          intro ys1 hy1
          refine comp_turnT (fB.ns.any (· == 1 + ((i : Nat) : Int))) (.ref fB.a) (fun v hv => (Option.some.inj hv).symm) (Or.inr ⟨_, by k_mem, rfl, _, rfl⟩) (by rfl) (by rfl) (by decide) ?_ ?_
          · intro I7 oI7 C7 oC7 D7 m7 h7 tk7 E7 hC7 hx7 F7' N7' off7 ne7
            dsimp only
            k_steps
            rename Fr _ _ _ _ => Fe
            rename News _ _ _ _ => Ne
            exact test_end rfl Fe Ne
          intro ys2 hy2
          refine comp_turnT (fC.ns.any (· == 1 + ((i : Nat) : Int))) (.ref fC.a) (fun v hv => (Option.some.inj hv).symm) (Or.inr ⟨_, by k_mem, rfl, _, rfl⟩) (by rfl) (by rfl) (by decide) ?_ ?_
          · intro I7 oI7 C7 oC7 D7 m7 h7 tk7 E7 hC7 hx7 F7' N7' off7 ne7
            dsimp only
            k_steps
            rename Fr _ _ _ _ => Fe
            rename News _ _ _ _ => Ne
            exact test_end rfl Fe Ne
          intro ys3 hy3
          refine comp_turnT (fB.ns.any (· == 1 + ((i : Nat) : Int))) (.ref fB.a) (fun v hv => (Option.some.inj hv).symm) (Or.inr ⟨_, by k_mem, rfl, _, rfl⟩) (by rfl) (by rfl) (by decide) ?_ ?_
          · intro I7 oI7 C7 oC7 D7 m7 h7 tk7 E7 hC7 hx7 F7' N7' off7 ne7
            dsimp only
            k_steps
            rename Fr _ _ _ _ => Fe
            rename News _ _ _ _ => Ne
            exact test_end rfl Fe Ne
          intro ys4 hy4
          have hle4 : ys4.length ≤ 5 := by have q1 := Bool.toNat_le (fA.ns.any (· == 1 + ((i : Nat) : Int))); have q2 := Bool.toNat_le (fB.ns.any (· == 1 + ((i : Nat) : Int))); have q3 := Bool.toNat_le (fC.ns.any (· == 1 + ((i : Nat) : Int))); simp only [List.length_nil] at hy1; omega
          have hsz7 : ys4.toArray.size ≤ sizeLine := by rw [List.size_toArray]; unfold sizeLine; omega
          refine LCt.CompRestT.zero ?_
          intro D7 h7 tk7 F7' N7' off7
          (try dsimp only)
          clear F7 N7
          k_steps
          rename Fr _ _ _ _ => Fe
          rename News _ _ _ _ => Ne
          exact test_end (vote4 hy1 hy2 hy3 hy4) Fe (fun p hp => Ne p (.tail _ hp))
        intro Dw hw tkw ysw ltw Fw Nw hysw
        rw [eV] at hysw
        clear F9 N9 eV
        k_lt ltw
        k_steps
        refine Hold.mk ?_
        refine For_turns (by assumption) ?_
        k_steps
        refine Hold.mk ?_
        rename Fr _ _ _ _ => F9
        rename News _ _ _ _ => N9
        have N8 := news_mad N9
        have F8 := fr_self (a := Str.ofString "inside") F9
        clear N9 F9
        refine iter_R (n := 4) (J := madJ _ _ _ _ _ _ _ _ _ _ _ (madesAt V)) rfl F8 N8 ⟨_, [], 0, o1, _, rfl, rfl, by assumption, .nil, rfl⟩ (by assumption) (by decide) (by rfl) ?_ ?_
        · rintro j v m₃ n₃ I3 it3 h3 tk3 _ hlt3 hj ⟨tj, rfl⟩ ⟨v1, vs, kh, o4, dv4, rfl, rfl, eo4, hvs, hlen4⟩ hoff3 F9 N9
          clear hoff3 F8 N8
          k_lt hlt3
          have hsz : vs.toArray.size ≤ sizeLine := by rw [List.size_toArray]; unfold sizeLine; omega
          have hszj := sz_str hj
          have ej : (0 + (j : Int)).toNat = j := by omega
          k_steps
          refine Hold.mk ?_
          k_dflt (refine LCt.Assign_ListComp_T (F₀ := by k_asm) (by rfl) (by with_unfolding_all rfl) (by with_unfolding_all rfl) (by decide) (by rfl) (by decide) (by rfl) (by rfl) (by rfl) ?_)
          k_steps
          refine Hold.mk ?_
          k_dflt (refine LCt.CompSrcT.ledger (its := ysv.toArray) (by rfl) (by k_asm) (by k_asm) (by k_mem) (by rw [List.size_toArray, hysv.length]; unfold sizeLine; omega) ?_)
          intro g6
          dsimp only
          refine comp_filter (fun g => decide ((g.fdiv (2 ^ j)).fmod 2 = 1) && decide (g ≠ 15)) hysv (Or.inr ⟨_, by k_mem, rfl, _, rfl⟩) (by rfl) (by rfl) (by decide) ?_ ?_
          · intro a ta I7 oI7 C7 oC7 D7 ys7 m7 h7 tk7 E7 ha hC7 hx7 F7' N7' off7 ne7
            have hab := hVb a ha
            dsimp only
            k_steps
            · rename _ = (1 : Int) => q1
              rename _ ≠ (15 : Int) => q2
              rw [ej] at q1
              exact test_end (by rw [decide_eq_true q1, decide_eq_true q2]; rfl) F7' N7'
            · rename _ = (1 : Int) => q1
              rename _ = (15 : Int) => q2
              rw [ej] at q1
              exact test_end (by rw [decide_eq_true q1, decide_eq_false (not_not_intro q2)]; rfl) F7' N7'
            · rename _ ≠ (1 : Int) => q1
              rw [ej] at q1
              exact test_end (by rw [decide_eq_false q1]; rfl) F7' N7'
          · intro ysn hysn Dn hn tkn Fn Nn offn
            have hysi : IntsAre ysn (insideF V j) := hysn
            clear hysn
            have hszn : ysn.length ≤ 15 := by rw [hysi.length]; exact inside_len hVl
            (try dsimp only)
            k_steps
            refine Hold.mk ?_
            k_dflt (refine LCg.ListComp_U (F₀ := by k_asm) (by with_unfolding_all rfl) (by decide) (by rfl) (by decide) (by rfl) ?_)
            k_steps
            refine Hold.mk ?_
            k_dflt (refine LCg.CompSrc.ledger (its := ysn.toArray) (by rfl) (by k_asm) (by k_asm) (by k_mem) (by rw [List.size_toArray]; unfold sizeLine; omega) ?_)
            intro g6
            dsimp only
            refine comp_texts labelF hysi ?_ ?_
            · intro a ta I7 oI7 C7 oC7 D7 ys7 m7 h7 tk7 E7 ha hC7 hx7 F7' N7' off7 ne7
              have hsza := sz_num (hVb a (inside_sub a ha))
              have hb1 := (hVb a (inside_sub a ha)).1
              have hb2 := (hVb a (inside_sub a ha)).2
              dsimp only
              k_steps
            · intro ysx hysx Dx hx tkx Fx Nx offx
              have hwx := labels_weight (j := j) hVb hVl
              have hjx := sz_join (j := j) hVb hVl
              (try dsimp only)
              k_steps
              clear offx offn
              · rename News _ _ _ _ => Nq
                have Np := news_drop2 Nq
                clear Nq
                k_steps
                rename Fr _ _ _ _ => Fe
                rename News _ _ _ _ => Ne
                rename _ = Data.cell (some (Value.int (0 + (j : Int)) _)) => eo9
                rename (List.any V _) = true => hq
                rw [push_list] at Ne
                refine ⟨_, _, _, _, rfl, fr_twice Fe, Ne, ?_, _, vs ++ [Value.str _ _], kh + 1, _, _, rfl, rfl, eo9, ?_, ?_⟩
                · refine allNe_mem ?_
                  repeat' (first | exact True.intro | refine And.intro ?_ ?_ | (refine neN ?_; (try dsimp only); omega))
                · rw [take_snoc (mades_get hj), made_local hq]
                  exact strs_snoc hvs
                · rw [List.length_append, hlen4]; rfl
              · rename News _ _ _ _ => Nq
                have Np := news_drop2 Nq
                clear Nq
                k_steps
                rename Fr _ _ _ _ => Fe
                rename News _ _ _ _ => Ne
                rename _ = Data.cell (some (Value.int (0 + (j : Int)) _)) => eo9
                rename (List.any V _) = false => hq
                rw [push_list] at Ne
                refine ⟨_, _, _, _, rfl, fr_twice Fe, Ne, ?_, _, vs ++ [Value.str _ _], kh + 1, _, _, rfl, rfl, eo9, ?_, ?_⟩
                · refine allNe_mem ?_
                  repeat' (first | exact True.intro | refine And.intro ?_ ?_ | (refine neN ?_; (try dsimp only); omega))
                · rw [take_snoc (mades_get hj), made_net hq]
                  exact strs_snoc hvs
                · rw [List.length_append, hlen4]; rfl
        · rintro m₃ n₃ h3 tk3 ⟨v1, vs, kh, o4, dv4, rfl, rfl, eo4, hvs, hlen4⟩ F9 N9
          clear F8 N8
          obtain ⟨th0, th1, th2, th3, rfl⟩ := strs4 hvs
          clear hvs hlen4
          have hg0 := good_made (j := 0) (by decide) hVb hVl
          have hg1 := good_made (j := 1) (by decide) hVb hVl
          have hg2 := good_made (j := 2) (by decide) hVb hVl
          have hg3 := good_made (j := 3) (by decide) hVb hVl
          k_steps
          · rename Fr _ _ _ _ => Fe
            rename News _ _ _ _ => Ne
            dsimp only at Fe
            refine ⟨_, _, _, _, rfl, fr_jud Fe, (fun p hp => Ne p (.tail _ (.tail _ (.tail _ hp)))), ?_, _, _, _, _, _, _, _, _, rfl, rfl, by assumption, by assumption, by assumption⟩
            refine allNe_mem ?_
            repeat' (first | exact True.intro | refine And.intro ?_ ?_ | (refine neN ?_; (try dsimp only); omega))
          · rename SortOf _ (groupsF _ _ _ _) => hsG
            exact absurd (made_law hsG hVb hVs hlam hVl) (by assumption)
      · exact absurd (show i + 1 + 1 < 2 from hi) (by omega)
    · rintro I2 m₂ n₂ h8 tk8 hlt8 ⟨w1, w2, o3, o2, o1, e3, e2, e1, rfl, rfl, x3, x2, x1⟩ F8 N8
      clear F6 N6
      k_steps
      dsimp only
      exact hend _ _ _ F8
end Mine
end
theorem PySem.Challenge.cw_rs0049_01_holds : PySem.Challenge.rw_rs0049_01.Holds :=
  Mine.law_holds
