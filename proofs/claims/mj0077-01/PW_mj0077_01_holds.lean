import PyProof.Rows.All
import Wide.All
import OpenK.AllK
import Wide.FinOn
import PySem.Challenge.RW_mj0077_01
set_option linter.unusedVariables false
open PySem PySem.W PyProof.Rows
set_option Elab.async false
set_option maxRecDepth 100000 in
set_option maxHeartbeats 8000000 in
open_top hd for PySem.Challenge.rw_mj0077_01

open PySem PySem.W PyProof.Rows
set_option Elab.async false
set_option linter.unusedSimpArgs false
namespace Mine

abbrev P0 : Program := Challenge.rw_mj0077_01.row.prog
noncomputable abbrev KK (w : World) : Frag := hd.heap_39 w.params
abbrev TT (mean : ExcName → Option Value) (mg mb : Str → Option Value) (h : Heap) : Prop := Top hd.view_39 (looseW hd.view_39 []) mean mg mb h

/-- every object of h stands unchanged in h' -/
def Ext (h h' : Heap) : Prop := ∀ b o, h.get? b = some o → h'.get? b = some o
theorem Ext.refl (h : Heap) : Ext h h := fun _ _ e => e
theorem Ext.trans {h h' h'' : Heap} (a : Ext h h') (b : Ext h' h'') : Ext h h'' := fun x o e => b x o (a x o e)

structure Rm (A : Around) (d : Nat) : Prop where
  dep : A.depth + d < recursionLimit
  uni : A.units + 8 * d + 200 < cLine
  han : A.handled = none

theorem Rm.deeper {A : Around} {d : Nat} {env : Env} (h : Rm A (d + 1)) : Rm (A.deeper env) d :=
  ⟨by have := h.dep; show A.depth + 1 + d < _; omega, by have := h.uni; show A.units + 3 + 8 * d + 200 < _; omega, h.han⟩
theorem Rm.in1 {A : Around} {d : Nat} (h : Rm A (d + 1)) : Rm A.in1 d :=
  ⟨by have := h.dep; show A.depth + d < _; omega, by have := h.uni; show A.units + 1 + 8 * d + 200 < _; omega, h.han⟩
theorem rmLt {A : Around} {d : Nat} (h : Rm A d) : A.depth < recursionLimit := Nat.lt_of_le_of_lt (Nat.le_add_right _ _) h.dep
theorem Rm.le {A : Around} {d e : Nat} (h : Rm A e) (hd : d ≤ e) : Rm A d := ⟨by have := h.dep; omega, by have := h.uni; omega, h.han⟩
theorem frExt {h₀ h h' : Heap} {L : Addr} {m : Str → Option Value} (g : Ext h h') (F : Fr h₀ L h m) : Fr h₀ L h' m := ⟨F.ns.keeps g, fun b o e => g b o (F.keep b o e), F.above⟩
theorem newsExt {h₀ h h' : Heap} {L : Addr} {news : List (Addr × Obj)} (g : Ext h h') (N : News h₀ L h news) : News h₀ L h' news := fun p hp => ⟨g _ _ (N p hp).1, (N p hp).2⟩

theorem enter {w : World} {A : Around} {s : Shared} {Q E : Value → Shared → Prop} {K : Frag} {p : Program} {loose : List Str} {mean : ExcName → Option Value} {mg mb : Str → Option Value}
    {name qual : Str} {params : Arguments} {body : List Stmt} {scope : Scope} {dV kV doc pm cdv ct oc : Value} {an od : Option Addr} {osl : Array (Option Value)} {f : Addr} {args : List Value} {binds : List (Str × Value)}
    (X : K.In s.heap) (T : Top p loose mean mg mb s.heap)
    (ho : K.lookup f = some ⟨oc, od, .func (fnOf name qual params body scope dV kV doc pm an cdv ct), osl⟩) (hcd : codeIn K cdv qual = true) (hroom : A.depth < recursionLimit)
    (hbind : BindsTo s (fnOf name qual params body scope dV kV doc pm an cdv ct) ⟨args, []⟩ binds) (hloc : ∀ y ∈ binds, scope.names.lookup y.1 = some .local)
    (h : ∀ L h₁ tk, L = s.heap.objs.size → Fr s.heap L h₁ (fun y => binds.reverse.lookup y) → News s.heap L h₁ [] →
      wpAny (model P0 w) (A.deeper (envOf qual scope L f cdv)) (execs body (envOf qual scope L f cdv))
        (fun fl s' => Q (match fl with | .ret v => v | _ => .none) s') (fun _ _ => False)
        { s with heap := h₁, toks := tk })
    (hco : scope.isCoroutine = false) (hgen : scope.isGenerator = false) (hk : scope.kind = .function)
    (hcell : ∀ x ∈ scope.names, x.2 ≠ .cell) : wpAny (model P0 w) A (call (.ref f) args) Q E s := by
  refine wpAny_call (codeAny_call_def (fd := fnOf name qual params body scope dV kV doc pm an cdv ct) (body := body) (binds := binds) hroom (X _ _ ho) rfl T.nolimit (codeRec_of X hcd) rfl hbind hcell hloc (fun h₁ hns hk₁ => ?_) hco hgen hk)
  exact wpAny_mono (h _ h₁ _ rfl ⟨hns, hk₁, Nat.le_refl _⟩ News.nil) (fun fl s' x => x) (fun _ _ x => x.elim)

theorem jend {s : Shared} {b b' : Bool} {Q : Value → Shared → Prop} {h' : Heap} {tk' : Nat} {L : Addr} {m : Str → Option Value} (hQ : ∀ h' tk', Ext s.heap h' → Q (.bool b) { s with heap := h', toks := tk' }) (e : b' = b) (F : Fr s.heap L h' m) :
    Q (.bool b') { s with heap := h', toks := tk' } := e ▸ hQ _ _ F.keep

/-- a judge's contract: an int in, a bool out, nothing changed -/
def J (d : Nat) (f : Addr) (p : Int → Bool) : Prop :=
  ∀ (w : World) (mean : ExcName → Option Value) (mg mb : Str → Option Value) (A : Around) (s : Shared) (c : Int) (t : Tok) (Q E : Value → Shared → Prop),
    (hd.heap_39 w.params).In s.heap → Top hd.view_39 (looseW hd.view_39 []) mean mg mb s.heap → Rm A d → (∀ h' tk', Ext s.heap h' → Q (.bool (p c)) { s with heap := h', toks := tk' }) →
    wpAny (model Challenge.rw_mj0077_01.row.prog w) A (call (.ref f) [.int c t]) Q E s

end Mine

open PySem PySem.W PyProof.Rows
set_option Elab.async false
set_option linter.unusedSimpArgs false
namespace Mine
local macro_rules | `(tactic| walk_at "m rm") => `(tactic| first | exact Rm.le (by assumption) (by decide) | exact Rm.le (Rm.deeper (by assumption)) (by decide))
local macro_rules | `(tactic| walk_at "m back") => `(tactic| (intro h' tk' g'; have F' := frExt g' (by assumption); have N' := newsExt g' (by assumption); clear g'; (try k_sweep); (try dsimp only)))
def isasciiB (c : Int) : Bool := decide (0 ≤ c) && decide (c ≤ 127)
def isblankB (c : Int) : Bool := [9, 32].any fun x => x == c
def iscntrlB (c : Int) : Bool := decide (0 ≤ c) && decide (c ≤ 31) || c == 127
def isdigitB (c : Int) : Bool := decide (48 ≤ c) && decide (c ≤ 57)
def isgraphB (c : Int) : Bool := decide (33 ≤ c) && decide (c ≤ 126)
def islowerB (c : Int) : Bool := decide (97 ≤ c) && decide (c ≤ 122)
def isprintB (c : Int) : Bool := decide (32 ≤ c) && decide (c ≤ 126)
def isspaceB (c : Int) : Bool := [9, 10, 11, 12, 13, 32].any fun x => x == c
def isupperB (c : Int) : Bool := decide (65 ≤ c) && decide (c ≤ 90)
def isctrlB (c : Int) : Bool := decide (0 ≤ c) && decide (c < 32)
def ismetaB (c : Int) : Bool := decide (127 < c)
def isalphaB (c : Int) : Bool := isupperB c || islowerB c
def isxdigitB (c : Int) : Bool := isdigitB c || (decide (65 ≤ c) && decide (c ≤ 70)) || (decide (97 ≤ c) && decide (c ≤ 102))
def isalnumB (c : Int) : Bool := isalphaB c || isdigitB c
def ispunctB (c : Int) : Bool := isgraphB c && !isalnumB c
theorem tand1 {p q : Prop} [Decidable p] [Decidable q] (h : p) : decide q = (decide p && decide q) := by rw [decide_eq_true h]; rfl
theorem tand0 {p : Prop} [Decidable p] {b : Bool} (h : ¬ p) : decide p = (decide p && b) := by rw [decide_eq_false h]; rfl
theorem tc1 {p q : Prop} [Decidable p] [Decidable q] {b : Bool} (h : p) (g : q) : decide q = (decide p && decide q || b) := by rw [decide_eq_true h, decide_eq_true g]; rfl
theorem tc2 {p q : Prop} [Decidable p] [Decidable q] {b : Bool} (h : ¬ q) : b = (decide p && decide q || b) := by rw [decide_eq_false h, Bool.and_false]; rfl
theorem tc3 {p q : Prop} [Decidable p] [Decidable q] {b : Bool} (h : ¬ p) : b = (decide p && decide q || b) := by rw [decide_eq_false h]; rfl
theorem bor1 {a b : Bool} (h : a = true) : a = (a || b) := by rw [h]; rfl
theorem bor0 {a b : Bool} (h : a = false) : b = (a || b) := by rw [h]; rfl
theorem band1 {a b : Bool} (h : a = true) : b = (a && b) := by rw [h]; rfl
theorem band0 {a b : Bool} (h : a = false) : a = (a && b) := by rw [h]; rfl
theorem tx1 {a b c : Bool} (h : a = true) : a = (a || b || c) := by rw [h]; rfl
theorem tx2 {p q : Prop} [Decidable p] [Decidable q] {a c : Bool} (h : a = false) (h1 : p) (h2 : q) : decide q = (a || (decide p && decide q) || c) := by rw [h, decide_eq_true h1, decide_eq_true h2]; rfl
theorem tx3 {p q r t : Prop} [Decidable p] [Decidable q] [Decidable r] [Decidable t] {a : Bool} (h : a = false) (h1 : ¬ q) (h2 : r) : decide t = (a || (decide p && decide q) || (decide r && decide t)) := by rw [h, decide_eq_false h1, decide_eq_true h2, Bool.and_false]; rfl
theorem tx4 {p q r t : Prop} [Decidable p] [Decidable q] [Decidable r] [Decidable t] {a : Bool} (h : a = false) (h1 : ¬ q) (h2 : ¬ r) : decide r = (a || (decide p && decide q) || (decide r && decide t)) := by rw [h, decide_eq_false h1, decide_eq_false h2, Bool.and_false]; rfl
theorem tx5 {c : Int} {q t : Prop} [Decidable q] [Decidable t] {a : Bool} (h : a = false) (h1 : ¬ 65 ≤ c) : decide (97 ≤ c) = (a || (decide (65 ≤ c) && decide q) || (decide (97 ≤ c) && decide t)) := by
  rw [h, decide_eq_false h1, decide_eq_false (fun g : 97 ≤ c => h1 (Int.le_trans (by decide) g))]; rfl
theorem ctoi_c {w : World} {mean : ExcName → Option Value} {mg mb : Str → Option Value} {A : Around} {s : Shared} {c : Int} {t : Tok} {Q E : Value → Shared → Prop}
    (X : (hd.heap_39 w.params).In s.heap) (T : Top hd.view_39 (looseW hd.view_39 []) mean mg mb s.heap) (hA : Rm A 1) (hQ : ∀ h' tk', Ext s.heap h' → Q (.int c t) { s with heap := h', toks := tk' }) : wpAny (model Challenge.rw_mj0077_01.row.prog w) A (call (.ref 28) [.int c t]) Q E s := by
  revert X
  w_top off
  k_fill
  intro X
  refine' enter (binds := [(Str.ofString "c", .int c t)]) X T ?k6 ?k7 ?k8 ?k9 ?kB ?_ ?c2 ?c3 ?c4 ?c5
  ((case k6 => k_is); (case k7 => k_is); (case k8 => exact rmLt (by assumption)); (case k9 => exact BindsTo.of_eq rfl); (case kB => exact locs rfl); (case c2 => exact rfl); (case c3 => exact rfl); (case c4 => exact rfl); (case c5 => decide))
  intro L h₁ tk _ F N
  walk
  dsimp only
  exact hQ _ _ F.keep
local macro_rules | `(tactic| walk_at "call ref") => `(tactic| (refine ctoi_c (by k_in) (Top.keeps (by assumption) (Fr.keep (by assumption))) (by walk_at "m rm") ?_; walk_at "m back"))
set_option maxRecDepth 100000 in
set_option maxHeartbeats 4000000 in
theorem isascii_c : J 2 49 isasciiB := by
  intro w mean mg mb A s c t Q E X
  revert X
  w_top off
  k_fill
  intro X T hA hQ
  refine' enter (binds := [(Str.ofString "c", .int c t)]) X T ?k6 ?k7 ?k8 ?k9 ?kB ?_ ?c2 ?c3 ?c4 ?c5
  ((case k6 => k_is); (case k7 => k_is); (case k8 => exact rmLt (by assumption)); (case k9 => exact BindsTo.of_eq rfl); (case kB => exact locs rfl); (case c2 => exact rfl); (case c3 => exact rfl); (case c4 => exact rfl); (case c5 => decide))
  intro L h₁ tk _ F N
  walk
  all_goals (try dsimp only)
  all_goals (refine jend hQ ?_ (by assumption))
  all_goals (first | rfl | exact tand1 (by assumption) | exact tand0 (by assumption) | exact tc1 (by assumption) (by assumption) | exact tc2 (by assumption) | exact tc3 (by assumption) | exact bor1 (by assumption) | exact bor0 (by assumption) | exact band1 (by assumption) | exact band0 (by assumption) | exact tx1 (by assumption) | exact tx2 (by assumption) (by assumption) (by assumption) | exact tx3 (by assumption) (by assumption) (by assumption) | exact tx4 (by assumption) (by assumption) (by assumption) | exact tx5 (by assumption) (by assumption))
set_option maxRecDepth 100000 in
set_option maxHeartbeats 4000000 in
theorem isblank_c : J 2 56 isblankB := by
  intro w mean mg mb A s c t Q E X
  revert X
  w_top off
  k_fill
  intro X T hA hQ
  refine' enter (binds := [(Str.ofString "c", .int c t)]) X T ?k6 ?k7 ?k8 ?k9 ?kB ?_ ?c2 ?c3 ?c4 ?c5
  ((case k6 => k_is); (case k7 => k_is); (case k8 => exact rmLt (by assumption)); (case k9 => exact BindsTo.of_eq rfl); (case kB => exact locs rfl); (case c2 => exact rfl); (case c3 => exact rfl); (case c4 => exact rfl); (case c5 => decide))
  intro L h₁ tk _ F N
  walk
  all_goals (try dsimp only)
  all_goals (refine jend hQ ?_ (by assumption))
  all_goals (first | rfl | exact tand1 (by assumption) | exact tand0 (by assumption) | exact tc1 (by assumption) (by assumption) | exact tc2 (by assumption) | exact tc3 (by assumption) | exact bor1 (by assumption) | exact bor0 (by assumption) | exact band1 (by assumption) | exact band0 (by assumption) | exact tx1 (by assumption) | exact tx2 (by assumption) (by assumption) (by assumption) | exact tx3 (by assumption) (by assumption) (by assumption) | exact tx4 (by assumption) (by assumption) (by assumption) | exact tx5 (by assumption) (by assumption))
set_option maxRecDepth 100000 in
set_option maxHeartbeats 4000000 in
theorem iscntrl_c : J 2 63 iscntrlB := by
  intro w mean mg mb A s c t Q E X
  revert X
  w_top off
  k_fill
  intro X T hA hQ
  refine' enter (binds := [(Str.ofString "c", .int c t)]) X T ?k6 ?k7 ?k8 ?k9 ?kB ?_ ?c2 ?c3 ?c4 ?c5
  ((case k6 => k_is); (case k7 => k_is); (case k8 => exact rmLt (by assumption)); (case k9 => exact BindsTo.of_eq rfl); (case kB => exact locs rfl); (case c2 => exact rfl); (case c3 => exact rfl); (case c4 => exact rfl); (case c5 => decide))
  intro L h₁ tk _ F N
  walk
  all_goals (try dsimp only)
  all_goals (refine jend hQ ?_ (by assumption))
  all_goals (first | rfl | exact tand1 (by assumption) | exact tand0 (by assumption) | exact tc1 (by assumption) (by assumption) | exact tc2 (by assumption) | exact tc3 (by assumption) | exact bor1 (by assumption) | exact bor0 (by assumption) | exact band1 (by assumption) | exact band0 (by assumption) | exact tx1 (by assumption) | exact tx2 (by assumption) (by assumption) (by assumption) | exact tx3 (by assumption) (by assumption) (by assumption) | exact tx4 (by assumption) (by assumption) (by assumption) | exact tx5 (by assumption) (by assumption))
set_option maxRecDepth 100000 in
set_option maxHeartbeats 4000000 in
theorem isdigit_c : J 2 70 isdigitB := by
  intro w mean mg mb A s c t Q E X
  revert X
  w_top off
  k_fill
  intro X T hA hQ
  refine' enter (binds := [(Str.ofString "c", .int c t)]) X T ?k6 ?k7 ?k8 ?k9 ?kB ?_ ?c2 ?c3 ?c4 ?c5
  ((case k6 => k_is); (case k7 => k_is); (case k8 => exact rmLt (by assumption)); (case k9 => exact BindsTo.of_eq rfl); (case kB => exact locs rfl); (case c2 => exact rfl); (case c3 => exact rfl); (case c4 => exact rfl); (case c5 => decide))
  intro L h₁ tk _ F N
  walk
  all_goals (try dsimp only)
  all_goals (refine jend hQ ?_ (by assumption))
  all_goals (first | rfl | exact tand1 (by assumption) | exact tand0 (by assumption) | exact tc1 (by assumption) (by assumption) | exact tc2 (by assumption) | exact tc3 (by assumption) | exact bor1 (by assumption) | exact bor0 (by assumption) | exact band1 (by assumption) | exact band0 (by assumption) | exact tx1 (by assumption) | exact tx2 (by assumption) (by assumption) (by assumption) | exact tx3 (by assumption) (by assumption) (by assumption) | exact tx4 (by assumption) (by assumption) (by assumption) | exact tx5 (by assumption) (by assumption))
local macro_rules | `(tactic| walk_at "call ref") => `(tactic| (refine isdigit_c _ _ _ _ _ _ _ _ _ _ (by k_in) (Top.keeps (by assumption) (Fr.keep (by assumption))) (by walk_at "m rm") ?_; walk_at "m back"))
set_option maxRecDepth 100000 in
set_option maxHeartbeats 4000000 in
theorem isgraph_c : J 2 77 isgraphB := by
  intro w mean mg mb A s c t Q E X
  revert X
  w_top off
  k_fill
  intro X T hA hQ
  refine' enter (binds := [(Str.ofString "c", .int c t)]) X T ?k6 ?k7 ?k8 ?k9 ?kB ?_ ?c2 ?c3 ?c4 ?c5
  ((case k6 => k_is); (case k7 => k_is); (case k8 => exact rmLt (by assumption)); (case k9 => exact BindsTo.of_eq rfl); (case kB => exact locs rfl); (case c2 => exact rfl); (case c3 => exact rfl); (case c4 => exact rfl); (case c5 => decide))
  intro L h₁ tk _ F N
  walk
  all_goals (try dsimp only)
  all_goals (refine jend hQ ?_ (by assumption))
  all_goals (first | rfl | exact tand1 (by assumption) | exact tand0 (by assumption) | exact tc1 (by assumption) (by assumption) | exact tc2 (by assumption) | exact tc3 (by assumption) | exact bor1 (by assumption) | exact bor0 (by assumption) | exact band1 (by assumption) | exact band0 (by assumption) | exact tx1 (by assumption) | exact tx2 (by assumption) (by assumption) (by assumption) | exact tx3 (by assumption) (by assumption) (by assumption) | exact tx4 (by assumption) (by assumption) (by assumption) | exact tx5 (by assumption) (by assumption))
local macro_rules | `(tactic| walk_at "call ref") => `(tactic| (refine isgraph_c _ _ _ _ _ _ _ _ _ _ (by k_in) (Top.keeps (by assumption) (Fr.keep (by assumption))) (by walk_at "m rm") ?_; walk_at "m back"))
set_option maxRecDepth 100000 in
set_option maxHeartbeats 4000000 in
theorem islower_c : J 2 84 islowerB := by
  intro w mean mg mb A s c t Q E X
  revert X
  w_top off
  k_fill
  intro X T hA hQ
  refine' enter (binds := [(Str.ofString "c", .int c t)]) X T ?k6 ?k7 ?k8 ?k9 ?kB ?_ ?c2 ?c3 ?c4 ?c5
  ((case k6 => k_is); (case k7 => k_is); (case k8 => exact rmLt (by assumption)); (case k9 => exact BindsTo.of_eq rfl); (case kB => exact locs rfl); (case c2 => exact rfl); (case c3 => exact rfl); (case c4 => exact rfl); (case c5 => decide))
  intro L h₁ tk _ F N
  walk
  all_goals (try dsimp only)
  all_goals (refine jend hQ ?_ (by assumption))
  all_goals (first | rfl | exact tand1 (by assumption) | exact tand0 (by assumption) | exact tc1 (by assumption) (by assumption) | exact tc2 (by assumption) | exact tc3 (by assumption) | exact bor1 (by assumption) | exact bor0 (by assumption) | exact band1 (by assumption) | exact band0 (by assumption) | exact tx1 (by assumption) | exact tx2 (by assumption) (by assumption) (by assumption) | exact tx3 (by assumption) (by assumption) (by assumption) | exact tx4 (by assumption) (by assumption) (by assumption) | exact tx5 (by assumption) (by assumption))
local macro_rules | `(tactic| walk_at "call ref") => `(tactic| (refine islower_c _ _ _ _ _ _ _ _ _ _ (by k_in) (Top.keeps (by assumption) (Fr.keep (by assumption))) (by walk_at "m rm") ?_; walk_at "m back"))
set_option maxRecDepth 100000 in
set_option maxHeartbeats 4000000 in
theorem isprint_c : J 2 91 isprintB := by
  intro w mean mg mb A s c t Q E X
  revert X
  w_top off
  k_fill
  intro X T hA hQ
  refine' enter (binds := [(Str.ofString "c", .int c t)]) X T ?k6 ?k7 ?k8 ?k9 ?kB ?_ ?c2 ?c3 ?c4 ?c5
  ((case k6 => k_is); (case k7 => k_is); (case k8 => exact rmLt (by assumption)); (case k9 => exact BindsTo.of_eq rfl); (case kB => exact locs rfl); (case c2 => exact rfl); (case c3 => exact rfl); (case c4 => exact rfl); (case c5 => decide))
  intro L h₁ tk _ F N
  walk
  all_goals (try dsimp only)
  all_goals (refine jend hQ ?_ (by assumption))
  all_goals (first | rfl | exact tand1 (by assumption) | exact tand0 (by assumption) | exact tc1 (by assumption) (by assumption) | exact tc2 (by assumption) | exact tc3 (by assumption) | exact bor1 (by assumption) | exact bor0 (by assumption) | exact band1 (by assumption) | exact band0 (by assumption) | exact tx1 (by assumption) | exact tx2 (by assumption) (by assumption) (by assumption) | exact tx3 (by assumption) (by assumption) (by assumption) | exact tx4 (by assumption) (by assumption) (by assumption) | exact tx5 (by assumption) (by assumption))
set_option maxRecDepth 100000 in
set_option maxHeartbeats 4000000 in
theorem isspace_c : J 2 105 isspaceB := by
  intro w mean mg mb A s c t Q E X
  revert X
  w_top off
  k_fill
  intro X T hA hQ
  refine' enter (binds := [(Str.ofString "c", .int c t)]) X T ?k6 ?k7 ?k8 ?k9 ?kB ?_ ?c2 ?c3 ?c4 ?c5
  ((case k6 => k_is); (case k7 => k_is); (case k8 => exact rmLt (by assumption)); (case k9 => exact BindsTo.of_eq rfl); (case kB => exact locs rfl); (case c2 => exact rfl); (case c3 => exact rfl); (case c4 => exact rfl); (case c5 => decide))
  intro L h₁ tk _ F N
  walk
  all_goals (try dsimp only)
  all_goals (refine jend hQ ?_ (by assumption))
  all_goals (first | rfl | exact tand1 (by assumption) | exact tand0 (by assumption) | exact tc1 (by assumption) (by assumption) | exact tc2 (by assumption) | exact tc3 (by assumption) | exact bor1 (by assumption) | exact bor0 (by assumption) | exact band1 (by assumption) | exact band0 (by assumption) | exact tx1 (by assumption) | exact tx2 (by assumption) (by assumption) (by assumption) | exact tx3 (by assumption) (by assumption) (by assumption) | exact tx4 (by assumption) (by assumption) (by assumption) | exact tx5 (by assumption) (by assumption))
set_option maxRecDepth 100000 in
set_option maxHeartbeats 4000000 in
theorem isupper_c : J 2 112 isupperB := by
  intro w mean mg mb A s c t Q E X
  revert X
  w_top off
  k_fill
  intro X T hA hQ
  refine' enter (binds := [(Str.ofString "c", .int c t)]) X T ?k6 ?k7 ?k8 ?k9 ?kB ?_ ?c2 ?c3 ?c4 ?c5
  ((case k6 => k_is); (case k7 => k_is); (case k8 => exact rmLt (by assumption)); (case k9 => exact BindsTo.of_eq rfl); (case kB => exact locs rfl); (case c2 => exact rfl); (case c3 => exact rfl); (case c4 => exact rfl); (case c5 => decide))
  intro L h₁ tk _ F N
  walk
  all_goals (try dsimp only)
  all_goals (refine jend hQ ?_ (by assumption))
  all_goals (first | rfl | exact tand1 (by assumption) | exact tand0 (by assumption) | exact tc1 (by assumption) (by assumption) | exact tc2 (by assumption) | exact tc3 (by assumption) | exact bor1 (by assumption) | exact bor0 (by assumption) | exact band1 (by assumption) | exact band0 (by assumption) | exact tx1 (by assumption) | exact tx2 (by assumption) (by assumption) (by assumption) | exact tx3 (by assumption) (by assumption) (by assumption) | exact tx4 (by assumption) (by assumption) (by assumption) | exact tx5 (by assumption) (by assumption))
local macro_rules | `(tactic| walk_at "call ref") => `(tactic| (refine isupper_c _ _ _ _ _ _ _ _ _ _ (by k_in) (Top.keeps (by assumption) (Fr.keep (by assumption))) (by walk_at "m rm") ?_; walk_at "m back"))
set_option maxRecDepth 100000 in
set_option maxHeartbeats 4000000 in
theorem isctrl_c : J 2 126 isctrlB := by
  intro w mean mg mb A s c t Q E X
  revert X
  w_top off
  k_fill
  intro X T hA hQ
  refine' enter (binds := [(Str.ofString "c", .int c t)]) X T ?k6 ?k7 ?k8 ?k9 ?kB ?_ ?c2 ?c3 ?c4 ?c5
  ((case k6 => k_is); (case k7 => k_is); (case k8 => exact rmLt (by assumption)); (case k9 => exact BindsTo.of_eq rfl); (case kB => exact locs rfl); (case c2 => exact rfl); (case c3 => exact rfl); (case c4 => exact rfl); (case c5 => decide))
  intro L h₁ tk _ F N
  walk
  all_goals (try dsimp only)
  all_goals (refine jend hQ ?_ (by assumption))
  all_goals (first | rfl | exact tand1 (by assumption) | exact tand0 (by assumption) | exact tc1 (by assumption) (by assumption) | exact tc2 (by assumption) | exact tc3 (by assumption) | exact bor1 (by assumption) | exact bor0 (by assumption) | exact band1 (by assumption) | exact band0 (by assumption) | exact tx1 (by assumption) | exact tx2 (by assumption) (by assumption) (by assumption) | exact tx3 (by assumption) (by assumption) (by assumption) | exact tx4 (by assumption) (by assumption) (by assumption) | exact tx5 (by assumption) (by assumption))
set_option maxRecDepth 100000 in
set_option maxHeartbeats 4000000 in
theorem ismeta_c : J 2 133 ismetaB := by
  intro w mean mg mb A s c t Q E X
  revert X
  w_top off
  k_fill
  intro X T hA hQ
  refine' enter (binds := [(Str.ofString "c", .int c t)]) X T ?k6 ?k7 ?k8 ?k9 ?kB ?_ ?c2 ?c3 ?c4 ?c5
  ((case k6 => k_is); (case k7 => k_is); (case k8 => exact rmLt (by assumption)); (case k9 => exact BindsTo.of_eq rfl); (case kB => exact locs rfl); (case c2 => exact rfl); (case c3 => exact rfl); (case c4 => exact rfl); (case c5 => decide))
  intro L h₁ tk _ F N
  walk
  all_goals (try dsimp only)
  all_goals (refine jend hQ ?_ (by assumption))
  all_goals (first | rfl | exact tand1 (by assumption) | exact tand0 (by assumption) | exact tc1 (by assumption) (by assumption) | exact tc2 (by assumption) | exact tc3 (by assumption) | exact bor1 (by assumption) | exact bor0 (by assumption) | exact band1 (by assumption) | exact band0 (by assumption) | exact tx1 (by assumption) | exact tx2 (by assumption) (by assumption) (by assumption) | exact tx3 (by assumption) (by assumption) (by assumption) | exact tx4 (by assumption) (by assumption) (by assumption) | exact tx5 (by assumption) (by assumption))
set_option maxRecDepth 100000 in
set_option maxHeartbeats 4000000 in
theorem isalpha_c : J 3 42 isalphaB := by
  intro w mean mg mb A s c t Q E X
  revert X
  w_top off
  k_fill
  intro X T hA hQ
  refine' enter (binds := [(Str.ofString "c", .int c t)]) X T ?k6 ?k7 ?k8 ?k9 ?kB ?_ ?c2 ?c3 ?c4 ?c5
  ((case k6 => k_is); (case k7 => k_is); (case k8 => exact rmLt (by assumption)); (case k9 => exact BindsTo.of_eq rfl); (case kB => exact locs rfl); (case c2 => exact rfl); (case c3 => exact rfl); (case c4 => exact rfl); (case c5 => decide))
  intro L h₁ tk _ F N
  walk
  all_goals (try dsimp only)
  all_goals (refine jend hQ ?_ (by assumption))
  all_goals (first | rfl | exact tand1 (by assumption) | exact tand0 (by assumption) | exact tc1 (by assumption) (by assumption) | exact tc2 (by assumption) | exact tc3 (by assumption) | exact bor1 (by assumption) | exact bor0 (by assumption) | exact band1 (by assumption) | exact band0 (by assumption) | exact tx1 (by assumption) | exact tx2 (by assumption) (by assumption) (by assumption) | exact tx3 (by assumption) (by assumption) (by assumption) | exact tx4 (by assumption) (by assumption) (by assumption) | exact tx5 (by assumption) (by assumption))
local macro_rules | `(tactic| walk_at "call ref") => `(tactic| (refine isalpha_c _ _ _ _ _ _ _ _ _ _ (by k_in) (Top.keeps (by assumption) (Fr.keep (by assumption))) (by walk_at "m rm") ?_; walk_at "m back"))
set_option maxRecDepth 100000 in
set_option maxHeartbeats 4000000 in
theorem isxdigit_c : J 3 119 isxdigitB := by
  intro w mean mg mb A s c t Q E X
  revert X
  w_top off
  k_fill
  intro X T hA hQ
  refine' enter (binds := [(Str.ofString "c", .int c t)]) X T ?k6 ?k7 ?k8 ?k9 ?kB ?_ ?c2 ?c3 ?c4 ?c5
  ((case k6 => k_is); (case k7 => k_is); (case k8 => exact rmLt (by assumption)); (case k9 => exact BindsTo.of_eq rfl); (case kB => exact locs rfl); (case c2 => exact rfl); (case c3 => exact rfl); (case c4 => exact rfl); (case c5 => decide))
  intro L h₁ tk _ F N
  walk
  all_goals (try dsimp only)
  all_goals (refine jend hQ ?_ (by assumption))
  all_goals (first | rfl | exact tand1 (by assumption) | exact tand0 (by assumption) | exact tc1 (by assumption) (by assumption) | exact tc2 (by assumption) | exact tc3 (by assumption) | exact bor1 (by assumption) | exact bor0 (by assumption) | exact band1 (by assumption) | exact band0 (by assumption) | exact tx1 (by assumption) | exact tx2 (by assumption) (by assumption) (by assumption) | exact tx3 (by assumption) (by assumption) (by assumption) | exact tx4 (by assumption) (by assumption) (by assumption) | exact tx5 (by assumption) (by assumption))
set_option maxRecDepth 100000 in
set_option maxHeartbeats 4000000 in
theorem isalnum_c : J 4 35 isalnumB := by
  intro w mean mg mb A s c t Q E X
  revert X
  w_top off
  k_fill
  intro X T hA hQ
  refine' enter (binds := [(Str.ofString "c", .int c t)]) X T ?k6 ?k7 ?k8 ?k9 ?kB ?_ ?c2 ?c3 ?c4 ?c5
  ((case k6 => k_is); (case k7 => k_is); (case k8 => exact rmLt (by assumption)); (case k9 => exact BindsTo.of_eq rfl); (case kB => exact locs rfl); (case c2 => exact rfl); (case c3 => exact rfl); (case c4 => exact rfl); (case c5 => decide))
  intro L h₁ tk _ F N
  walk
  all_goals (try dsimp only)
  all_goals (refine jend hQ ?_ (by assumption))
  all_goals (first | rfl | exact tand1 (by assumption) | exact tand0 (by assumption) | exact tc1 (by assumption) (by assumption) | exact tc2 (by assumption) | exact tc3 (by assumption) | exact bor1 (by assumption) | exact bor0 (by assumption) | exact band1 (by assumption) | exact band0 (by assumption) | exact tx1 (by assumption) | exact tx2 (by assumption) (by assumption) (by assumption) | exact tx3 (by assumption) (by assumption) (by assumption) | exact tx4 (by assumption) (by assumption) (by assumption) | exact tx5 (by assumption) (by assumption))
local macro_rules | `(tactic| walk_at "call ref") => `(tactic| (refine isalnum_c _ _ _ _ _ _ _ _ _ _ (by k_in) (Top.keeps (by assumption) (Fr.keep (by assumption))) (by walk_at "m rm") ?_; walk_at "m back"))
set_option maxRecDepth 100000 in
set_option maxHeartbeats 4000000 in
theorem ispunct_c : J 5 98 ispunctB := by
  intro w mean mg mb A s c t Q E X
  revert X
  w_top off
  k_fill
  intro X T hA hQ
  refine' enter (binds := [(Str.ofString "c", .int c t)]) X T ?k6 ?k7 ?k8 ?k9 ?kB ?_ ?c2 ?c3 ?c4 ?c5
  ((case k6 => k_is); (case k7 => k_is); (case k8 => exact rmLt (by assumption)); (case k9 => exact BindsTo.of_eq rfl); (case kB => exact locs rfl); (case c2 => exact rfl); (case c3 => exact rfl); (case c4 => exact rfl); (case c5 => decide))
  intro L h₁ tk _ F N
  walk
  all_goals (try dsimp only)
  all_goals (refine jend hQ ?_ (by assumption))
  all_goals (first | rfl | exact tand1 (by assumption) | exact tand0 (by assumption) | exact tc1 (by assumption) (by assumption) | exact tc2 (by assumption) | exact tc3 (by assumption) | exact bor1 (by assumption) | exact bor0 (by assumption) | exact band1 (by assumption) | exact band0 (by assumption) | exact tx1 (by assumption) | exact tx2 (by assumption) (by assumption) (by assumption) | exact tx3 (by assumption) (by assumption) (by assumption) | exact tx4 (by assumption) (by assumption) (by assumption) | exact tx5 (by assumption) (by assumption))
end Mine

open PySem PySem.W PyProof.Rows
set_option Elab.async false
set_option linter.unusedSimpArgs false
namespace Mine
/-- v is a list of the ints xs at h -/
def IsInts (h : Heap) (v : Value) (xs : List Int) : Prop := ∃ a vs, v = .ref a ∧ h.IsList a vs.toArray ∧ IntsAre vs xs
inductive AllInts (h : Heap) : List Value → List (List Int) → Prop
  | nil : AllInts h [] []
  | cons {v : Value} {vs : List Value} {xs : List Int} {xss : List (List Int)} : IsInts h v xs → AllInts h vs xss → AllInts h (v :: vs) (xs :: xss)
/-- v is a list of lists of ints -/
def IsIntss (h : Heap) (v : Value) (xss : List (List Int)) : Prop := ∃ a vs, v = .ref a ∧ h.IsList a vs.toArray ∧ AllInts h vs xss

theorem isList_ext {h h' : Heap} {a : Addr} {vs : Array Value} (g : Ext h h') (x : h.IsList a vs) : h'.IsList a vs := let ⟨o, ho, r⟩ := x; ⟨o, g _ _ ho, r⟩
theorem IsInts.ext {h h' : Heap} {v : Value} {xs : List Int} (g : Ext h h') (x : IsInts h v xs) : IsInts h' v xs := let ⟨a, vs, e, l, i⟩ := x; ⟨a, vs, e, isList_ext g l, i⟩
theorem AllInts.ext {h h' : Heap} {vs : List Value} {xss : List (List Int)} (g : Ext h h') (x : AllInts h vs xss) : AllInts h' vs xss := by
  induction x with
  | nil => exact .nil
  | cons a _ ih => exact .cons (a.ext g) ih
theorem IsIntss.ext {h h' : Heap} {v : Value} {xss : List (List Int)} (g : Ext h h') (x : IsIntss h v xss) : IsIntss h' v xss := let ⟨a, vs, e, l, i⟩ := x; ⟨a, vs, e, isList_ext g l, i.ext g⟩
theorem AllInts.length {h : Heap} {vs : List Value} {xss : List (List Int)} (x : AllInts h vs xss) : vs.length = xss.length := by
  induction x with
  | nil => rfl
  | cons _ _ ih => simp [ih]
end Mine

open PySem PySem.W PyProof.Rows
set_option Elab.async false
set_option linter.unusedSimpArgs false
namespace Mine

theorem fresh_le {h : Heap} {a : Addr} (ha : h.objs.size ≤ a) : h.get? a = none := by
  cases e : h.get? a with
  | none => rfl
  | some o' => exact absurd (Heap.lt_size e) (Nat.not_lt.mpr ha)
def KeepBut (C D : Addr) (wr : List Addr) (h h' : Heap) : Prop := ∀ b o, b ≠ C → b ∉ wr → b ≠ D → h.get? b = some o → h'.get? b = some o
theorem KeepBut.refl {C D : Addr} {wr : List Addr} (h : Heap) : KeepBut C D wr h h := fun _ _ _ _ _ e => e
theorem KeepBut.of_ext {C D : Addr} {wr : List Addr} {h h' : Heap} (g : Ext h h') : KeepBut C D wr h h' := fun b o _ _ _ e => g b o e

def KeepsX (fx : List Addr) (s s' : Shared) : Prop := ∃ h' tk, s' = { s with heap := h', toks := tk } ∧ ∀ b o, b ∉ fx → s.heap.get? b = some o → h'.get? b = some o
theorem Keeps.x {fx : List Addr} {s s' : Shared} (h : Keeps s s') : KeepsX fx s s' := let ⟨h', tk, e, k⟩ := h; ⟨h', tk, e, fun b o _ q => k b o q⟩
section
variable {prog : Program} {w : World} {A : Around} {R : Result → Shared → Prop} {s : Shared}
theorem loopX {elt iter : Expr} {x : Str} {px : Pos} {ifs : List Expr} {scope : Scope} {pos : Pos} {I D : Addr} {fp wr : List Addr} {n : Nat} {P : Nat → Value → Prop} {St : Nat → Heap → Prop}
    {cenv : Env} {m : Str → Option Value} (fx : List Addr) (W : Walks prog w A I fp wr n P St) (Inv : List Value → List Value → Heap → Prop)
    (hfr : ∀ vs ys h h', Inv vs ys h → KeepBut cenv.locals D wr h h' → Inv vs ys h')
    (hx : cenv.kindOf x = some .local) (hp : (cenv.scope.kind == .class || (cenv.scope.kind == .module && cenv.locals != cenv.globals)) = false)
    (hDC : D ≠ cenv.locals) (hDf : D ∉ fp) (hCf : cenv.locals ∉ fp) (hDx : D ∉ fx) (hCx : cenv.locals ∉ fx) (hpx : ∀ b ∈ fp, b ∉ fx)
    (hst : St 0 s.heap) (hacc : s.heap.PlainList D #[]) (hn : s.heap.Ns cenv.locals m) (h0 : Inv [] [] s.heap)
    (turn : ∀ vs ys v s₂ m₂ E', P vs.length v → vs.length < n → Inv vs ys s₂.heap → St (vs.length + 1) s₂.heap → s₂.heap.PlainList D ys.toArray → s₂.heap.Ns cenv.locals m₂ → m₂ x = some v → KeepBut cenv.locals D (fx ++ wr) s.heap s₂.heap →
      wpAny (model prog w) A (forIn ifs true fun c r => if r = true then do let ok ← isTrue c cenv (eval c cenv); pure (ForInStep.yield ok) else pure (ForInStep.yield r))
        (fun ok s₃ => Keeps s₂ s₃ ∧ (ok = true → wpAny (model prog w) A (eval elt cenv) (fun y s₄ => KeepsX fx s₃ s₄ ∧ Inv (vs ++ [v]) (ys ++ [y]) s₄.heap) E' s₃) ∧ (ok = false → Inv (vs ++ [v]) ys s₃.heap)) E' s₂)
    (hR : ∀ h' tk m' ys (vs : List Value), h'.Ns cenv.locals m' → h'.PlainList D ys.toArray → vs.length = n → (∀ j v, vs[j]? = some v → P j v) → Inv vs ys h' → KeepBut cenv.locals D (fx ++ wr) s.heap h' → R (.ok .next) { s with heap := h', toks := tk })
    (hsz : n ≤ sizeLine) :
    codeAny (model prog w) A (.compLoop (.ListComp elt [⟨.Name x px, iter, ifs, 0⟩] scope pos) 0 (.ref I) (.ref D) cenv) R s := by
  refine codeAny_compLoop_tests
    (fun k s' => ∃ h' tk m', ∃ ys vs : List Value, s' = { s with heap := h', toks := tk } ∧ St vs.length h' ∧ h'.PlainList D ys.toArray ∧ h'.Ns cenv.locals m' ∧ (∀ j v, vs[j]? = some v → P j v) ∧
      Inv vs ys h' ∧ ys.length ≤ vs.length ∧ vs.length ≤ n ∧ k = n + 1 - vs.length ∧ KeepBut cenv.locals D (fx ++ wr) s.heap h') ?_ (n + 1)
    ⟨s.heap, s.toks, m, [], [], rfl, hst, hacc, hn, by simp, h0, Nat.le_refl _, Nat.zero_le _, rfl, .refl _⟩
  rintro k s' ⟨H, tk, m', ys, vs, rfl, hst', hacc', hn', hP, hF, hyl, hi, rfl, hk⟩
  have hCw : cenv.locals ∉ wr := fun h => hCf (W.sub _ h)
  have hDw : D ∉ wr := fun h => hDf (W.sub _ h)
  by_cases hlt : vs.length < n
  · refine W.item vs.length _ _ _ hlt hst' fun v h₁ tk₁ hPv hst₁ hk₁ => ?_
    refine wpAny_assign_Name (wpAny_storeName_local hx (hn'.at' fun o e => hk₁ _ o hCw e) (fun h₂ hn₂ hs₂ => ?_) hp)
    have up₂ : ∀ b o, b ≠ cenv.locals → b ∉ wr → H.get? b = some o → h₂.get? b = some o := fun b o hbC hbf e => hs₂.extBut b o hbC (hk₁ b o hbf e)
    have hst₂ : St (vs.length + 1) h₂ := W.frame _ _ _ hst₁ fun b hb o e => hs₂.extBut b o (fun h => hCf (h ▸ hb)) e
    have hacc₂ : h₂.PlainList D ys.toArray := hacc'.at fun o e => up₂ D o hDC hDw e
    refine wpAny_mono (turn vs ys v _ _ _ hPv hlt (hfr _ _ _ _ hF fun b o hbC hbf _ e => up₂ b o hbC hbf e) hst₂ hacc₂ hn₂ (by simp) (fun b o hbC hbf hbD e => up₂ b o hbC (fun q => hbf (List.mem_append_right _ q)) (hk b o hbC hbf hbD e))) (fun ok s₃ h₃ => ?_) fun _ _ e => e
    obtain ⟨⟨h₃, tk₃, rfl, hk₃⟩, ht, hf⟩ := h₃
    have hst₃ : St (vs.length + 1) h₃ := W.frame _ _ _ hst₂ fun b _ o e => hk₃ b o e
    have hacc₃ : h₃.PlainList D ys.toArray := hacc₂.at fun o e => hk₃ _ o e
    have hn₃ := hn₂.keeps hk₃
    have hP' : ∀ j u, (vs ++ [v])[j]? = some u → P j u := fun j u hj => by
      rcases Nat.lt_trichotomy j vs.length with h | h | h
      · exact hP j u (by rwa [List.getElem?_append_left h] at hj)
      · subst h; simp at hj; subst hj; exact hPv
      · have hnone : (vs ++ [v])[j]? = none := List.getElem?_eq_none (by rw [List.length_append, List.length_singleton]; omega)
        rw [hnone] at hj; cases hj
    cases ok with
    | false =>
      simp only [Bool.false_eq_true, if_false]
      exact ⟨n + 1 - (vs.length + 1), by omega, h₃, tk₃, _, ys, vs ++ [v], rfl, by simpa using hst₃, hacc₃, hn₃, hP', hf rfl, (by rw [List.length_append, List.length_singleton]; omega), (by rw [List.length_append, List.length_singleton]; exact hlt), (by rw [List.length_append, List.length_singleton]), fun b o hbC hbf hbD e => hk₃ b o (up₂ b o hbC (fun q => hbf (List.mem_append_right _ q)) (hk b o hbC hbf hbD e))⟩
    | true =>
      simp only [if_true]
      refine wpAny_mono (ht rfl) (fun y s₄ h₄ => ?_) fun _ _ e => e
      obtain ⟨⟨h₄, tk₄, rfl, hk₄⟩, hI₄⟩ := h₄
      have hys : ys.toArray.size ≤ sizeLine := by rw [List.size_toArray]; omega
      refine wpAny_list_append_plain (hsz := hys) (hacc₃.at fun o e => hk₄ _ o hDx e) fun h₅ hl₅ hs₅ => ?_
      refine ⟨n + 1 - (vs.length + 1), by omega, h₅, tk₄, _, ys ++ [y], vs ++ [v], rfl, ?_, by simpa using hl₅, (hn₃.at' fun o e => hk₄ _ o hCx e).sameBut hs₅ (Ne.symm hDC), hP', ?_, (by simp only [List.length_append, List.length_singleton]; omega), (by rw [List.length_append, List.length_singleton]; exact hlt), (by rw [List.length_append, List.length_singleton]),
        fun b o hbC hbf hbD e => hs₅.extBut b o hbD (hk₄ b o (fun q => hbf (List.mem_append_left _ q)) (hk₃ b o (up₂ b o hbC (fun q => hbf (List.mem_append_right _ q)) (hk b o hbC hbf hbD e))))⟩
      · have := W.frame _ _ h₅ hst₃ fun b hb o e => hs₅.extBut b o (fun h => hDf (h ▸ hb)) (hk₄ b o (hpx b hb) e)
        simpa using this
      · exact hfr _ _ _ _ hI₄ fun b o _ _ hbD e => hs₅.extBut b o hbD e
  · have hin : vs.length = n := by omega
    refine W.done _ _ _ (hin ▸ hst') fun h₁ tk₁ hk₁ => ?_
    exact hR h₁ tk₁ m' ys vs (hn'.at' fun o e => hk₁ _ o hCw e) (hacc'.at fun o e => hk₁ _ o hDw e) hin hP (hfr _ _ _ _ hF fun b o _ hbf _ e => hk₁ b o hbf e) fun b o hbC hbf hbD e => hk₁ b o (fun q => hbf (List.mem_append_right _ q)) (hk b o hbC hbf hbD e)
end

section
variable {prog : Program} {w : World} {A : Around} {E : Value → Shared → Prop} {env : Env}

/-- a comprehension's turns by an invariant (D: its list, C: its frame) -/
structure CompX (fx : List Addr) (prog : Program) (w : World) (A : Around) (env : Env) (scope : Scope) (cl : List (Str × Addr)) (x : Str) (ifs : List Expr) (elt : Expr) (wr : List Addr) (n : Nat) (P : Nat → Value → Prop) (St : Nat → Heap → Prop)
    (Inv : Addr → Addr → List Value → List Value → Heap → Prop) (s₂ : Shared) : Prop where
  fr : ∀ D C vs ys h h', Inv D C vs ys h → KeepBut C D wr h h' → Inv D C vs ys h'
  start : ∀ D C h, s₂.heap.objs.size ≤ D → s₂.heap.objs.size ≤ C → Ext s₂.heap h → Inv D C [] [] h
  turn : ∀ D C vs ys v s₃ m₃ E', s₂.heap.objs.size ≤ D → s₂.heap.objs.size ≤ C → D ≠ C → P vs.length v → vs.length < n → Inv D C vs ys s₃.heap → St (vs.length + 1) s₃.heap → s₃.heap.PlainList D ys.toArray → s₃.heap.Ns C m₃ → m₃ x = some v →
      (∀ b o, b ∉ fx → b ∉ wr → s₂.heap.get? b = some o → s₃.heap.get? b = some o) →
      wpAny (model prog w) A (forIn ifs true fun c r => if r = true then do let ok ← isTrue c (compEnvC scope cl C env) (eval c (compEnvC scope cl C env)); pure (ForInStep.yield ok) else pure (ForInStep.yield r))
        (fun ok s₄ => Keeps s₃ s₄ ∧ (ok = true → wpAny (model prog w) A (eval elt (compEnvC scope cl C env)) (fun y s₅ => KeepsX fx s₄ s₅ ∧ Inv D C (vs ++ [v]) (ys ++ [y]) s₅.heap) E' s₄) ∧ (ok = false → Inv D C (vs ++ [v]) ys s₄.heap)) E' s₃

theorem blockX {fx : List Addr} {elt iter : Expr} {x : Str} {px : Pos} {ifs : List Expr} {scope : Scope} {cl : List (Str × Addr)} {pos : Pos} {s₂ : Shared} {I : Addr} {fp wr : List Addr} {n : Nat} {P : Nat → Value → Prop}
    {St : Nat → Heap → Prop} (W : Walks prog w A I fp wr n P St) (hsz : n ≤ sizeLine) {Inv : Addr → Addr → List Value → List Value → Heap → Prop} {RR : Value → Addr → Result → Shared → Prop}
    (hcell : ∀ y ∈ scope.names, y.2 ≠ .cell) (hkind : scope.kind = .function) (hx : scope.names.lookup x = some .local) (hst : St 0 s₂.heap) (hfp : ∀ b ∈ fp, b < s₂.heap.objs.size) (hfx : ∀ b ∈ fx, b < s₂.heap.objs.size) (hpx : ∀ b ∈ fp, b ∉ fx)
    (hq : CompX fx prog w A env scope cl x ifs elt wr n P St Inv s₂)
    (hRR : ∀ D C h' tk m' ys (vs : List Value), s₂.heap.objs.size ≤ D → s₂.heap.objs.size ≤ C → D ≠ C → h'.Ns C m' → h'.PlainList D ys.toArray → vs.length = n → (∀ j v, vs[j]? = some v → P j v) → Inv D C vs ys h' →
      (∀ b o, b ∉ fx → b ∉ wr → s₂.heap.get? b = some o → h'.get? b = some o) → RR (.ref D) C (.ok .next) { s₂ with heap := h', toks := tk }) :
    wpAny (model prog w) A (newList []) (fun acc s₃ => wpAny (model prog w) A (newFunctionEnv scope env.globals cl [] env.qual none .none (some env)) (fun cenv s₄ =>
      codeAny (model prog w) A (.compStart (.ListComp elt [⟨.Name x px, iter, ifs, 0⟩] scope pos) 0 (.ref I) acc { cenv with scope := relabel scope env }) (RR acc cenv.locals) s₄) E s₃) E s₂ := by
  refine wpAny_newObj_type (wpAny_newFunctionEnv hcell (by intro y hy; simp at hy) (fun h₁ hns₁ hsb₁ => ?_) hkind)
  dsimp only at hns₁ hsb₁ ⊢
  generalize hH2 : s₂.heap.push { cls := .type "list", dict := none, data := .seq ([] : List Value).toArray } = H2 at hns₁ hsb₁ ⊢
  have hC : H2.objs.size = s₂.heap.objs.size + 1 := by rw [← hH2, Heap.size_push]
  have hDC : s₂.heap.objs.size ≠ H2.objs.size := by rw [hC]; exact Nat.ne_of_lt (Nat.lt_succ_self _)
  have below : ∀ b, b < s₂.heap.objs.size → b ≠ H2.objs.size ∧ b ≠ s₂.heap.objs.size := fun b hb => ⟨by rw [hC]; exact Nat.ne_of_lt (Nat.lt_succ_of_lt hb), Nat.ne_of_lt hb⟩
  have hDf : s₂.heap.objs.size ∉ fp := fun hm => Nat.lt_irrefl _ (hfp _ hm)
  have hCf : H2.objs.size ∉ fp := fun hm => by have := hfp _ hm; rw [hC] at this; exact Nat.lt_irrefl _ (Nat.lt_of_succ_lt this)
  have hDx : s₂.heap.objs.size ∉ fx := fun hm => Nat.lt_irrefl _ (hfx _ hm)
  have hCx : H2.objs.size ∉ fx := fun hm => by have := hfx _ hm; rw [hC] at this; exact Nat.lt_irrefl _ (Nat.lt_of_succ_lt this)
  have old : ∀ b o, s₂.heap.get? b = some o → h₁.get? b = some o := fun b o e => hsb₁.extBut b o (below b (Heap.lt_size e)).1 (Heap.get?_push_of_some _ (hH2 ▸ Heap.get?_push_of_some _ e))
  have hacc : h₁.PlainList s₂.heap.objs.size #[] := ⟨_, hsb₁.extBut _ _ hDC (Heap.get?_push_of_some _ (hH2 ▸ Heap.get?_push_size _ rfl))⟩
  have hst₁ : St 0 h₁ := W.frame _ _ _ hst fun b _ o e => old b o e
  have fD := Nat.le_refl s₂.heap.objs.size
  have fC : s₂.heap.objs.size ≤ H2.objs.size := by rw [hC]; exact Nat.le_succ _
  have loop : ∀ s₃ : Shared, s₃ = { s₂ with heap := h₁, toks := s₂.toks + ([] : List (Str × Value)).length } →
      codeAny (model prog w) A (.compLoop (.ListComp elt [⟨.Name x px, iter, ifs, 0⟩] scope pos) 0 (.ref I) (.ref s₂.heap.objs.size) (compEnvC scope cl H2.objs.size env))
        (RR (.ref s₂.heap.objs.size) H2.objs.size) s₃ := by
    rintro s₃ rfl
    refine loopX (hsz := hsz) (cenv := compEnvC scope cl H2.objs.size env) fx W (Inv s₂.heap.objs.size H2.objs.size) (hq.fr _ _) (lookup_relabel_local hx) (by simp [compEnvC, relabel, hkind]) hDC hDf hCf hDx hCx hpx hst₁ hacc hns₁
      (hq.start _ _ _ fD fC old)
      (fun vs ys v s₃ m₃ E' hv hl hI hS hpl hn hm hk => hq.turn _ _ vs ys v s₃ m₃ E' fD fC hDC hv hl hI hS hpl hn hm fun b o hbx hbf e => hk b o (below b (Heap.lt_size e)).1 (fun q => (List.mem_append.mp q).elim hbx hbf) (below b (Heap.lt_size e)).2 (old b o e)) fun h' tk m' ys vs hn hpl hlen hP hI hk => ?_
    exact hRR _ _ h' tk m' ys vs fD fC hDC hn hpl hlen hP hI fun b o hbx hbf e =>
      hk b o (below b (Heap.lt_size e)).1 (fun q => (List.mem_append.mp q).elim hbx hbf) (below b (Heap.lt_size e)).2 (old b o e)
  exact codeAny_compStart_list (loop _ rfl) (W.self 0 _ _ _ hst₁ (loop _ rfl))

/-- what is asked of the source's iterator, and what is handed on -/
def SrcX (fx : List Addr) (prog : Program) (w : World) (A : Around) (env : Env) (scope : Scope) (cl : List (Str × Addr)) (x : Str) (ifs : List Expr) (elt : Expr) (Q : Value → Shared → Prop) (it : Value) (s₂ : Shared) : Prop :=
  ∃ I fp wr n P St Inv, it = .ref I ∧ Walks prog w A I fp wr n P St ∧ n ≤ sizeLine ∧ St 0 s₂.heap ∧ (∀ b ∈ fp, b < s₂.heap.objs.size) ∧ (∀ b ∈ fx, b < s₂.heap.objs.size) ∧ (∀ b ∈ fp, b ∉ fx) ∧
      CompX fx prog w A env scope cl x ifs elt wr n P St Inv s₂ ∧
      (∀ D C h' tk ys (vs : List Value), s₂.heap.objs.size ≤ D → s₂.heap.objs.size ≤ C → D ≠ C → h'.PlainList D ys.toArray → vs.length = n → (∀ j v, vs[j]? = some v → P j v) →
        (∃ h'', Inv D C vs ys h'' ∧ Heap.SameBut C h'' h') →
        (∀ b o, b ∉ fx → b ∉ wr → s₂.heap.get? b = some o → h'.get? b = some o) → Q (.ref D) { s₂ with heap := h', toks := tk })

theorem LC_X {fx : List Addr} {s : Shared} {elt iter : Expr} {x : Str} {px : Pos} {ifs : List Expr} {scope : Scope} {cl : List (Str × Addr)} {pos : Pos} {Q : Value → Shared → Prop}
    (hclos : closureFor scope env = pure cl) (hcell : ∀ y ∈ scope.names, y.2 ≠ .cell) (hkind : scope.kind = .function)
    (hnames : ∀ y ∈ scope.names, y.2 = .local → scope.names.lookup y.1 = some .local) (hx : scope.names.lookup x = some .local)
    (h : wpAny (model prog w) A (eval iter env) (fun xv s₁ => wpAny (model prog w) A (pyIter xv) (SrcX fx prog w A env scope cl x ifs elt Q) E s₁) E s)
    (hs : ∀ x, foldedSetIterable iter env x = pure x := by intro _; rfl) :
    wpAny (model prog w) A (eval (.ListComp elt [⟨.Name x px, iter, ifs, 0⟩] scope pos) env) Q E s := by
  rw [eval_ListComp]
  refine wpAny_comprehension_free (use := none) rfl hs hclos hkind hnames (wpAny_mono h (fun xv s₁ h₁ => wpAny_mono h₁ (fun it s₂ h₂ => ?_) fun _ _ e => e) fun _ _ e => e)
  obtain ⟨I, fp, wr, n, P, St, Inv, rfl, W, hsz, hst, hfp, hfx, hpx, hq, hQ⟩ := h₂
  refine blockX (RR := fun acc C => compPost (model prog w) A E none Q acc C) W hsz hcell hkind hx hst hfp hfx hpx hq ?_
  intro D C h' tk m' ys vs hD hC hDC hn hpl hlen hP hI hk
  exact ⟨m', hn, fun h'' hs'' => hQ D C h'' tk ys vs hD hC hDC (hpl.extBut hs''.extBut hDC) hlen hP ⟨h', hI, hs''⟩ fun b o hbx hbf e => hs''.extBut b o (by rintro rfl; rw [fresh_le hC] at e; cases e) (hk b o hbx hbf e)⟩

/-- the same where the comprehension's list is stored under a name at once -/
def SrcXA (fx : List Addr) (prog : Program) (w : World) (A : Around) (env : Env) (scope : Scope) (cl : List (Str × Addr)) (x y : Str) (ifs : List Expr) (elt : Expr) (Q : Flow → Shared → Prop) (it : Value) (s₂ : Shared) : Prop :=
  ∃ I fp wr n P St Inv m, it = .ref I ∧ Walks prog w A I fp wr n P St ∧ n ≤ sizeLine ∧ St 0 s₂.heap ∧ (∀ b ∈ fp, b < s₂.heap.objs.size) ∧ (∀ b ∈ fx, b < s₂.heap.objs.size) ∧ (∀ b ∈ fp, b ∉ fx) ∧ env.locals < s₂.heap.objs.size ∧ (∀ D C vs ys h, s₂.heap.objs.size ≤ D → s₂.heap.objs.size ≤ C → Inv D C vs ys h → h.Ns env.locals m) ∧
      CompX fx prog w A env scope cl x ifs elt wr n P St Inv s₂ ∧
      (∀ D C h' tk ys (vs : List Value), s₂.heap.objs.size ≤ D → s₂.heap.objs.size ≤ C → D ≠ C → h'.PlainList D ys.toArray → vs.length = n → (∀ j v, vs[j]? = some v → P j v) →
        (∃ h₁ h₂, Inv D C vs ys h₁ ∧ Heap.SameBut env.locals h₁ h₂ ∧ Heap.SameBut C h₂ h') →
        h'.Ns env.locals (fun z => if z = y then some (.ref D) else m z) → (∀ b o, b ≠ env.locals → b ∉ fx → b ∉ wr → s₂.heap.get? b = some o → h'.get? b = some o) → Q .next { s₂ with heap := h', toks := tk })

theorem ALC_X {fx : List Addr} {s : Shared} {elt iter : Expr} {x y : Str} {px py : Pos} {ifs : List Expr} {scope : Scope} {cl : List (Str × Addr)} {pos spos : Pos} {Q : Flow → Shared → Prop}
    (hsw : swapsWith (.ListComp elt [⟨.Name x px, iter, ifs, 0⟩] scope pos) (some (.Name y py)) spos.line env = pure true)
    (hclos : closureFor scope env = pure cl) (hcell : ∀ z ∈ scope.names, z.2 ≠ .cell) (hkind : scope.kind = .function)
    (hnames : ∀ z ∈ scope.names, z.2 = .local → scope.names.lookup z.1 = some .local) (hx : scope.names.lookup x = some .local)
    (hy : env.kindOf y = some .local) (hp : (env.scope.kind == .class || (env.scope.kind == .module && env.locals != env.globals)) = false)
    (h : wpAny (model prog w) A (eval iter env) (fun xv s₁ => wpAny (model prog w) A (pyIter xv) (SrcXA fx prog w A env scope cl x y ifs elt Q) E s₁) E s)
    (hs : ∀ x, foldedSetIterable iter env x = pure x := by intro _; rfl) :
    wpAny (model prog w) A (exec (.Assign [.Name y py] (.ListComp elt [⟨.Name x px, iter, ifs, 0⟩] scope pos) spos) env) Q E s := by
  rw [exec_Assign_Name_used _ _ _ _ hsw]
  refine wpAny_bind (wpAny_standAt (wpAny_bind ?_))
  show wpAny _ A (do let _ ← comprehension (.ListComp elt [⟨.Name x px, iter, ifs, 0⟩] scope pos) scope env _ (newList []) false (eval iter env) (some (assign (.Name y py) env))) _ _ s
  refine wpAny_bind (wpAny_mono (wpAny_comprehension_free (use := some (assign (.Name y py) env)) (Q := fun _ s' => Q .next s') rfl hs hclos hkind hnames
    (wpAny_mono h (fun xv s₁ h₁ => wpAny_mono h₁ (fun it s₂ h₂ => ?_) fun _ _ e => e) fun _ _ e => e))
    (fun _ s' hq => wpAny_pure (wpAny_pure hq)) fun _ _ e => e)
  obtain ⟨I, fp, wr, n, P, St, Inv, m, rfl, W, hsz, hst, hfp, hfx, hpx, hLs, hn, hq, hQ⟩ := h₂
  refine blockX (RR := fun acc C => compPost (model prog w) A E (some (assign (.Name y py) env)) (fun _ s' => Q .next s') acc C) W hsz hcell hkind hx hst hfp hfx hpx hq ?_
  intro D C h' tk m' ys vs hD hC hDC hnC hpl hlen hP hI hk
  have hLC : env.locals ≠ C := Nat.ne_of_lt (Nat.lt_of_lt_of_le hLs hC)
  have hLD : env.locals ≠ D := Nat.ne_of_lt (Nat.lt_of_lt_of_le hLs hD)
  show wpAny _ A (assign (.Name y py) env (.ref D)) _ _ _
  refine wpAny_assign_Name (wpAny_storeName_local hy (hn _ _ _ _ _ hD hC hI) (fun h₂ hn₂ hs₂ => ?_) hp)
  refine ⟨m', hnC.sameBut hs₂ (Ne.symm hLC), fun h₃ hs₃ => ?_⟩
  exact hQ D C h₃ _ ys vs hD hC hDC ((hpl.extBut hs₂.extBut (Ne.symm hLD)).extBut hs₃.extBut hDC) hlen hP ⟨h', h₂, hI, hs₂, hs₃⟩ (hn₂.sameBut hs₃ hLC) fun b o hbL hbx hbf e =>
    hs₃.extBut b o (by rintro rfl; rw [fresh_le hC] at e; cases e) (hs₂.extBut b o hbL (hk b o hbx hbf e))
end

section
variable {prog : Program} {w : World} {A : Around} {E : Value → Shared → Prop} {env : Env}
/-- a comprehension's turns by an invariant (D: its list, C: its frame) -/
structure CompBy (prog : Program) (w : World) (A : Around) (env : Env) (scope : Scope) (cl : List (Str × Addr)) (x : Str) (ifs : List Expr) (elt : Expr) (wr : List Addr) (n : Nat) (P : Nat → Value → Prop) (St : Nat → Heap → Prop)
    (Inv : Addr → Addr → List Value → List Value → Heap → Prop) (s₂ : Shared) : Prop where
  fr : ∀ D C vs ys h h', Inv D C vs ys h → KeepBut C D wr h h' → Inv D C vs ys h'
  start : ∀ D C h, s₂.heap.objs.size ≤ D → s₂.heap.objs.size ≤ C → Ext s₂.heap h → Inv D C [] [] h
  turn : ∀ D C vs ys v s₃ m₃ E', s₂.heap.objs.size ≤ D → s₂.heap.objs.size ≤ C → D ≠ C → P vs.length v → vs.length < n → Inv D C vs ys s₃.heap → St (vs.length + 1) s₃.heap → s₃.heap.PlainList D ys.toArray → s₃.heap.Ns C m₃ → m₃ x = some v →
      (∀ b o, b ∉ wr → s₂.heap.get? b = some o → s₃.heap.get? b = some o) →
      wpAny (model prog w) A (forIn ifs true fun c r => if r = true then do let ok ← isTrue c (compEnvC scope cl C env) (eval c (compEnvC scope cl C env)); pure (ForInStep.yield ok) else pure (ForInStep.yield r))
        (fun ok s₄ => Keeps s₃ s₄ ∧ (ok = true → wpAny (model prog w) A (eval elt (compEnvC scope cl C env)) (fun y s₅ => Keeps s₄ s₅ ∧ Inv D C (vs ++ [v]) (ys ++ [y]) s₅.heap) E' s₄) ∧ (ok = false → Inv D C (vs ++ [v]) ys s₄.heap)) E' s₃

theorem CompBy.x {scope : Scope} {cl : List (Str × Addr)} {x : Str} {ifs : List Expr} {elt : Expr} {wr : List Addr} {n : Nat} {P : Nat → Value → Prop} {St : Nat → Heap → Prop} {Inv : Addr → Addr → List Value → List Value → Heap → Prop} {s₂ : Shared}
    (hq : CompBy prog w A env scope cl x ifs elt wr n P St Inv s₂) : CompX [] prog w A env scope cl x ifs elt wr n P St Inv s₂ :=
  ⟨hq.fr, hq.start, fun D C vs ys v s₃ m₃ E' hD hC hDC hv hl hI hS hpl hn hm hk =>
    wpAny_mono (hq.turn D C vs ys v s₃ m₃ E' hD hC hDC hv hl hI hS hpl hn hm fun b o hbf e => hk b o List.not_mem_nil hbf e)
      (fun _ _ h => ⟨h.1, fun q => wpAny_mono (h.2.1 q) (fun _ _ g => ⟨Keeps.x g.1, g.2⟩) fun _ _ e => e, h.2.2⟩) fun _ _ e => e⟩
theorem Keeps.ns {s s' : Shared} {a : Addr} {m : Str → Option Value} (k : Keeps s s') (n : s.heap.Ns a m) : s'.heap.Ns a m := by
  obtain ⟨h', tk, rfl, k⟩ := k
  exact n.at' fun o e => k _ o e

/-- what is asked of the source's iterator, and what is handed on -/
def SrcBy (prog : Program) (w : World) (A : Around) (env : Env) (scope : Scope) (cl : List (Str × Addr)) (x : Str) (ifs : List Expr) (elt : Expr) (Q : Value → Shared → Prop) (it : Value) (s₂ : Shared) : Prop :=
  ∃ I fp wr n P St Inv, it = .ref I ∧ Walks prog w A I fp wr n P St ∧ n ≤ sizeLine ∧ St 0 s₂.heap ∧ (∀ b ∈ fp, b < s₂.heap.objs.size) ∧
      CompBy prog w A env scope cl x ifs elt wr n P St Inv s₂ ∧
      (∀ D C h' tk ys (vs : List Value), s₂.heap.objs.size ≤ D → s₂.heap.objs.size ≤ C → D ≠ C → h'.PlainList D ys.toArray → vs.length = n → (∀ j v, vs[j]? = some v → P j v) →
        (∃ h'', Inv D C vs ys h'' ∧ Heap.SameBut C h'' h') →
        (∀ b o, b ∉ wr → s₂.heap.get? b = some o → h'.get? b = some o) → Q (.ref D) { s₂ with heap := h', toks := tk })

theorem LC_inv {s : Shared} {elt iter : Expr} {x : Str} {px : Pos} {ifs : List Expr} {scope : Scope} {cl : List (Str × Addr)} {pos : Pos} {Q : Value → Shared → Prop}
    (hclos : closureFor scope env = pure cl) (hcell : ∀ y ∈ scope.names, y.2 ≠ .cell) (hkind : scope.kind = .function)
    (hnames : ∀ y ∈ scope.names, y.2 = .local → scope.names.lookup y.1 = some .local) (hx : scope.names.lookup x = some .local)
    (h : wpAny (model prog w) A (eval iter env) (fun xv s₁ => wpAny (model prog w) A (pyIter xv) (SrcBy prog w A env scope cl x ifs elt Q) E s₁) E s)
    (hs : ∀ x, foldedSetIterable iter env x = pure x := by intro _; rfl) :
    wpAny (model prog w) A (eval (.ListComp elt [⟨.Name x px, iter, ifs, 0⟩] scope pos) env) Q E s := by
  refine LC_X (fx := []) hclos hcell hkind hnames hx (wpAny_mono h (fun xv s₁ h₁ => wpAny_mono h₁ (fun it s₂ h₂ => ?_) fun _ _ e => e) fun _ _ e => e) hs
  obtain ⟨I, fp, wr, n, P, St, Inv, e, W, hsz, hst, hfp, hq, hQ⟩ := h₂
  exact ⟨I, fp, wr, n, P, St, Inv, e, W, hsz, hst, hfp, nofun, fun _ _ => List.not_mem_nil, hq.x, fun D C h' tk ys vs hD hC hDC hpl hlen hP hI hk => hQ D C h' tk ys vs hD hC hDC hpl hlen hP hI fun b o hbf e => hk b o List.not_mem_nil hbf e⟩

/-- the same where the comprehension's list is stored under a name at once -/
def SrcByA (prog : Program) (w : World) (A : Around) (env : Env) (scope : Scope) (cl : List (Str × Addr)) (x y : Str) (ifs : List Expr) (elt : Expr) (Q : Flow → Shared → Prop) (it : Value) (s₂ : Shared) : Prop :=
  ∃ I fp wr n P St Inv m, it = .ref I ∧ Walks prog w A I fp wr n P St ∧ n ≤ sizeLine ∧ St 0 s₂.heap ∧ (∀ b ∈ fp, b < s₂.heap.objs.size) ∧ env.locals ∉ wr ∧ s₂.heap.Ns env.locals m ∧
      CompBy prog w A env scope cl x ifs elt wr n P St Inv s₂ ∧
      (∀ D C h' tk ys (vs : List Value), s₂.heap.objs.size ≤ D → s₂.heap.objs.size ≤ C → D ≠ C → h'.PlainList D ys.toArray → vs.length = n → (∀ j v, vs[j]? = some v → P j v) →
        (∃ h₁ h₂, Inv D C vs ys h₁ ∧ Heap.SameBut env.locals h₁ h₂ ∧ Heap.SameBut C h₂ h') →
        h'.Ns env.locals (fun z => if z = y then some (.ref D) else m z) → (∀ b o, b ≠ env.locals → b ∉ wr → s₂.heap.get? b = some o → h'.get? b = some o) → Q .next { s₂ with heap := h', toks := tk })

theorem ALC_inv {s : Shared} {elt iter : Expr} {x y : Str} {px py : Pos} {ifs : List Expr} {scope : Scope} {cl : List (Str × Addr)} {pos spos : Pos} {Q : Flow → Shared → Prop}
    (hsw : swapsWith (.ListComp elt [⟨.Name x px, iter, ifs, 0⟩] scope pos) (some (.Name y py)) spos.line env = pure true)
    (hclos : closureFor scope env = pure cl) (hcell : ∀ z ∈ scope.names, z.2 ≠ .cell) (hkind : scope.kind = .function)
    (hnames : ∀ z ∈ scope.names, z.2 = .local → scope.names.lookup z.1 = some .local) (hx : scope.names.lookup x = some .local)
    (hy : env.kindOf y = some .local) (hp : (env.scope.kind == .class || (env.scope.kind == .module && env.locals != env.globals)) = false)
    (h : wpAny (model prog w) A (eval iter env) (fun xv s₁ => wpAny (model prog w) A (pyIter xv) (SrcByA prog w A env scope cl x y ifs elt Q) E s₁) E s)
    (hs : ∀ x, foldedSetIterable iter env x = pure x := by intro _; rfl) :
    wpAny (model prog w) A (exec (.Assign [.Name y py] (.ListComp elt [⟨.Name x px, iter, ifs, 0⟩] scope pos) spos) env) Q E s := by
  refine ALC_X (fx := []) hsw hclos hcell hkind hnames hx hy hp (wpAny_mono h (fun xv s₁ h₁ => wpAny_mono h₁ (fun it s₂ h₂ => ?_) fun _ _ e => e) fun _ _ e => e) hs
  obtain ⟨I, fp, wr, n, P, St, Inv, m, e, W, hsz, hst, hfp, hLf, hn, hq, hQ⟩ := h₂
  have hLs : env.locals < s₂.heap.objs.size := by obtain ⟨o, _, _, ho, _⟩ := hn; exact Heap.lt_size ho
  refine ⟨I, fp, wr, n, P, St, fun D C vs ys h => Inv D C vs ys h ∧ (s₂.heap.objs.size ≤ D → s₂.heap.objs.size ≤ C → h.Ns env.locals m), m, e, W, hsz, hst, hfp, nofun, fun _ _ => List.not_mem_nil, hLs, fun D C vs ys h hD hC q => q.2 hD hC, ⟨?_, ?_, ?_⟩, ?_⟩
  · exact fun D C vs ys h h' q k => ⟨hq.fr _ _ _ _ _ _ q.1 k, fun hD hC => (q.2 hD hC).at' fun o e => k _ o (Nat.ne_of_lt (Nat.lt_of_lt_of_le hLs hC)) hLf (Nat.ne_of_lt (Nat.lt_of_lt_of_le hLs hD)) e⟩
  · exact fun D C h hD hC g => ⟨hq.start D C h hD hC g, fun _ _ => hn.at' fun o e => g _ o e⟩
  · exact fun D C vs ys v s₃ m₃ E' hD hC hDC hv hl hI hS hpl hns hm hk =>
      wpAny_mono (hq.turn D C vs ys v s₃ m₃ E' hD hC hDC hv hl hI.1 hS hpl hns hm fun b o hbf e => hk b o List.not_mem_nil hbf e)
        (fun _ _ h => ⟨h.1, fun q => wpAny_mono (h.2.1 q) (fun _ _ g => ⟨Keeps.x g.1, g.2, fun _ _ => Mine.Keeps.ns g.1 (Mine.Keeps.ns h.1 (hI.2 hD hC))⟩) fun _ _ e => e, fun q => ⟨h.2.2 q, fun _ _ => Mine.Keeps.ns h.1 (hI.2 hD hC)⟩⟩) fun _ _ e => e
  · exact fun D C h' tk ys vs hD hC hDC hpl hlen hP hI hns hk => hQ D C h' tk ys vs hD hC hDC hpl hlen hP (let ⟨h1, h2, q, r⟩ := hI; ⟨h1, h2, q.1, r⟩) hns fun b o hbL hbf e => hk b o hbL List.not_mem_nil hbf e
end
end Mine

open PySem PySem.W PyProof.Rows
set_option Elab.async false
set_option linter.unusedSimpArgs false
namespace Mine

theorem fresh_ne {h : Heap} {b a : Addr} {o : Obj} (f : h.get? b = none) (e : h.get? a = some o) : b ≠ a := by rintro rfl; rw [f] at e; cases e
theorem ns_some {h : Heap} {a : Addr} {m : Str → Option Value} (n : h.Ns a m) : ∃ o, h.get? a = some o := let ⟨o, _, _, ho, _⟩ := n; ⟨o, ho⟩
theorem isList_some {h : Heap} {a : Addr} {vs : Array Value} (n : h.IsList a vs) : ∃ o, h.get? a = some o := let ⟨o, ho, _⟩ := n; ⟨o, ho⟩
theorem fresh_of_ext {h h' : Heap} {b : Addr} (g : Ext h h') (f : h'.get? b = none) : h.get? b = none := by
  cases e : h.get? b with
  | none => rfl
  | some o => rw [g _ _ e] at f; cases f

/-- a new object of a call goes onto the caller's ledger -/
theorem newsAdd {h₀ h h' : Heap} {L b : Addr} {o : Obj} {m : Str → Option Value} {news : List (Addr × Obj)} (g : Ext h h') (F : Fr h₀ L h m) (N : News h₀ L h news) (fb' : h.objs.size ≤ b) (ho : h'.get? b = some o) : News h₀ L h' ((b, o) :: news) := by
  have fb := fresh_le fb'
  intro p hp
  rcases List.mem_cons.mp hp with rfl | hp
  · obtain ⟨oL, hL⟩ := ns_some F.ns
    exact ⟨ho, fresh_ne fb hL, fresh_of_ext F.keep fb⟩
  · exact ⟨g _ _ (N p hp).1, (N p hp).2⟩

theorem newsLt {h₀ h : Heap} {L b : Addr} {news : List (Addr × Obj)} (N : News h₀ L h news) (fb : h.objs.size ≤ b) : ∀ p ∈ news, p.1 < b := fun p hp => Nat.lt_of_lt_of_le (Heap.lt_size (N p hp).1) fb

/-- the int of a value -/
def keepBy (pz : Int → Bool) : Value → Bool
  | .int n _ => pz n
  | _ => false
theorem ints_filter {pz : Int → Bool} {vs : List Value} {xs : List Int} (h : IntsAre vs xs) : IntsAre (vs.filter (keepBy pz)) (xs.filter pz) := by
  induction h with
  | nil => exact .nil
  | cons n t _ ih =>
    by_cases hp : pz n = true
    · simp only [List.filter_cons, keepBy, hp, if_true]; exact .cons n t ih
    · simp only [List.filter_cons, keepBy, hp, if_false]; exact ih

section
variable {prog : Program} {w : World} {A : Around} {E : Value → Shared → Prop} {env : Env} {s : Shared}

theorem iterList {l : Addr} {vs : List Value} {Q : Value → Shared → Prop} (hl : s.heap.IsList l vs.toArray)
    (h : Q (.ref s.heap.objs.size) { s with heap := s.heap.push { cls := .type "list_iterator", data := .fields #[.ref l, .int 0 0] } }) : wpAny (model prog w) A (pyIter (.ref l)) Q E s := wpAny_pyIter_list hl h

/-- a filter over a list of ints -/
theorem srcFilter {x : Str} {px' : Pos} {test : Expr} {scope : Scope} {cl : List (Str × Addr)} {Q : Value → Shared → Prop} {l : Addr} {vs : List Value} {xs : List Int} (pz : Int → Bool)
    (hh : A.handled = none) (hl : s.heap.IsList l vs.toArray) (hi : IntsAre vs xs) (hn : xs.length ≤ 1000)
    (hk : scope.kind = .function) (hx : scope.names.lookup x = some .local) (hd : (x == ("__debug__" : Str)) = false)
    (g1 : ∀ C n t s₃ m₃ E', s.heap.objs.size ≤ C → n ∈ xs → s₃.heap.Ns C m₃ → m₃ x = some (.int n t) → Ext s.heap s₃.heap →
      wpAny (model prog w) A (isTrue test (compEnvC scope cl C env) (eval test (compEnvC scope cl C env))) (fun ok s₄ => Keeps s₃ s₄ ∧ ok = pz n) E' s₃)
    (g2 : ∀ D ys h' tk, Ext s.heap h' → s.heap.objs.size ≤ D → h'.PlainList D (List.toArray ys) → IntsAre ys (xs.filter pz) → Q (.ref D) { s with heap := h', toks := tk }) :
    wpAny (model prog w) A (pyIter (.ref l)) (SrcBy prog w A env scope cl x [test] (.Name x px') Q) E s := by
  have hlt : l < s.heap.objs.size := by obtain ⟨_, e, _⟩ := hl; exact Heap.lt_size e
  refine iterList hl ?_
  have up : ∀ (h' : Heap), (∀ b o', b ∉ [s.heap.objs.size] → (s.heap.push { cls := .type "list_iterator", data := .fields #[.ref l, .int 0 0] }).get? b = some o' → h'.get? b = some o') → Ext s.heap h' :=
    fun h' hk b o' e => hk b o' (not_iter_of_old e) (Heap.get?_push_of_some _ e)
  have dn : ∀ b, (s.heap.push { cls := .type "list_iterator", data := .fields #[.ref l, .int 0 0] }).objs.size ≤ b → s.heap.objs.size ≤ b := fun b hb => by rw [Heap.size_push] at hb; exact Nat.le_of_succ_le hb
  refine ⟨s.heap.objs.size, [s.heap.objs.size, l], [s.heap.objs.size], vs.toArray.size, _, _, fun _ _ ws ys _ => ys = ws.filter (keepBy pz), rfl, Walks.list hh _ l (Nat.ne_of_lt hlt) vs.toArray, (by rw [List.size_toArray, hi.length, sizeLine_eq]; omega),
    ⟨⟨_, Heap.get?_push_size _ rfl, rfl, rfl⟩, hl.at fun o e => Heap.get?_push_of_some _ e⟩, ?_, ⟨fun _ _ _ _ _ _ h _ => h, fun _ _ _ _ _ _ => rfl, ?_⟩, ?_⟩
  · intro b hb
    show b < (s.heap.push _).objs.size
    rw [Heap.size_push]
    rcases List.mem_cons.mp hb with rfl | hb
    · exact Nat.lt_succ_self _
    · rw [List.mem_singleton.mp hb]; exact Nat.lt_succ_of_lt hlt
  · intro D C ws ys v s₃ m₃ E' hD hC hDC hP hlt' hI hS hpl hns hm hkp
    have hv : vs[ws.length]? = some v := by simpa using hP
    obtain ⟨n, t, rfl, hxn⟩ := hi.at _ _ hv
    have hmem : n ∈ xs := List.mem_of_getElem? hxn
    show wpAny _ _ ((isTrue test (compEnvC scope cl C env) (eval test (compEnvC scope cl C env)) >>= fun ok => pure (ForInStep.yield ok)) >>= _) _ _ _
    refine wpAny_bind (wpAny_bind (wpAny_mono (g1 C n t s₃ m₃ E' (dn C hC) hmem hns hm (up _ hkp)) (fun ok s₄ h₄ => wpAny_pure (wpAny_pure ?_)) fun _ _ e => e))
    obtain ⟨⟨h₄, tk₄, rfl, hk₄⟩, rfl⟩ := h₄
    refine ⟨⟨h₄, tk₄, rfl, hk₄⟩, fun hp => ?_, fun hp => ?_⟩
    · refine wpAny_Name (wpAny_loadName_local (by simp [compEnvC, relabel, hk]) (lookup_relabel_local hx) (hns.keeps hk₄) hm ?_) hd
      exact ⟨⟨h₄, tk₄, rfl, fun _ _ e => e⟩, by rw [hI, List.filter_append]; simp [keepBy, hp]⟩
    · rw [hI, List.filter_append]; simp [keepBy, hp]
  · intro D C h' tk ys ws hD hC hDC hpl hlen hP hI hkp
    obtain ⟨h'', rfl, _⟩ := hI
    have e' : ws = vs := by simpa using walked_is hlen hP
    subst e'
    exact g2 D _ h' tk (up _ hkp) (dn D hD) hpl (ints_filter hi)
end

/-- sorted, as one term -/
def srt (xs : List Int) : List Int := xs.mergeSort
theorem perm_sorted_eq : ∀ {xs ys : List Int}, xs.Perm ys → xs.Pairwise (· ≤ ·) → ys.Pairwise (· ≤ ·) → xs = ys
  | [], ys, p, _, _ => (p.nil_eq)
  | x :: xs, [], p, _, _ => by have := p.length_eq; simp at this
  | x :: xs, y :: ys, p, hx, hy => by
    have hxy : x = y := by
      have h1 : x ∈ y :: ys := p.subset List.mem_cons_self
      have h2 : y ∈ x :: xs := p.symm.subset List.mem_cons_self
      rcases List.mem_cons.mp h1 with h | h
      · exact h
      · rcases List.mem_cons.mp h2 with h' | h'
        · exact h'.symm
        · have a := (List.pairwise_cons.mp hx).1 _ h'
          have b := (List.pairwise_cons.mp hy).1 _ h
          omega
    subst hxy
    rw [perm_sorted_eq (List.Perm.cons_inv p) (List.pairwise_cons.mp hx).2 (List.pairwise_cons.mp hy).2]
theorem srt_perm (xs : List Int) : (srt xs).Perm xs := List.mergeSort_perm _ _
theorem srt_sorted (xs : List Int) : (srt xs).Pairwise (· ≤ ·) := by
  have := List.pairwise_mergeSort (le := fun (a b : Int) => decide (a ≤ b)) (fun a b c h1 h2 => by simp at *; omega) (fun a b => by simp; omega) xs
  simpa [srt] using this
theorem srt_eq {xs ys : List Int} (p : ys.Perm xs) (h : ys.Pairwise (· ≤ ·)) : ys = srt xs := perm_sorted_eq (p.trans (srt_perm xs).symm) h (srt_sorted xs)

section
variable {prog : Program} {w : World} {A : Around} {E : Value → Shared → Prop} {s : Shared}
theorem sorted_c {l : Addr} {vs : List Value} {xs : List Int} {Q : Value → Shared → Prop} (hl : s.heap.IsList l vs.toArray) (hI : IntsAre vs xs) (h64 : xs.length < 64)
    (h : ∀ h' b ys, Ext s.heap h' → s.heap.objs.size ≤ b → h'.PlainList b (List.toArray ys) → IntsAre ys (srt xs) → Q (.ref b) { s with heap := h' }) :
    wpAny (model prog w) A (call (.builtin "sorted") [.ref l]) Q E s := by
  refine sorted_ints hl hI (by rw [hI.length]; exact h64) fun out ns' a1 a2 a3 => ?_
  obtain ⟨e, he⟩ := sortedAll_at s.heap vs out
  exact h _ _ out.toList (fun _ _ e => sortedAll_old e) (Nat.le_succ _) ⟨e, by simpa using he⟩ ((srt_eq a2 a3) ▸ a1)
end
end Mine

open PySem PySem.W PyProof.Rows
set_option Elab.async false
set_option linter.unusedSimpArgs false
namespace Mine
theorem gname {M : Model} {A : Around} {K : Frag} {p : Program} {loose : List Str} {mean : ExcName → Option Value} {mg mb : Str → Option Value} {env : Env} {s : Shared} {E : Value → Shared → Prop} {x : Str} {pos : Pos} {v : Value} {Q : Value → Shared → Prop}
    (X : K.In s.heap) (T : Top p loose mean mg mb s.heap) (e : nsIn K mainGlobals x = some (some v)) (hg : env.globals = mainGlobals) (hk : env.scope.kind = .function) (hx : env.kindOf x = some .globalImplicit)
    (hd : (x == ("__debug__" : Str)) = false) (h : Q v s) : wpAny M A (eval (.Name x pos) env) Q E s :=
  Calls.Name_function_global hk hx (Calls.loadGlobal_global (env := env) (by rw [hg]; exact T.g) (mg_of X T.g e) h) hd
theorem bname {M : Model} {A : Around} {K : Frag} {p : Program} {loose : List Str} {mean : ExcName → Option Value} {mg mb : Str → Option Value} {env : Env} {s : Shared} {E : Value → Shared → Prop} {x : Str} {pos : Pos} {v : Value} {Q : Value → Shared → Prop}
    (X : K.In s.heap) (T : Top p loose mean mg mb s.heap) (e : nsIn K mainGlobals x = some none) (hv : bootBuiltins x = some v) (hn : x ≠ "__name__") (hg : env.globals = mainGlobals) (hb : env.builtins = builtinsNs) (hk : env.scope.kind = .function) (hx : env.kindOf x = some .globalImplicit)
    (hd : (x == ("__debug__" : Str)) = false) (h : Q v s) : wpAny M A (eval (.Name x pos) env) Q E s :=
  Calls.Name_function_global hk hx (Calls.loadGlobal_builtin (env := env) (by rw [hg]; exact T.g) (mg_none_of X T.g e) (by rw [hb]; exact T.b) ((T.builtins x hn).trans hv) h) hd
theorem lname {M : Model} {A : Around} {env : Env} {s : Shared} {E : Value → Shared → Prop} {x : Str} {pos : Pos} {m : Str → Option Value} {v : Value} {Q : Value → Shared → Prop}
    (hn : s.heap.Ns env.locals m) (hm : m x = some v) (hk : env.scope.kind = .function) (hx : env.kindOf x = some .local) (hd : (x == ("__debug__" : Str)) = false) (h : Q v s) : wpAny M A (eval (.Name x pos) env) Q E s :=
  wpAny_Name (wpAny_loadName_local hk hx hn hm h) hd

theorem judge_test {d : Nat} {a : Addr} {pz : Int → Bool} (hJ : J d a pz) {w : World} {A : Around} {mean : ExcName → Option Value} {mg mb : Str → Option Value} {env : Env} {s : Shared} {E : Value → Shared → Prop} {f x : Str} {p1 p2 p3 : Pos} {m : Str → Option Value} {n : Int} {t : Tok} {whole : Sem Value}
    (X : (hd.heap_39 w.params).In s.heap) (T : Top hd.view_39 (looseW hd.view_39 []) mean mg mb s.heap) (hA : Rm A d)
    (e : nsIn (hd.heap_39 w.params) mainGlobals f = some (some (.ref a))) (hkp : keepIn (hd.heap_39 w.params) (.ref a) = true)
    (hg : env.globals = mainGlobals) (hk : env.scope.kind = .function) (hf : env.kindOf f = some .globalImplicit) (hfd : (f == ("__debug__" : Str)) = false)
    (hx : env.kindOf x = some .local) (hxd : (x == ("__debug__" : Str)) = false) (hn : s.heap.Ns env.locals m) (hm : m x = some (.int n t)) (hw : whole = eval (.Call (.Name f p1) [.Name x p2] [] p3) env) :
    wpAny (model Challenge.rw_mj0077_01.row.prog w) A (isTrue (.Call (.Name f p1) [.Name x p2] [] p3) env whole) (fun ok s₄ => Keeps s s₄ ∧ ok = pz n) E s := by
  subst hw
  refine wpAny_isTrue_value (Call_ (gname X T e hg hk hf hfd ?_))
  refine callWith_K X hkp (args_cons (lname hn hm hk hx hxd (args_nil ⟨X, ?_⟩)))
  refine hJ _ _ _ _ _ _ _ _ _ _ X T hA fun h' tk' g => ?_
  exact wpAny_truthy_bool ⟨⟨h', tk', rfl, g⟩, rfl⟩

/-- the codes of a list that a judge says, as a comprehension -/
theorem judgeSrc {d : Nat} {a : Addr} {pz : Int → Bool} {w : World} {A : Around} {mean : ExcName → Option Value} {mg mb : Str → Option Value} {env : Env} {s : Shared} {E : Value → Shared → Prop} {f x : Str} {p1 p2 p3 px' : Pos}
    {scope : Scope} {cl : List (Str × Addr)} {Q : Value → Shared → Prop} {l : Addr} {vs : List Value} {xs : List Int}
    (e : nsIn (hd.heap_39 w.params) mainGlobals f = some (some (.ref a))) (hkp : keepIn (hd.heap_39 w.params) (.ref a) = true) (hJ : J d a pz)
    (X : (hd.heap_39 w.params).In s.heap) (T : Top hd.view_39 (looseW hd.view_39 []) mean mg mb s.heap) (hA : Rm A d)
    (hl : s.heap.IsList l vs.toArray) (hi : IntsAre vs xs) (hn : xs.length ≤ 1000) (hg : env.globals = mainGlobals)
    (hk : scope.kind = .function) (hx : scope.names.lookup x = some .local) (hd : (x == ("__debug__" : Str)) = false)
    (hf : ∀ C, (compEnvC scope cl C env).kindOf f = some .globalImplicit) (hfd : (f == ("__debug__" : Str)) = false)
    (hx2 : ∀ C, (compEnvC scope cl C env).kindOf x = some .local)
    (g2 : ∀ D ys h' tk, Ext s.heap h' → s.heap.objs.size ≤ D → h'.PlainList D (List.toArray ys) → IntsAre ys (xs.filter pz) → Q (.ref D) { s with heap := h', toks := tk }) :
    wpAny (model Challenge.rw_mj0077_01.row.prog w) A (pyIter (.ref l)) (SrcBy Challenge.rw_mj0077_01.row.prog w A env scope cl x [.Call (.Name f p1) [.Name x p2] [] p3] (.Name x px') Q) E s :=
  srcFilter pz hA.han hl hi hn hk hx hd (fun C _ _ _ _ _ _ _ hns hm g => judge_test hJ (X.keeps g) (T.keeps g) hA e hkp hg hk (hf C) hfd (hx2 C) hd hns hm rfl) g2

theorem isInts_news {h₀ h : Heap} {L D : Addr} {news : List (Addr × Obj)} {ys : List Value} {e : Nat} {xs : List Int} (N : News h₀ L h news) (hm : (D, ({ cls := .type "list", data := .seq ys.toArray e } : Obj)) ∈ news) (hI : IntsAre ys xs) : IsInts h (.ref D) xs :=
  ⟨D, ys, rfl, ⟨_, (N _ hm).1, rfl, e, rfl⟩, hI⟩
theorem isIntss_news {h₀ h : Heap} {L D : Addr} {news : List (Addr × Obj)} {ys : List Value} {e : Nat} {xss : List (List Int)} (N : News h₀ L h news) (hm : (D, ({ cls := .type "list", data := .seq ys.toArray e } : Obj)) ∈ news) (hI : AllInts h ys xss) : IsIntss h (.ref D) xss :=
  ⟨D, ys, rfl, ⟨_, (N _ hm).1, rfl, e, rfl⟩, hI⟩
/-- the judges, in the order of the law's rows -/
def judges : List (Int → Bool) := [isalnumB, isalphaB, isasciiB, isblankB, iscntrlB, isctrlB, isdigitB, isgraphB, islowerB, ismetaB, isprintB, ispunctB, isspaceB, isupperB, isxdigitB]
def kindsOf (xs : List Int) : List (List Int) := judges.map fun p => xs.filter p
end Mine

open PySem PySem.W PyProof.Rows
set_option Elab.async false
set_option linter.unusedSimpArgs false
namespace Mine
local macro_rules | `(tactic| walk_at "m rm") => `(tactic| first | exact Rm.le (by assumption) (by decide) | exact Rm.le (Rm.deeper (by assumption)) (by decide))
local macro_rules | `(tactic| walk_at "m back") => `(tactic| (intro h' tk' g'; have F' := frExt g' (by assumption); have N' := newsExt g' (by assumption); clear g'; (try k_sweep); (try dsimp only)))
set_option maxRecDepth 100000 in
set_option maxHeartbeats 4000000 in
theorem kinds_c {w : World} {mean : ExcName → Option Value} {mg mb : Str → Option Value} {A : Around} {s : Shared} {a : Addr} {vs : List Value} {xs : List Int} {Q E : Value → Shared → Prop}
    (X : (hd.heap_39 w.params).In s.heap) (T : Top hd.view_39 (looseW hd.view_39 []) mean mg mb s.heap) (hA : Rm A 10)
    (hL : s.heap.IsList a vs.toArray) (hI : IntsAre vs xs) (hn : xs.length ≤ 100)
    (hQ : ∀ h' tk' v, Ext s.heap h' → IsIntss h' v (kindsOf xs) → Q v { s with heap := h', toks := tk' }) : wpAny (model Challenge.rw_mj0077_01.row.prog w) A (call (.ref 150) [.ref a]) Q E s := by
  revert X
  w_top off
  k_fill
  intro X
  refine' enter (binds := [(Str.ofString "page", .ref a)]) X T ?k6 ?k7 ?k8 ?k9 ?kB ?_ ?c2 ?c3 ?c4 ?c5
  ((case k6 => k_is); (case k7 => k_is); (case k8 => exact rmLt (by assumption)); (case k9 => exact BindsTo.of_eq rfl); (case kB => exact locs rfl); (case c2 => exact rfl); (case c3 => exact rfl); (case c4 => exact rfl); (case c5 => decide))
  intro L h₁ tk _ F N
  repeat' (first
    | k_dflt (
      (with_reducible show wpAny _ _ (eval (Expr.ListComp _ _ _ _) _) _ _ _)
      refine' LC_inv (cl := []) (by with_unfolding_all rfl) (by decide) (by rfl) (by decide) (by rfl) ?_ (by intro _; rfl)
      walk1
      refine' judgeSrc (by k_is) (by k_is) (by first | exact isalnum_c | exact isalpha_c | exact isascii_c | exact isblank_c | exact iscntrl_c | exact isctrl_c | exact isdigit_c | exact isgraph_c | exact islower_c | exact ismeta_c | exact isprint_c | exact ispunct_c | exact isspace_c | exact isupper_c | exact isxdigit_c) (Frag.In.keeps (by assumption) (Fr.keep (by assumption))) (Top.keeps (by assumption) (Fr.keep (by assumption))) (by walk_at "m rm") (by is_list) (by assumption) (Nat.le_trans (by assumption) (by decide : 100 ≤ 1000)) (by rfl) (by rfl) (by rfl) (by decide) (by intro _; with_unfolding_all rfl) (by decide) (by intro _; with_unfolding_all rfl) ?_
      intro D ys h' tk g fD pl hI
      (obtain ⟨e, ho⟩ := pl)
      (have F' := frExt g (by assumption))
      (have l1 := newsLt (by assumption) fD)
      (have N' := newsAdd g (by assumption) (by assumption) fD ho)
      clear g fD ho
      (try k_lt l1)
      k_sweep
      (try dsimp only))
    | walk1)
  dsimp only
  refine hQ _ _ _ (Fr.keep (by assumption)) (isIntss_news (by assumption) (by k_mem) ?_)
  repeat' (first | exact AllInts.nil | refine AllInts.cons (isInts_news (by assumption) (by k_mem) (by assumption)) ?_)
end Mine

open PySem PySem.W PyProof.Rows
set_option Elab.async false
set_option linter.unusedSimpArgs false
namespace Mine

abbrev lobj (vs : List Value) (e : Nat) : Obj := { cls := .type "list", data := .seq vs.toArray e }

/-- a list of new objects made turn by turn -/
def InvL (I : Addr) (h₂ : Heap) (rel : Value → Obj → Prop) (D C : Addr) (vs ys : List Value) (h : Heap) : Prop :=
  ∃ ps : List (Addr × Obj), ys = ps.map (fun p => .ref p.1) ∧ (∀ p ∈ ps, h.get? p.1 = some p.2 ∧ p.1 ≠ D ∧ p.1 ≠ C ∧ p.1 ≠ I ∧ h₂.objs.size ≤ p.1) ∧ (ps.map (·.1)).Nodup ∧ Paired (fun v p => rel v p.2) vs ps

section
variable {prog : Program} {w : World} {A : Around} {E : Value → Shared → Prop} {env : Env} {s : Shared}

theorem size_le_of_ext {h h' : Heap} (g : ∀ b o, h.get? b = some o → h'.get? b = some o) {a : Addr} {o : Obj} (e : h.get? a = some o) : a < h'.objs.size := Heap.lt_size (g _ _ e)

theorem compBy_lists {elt : Expr} {x : Str} {scope : Scope} {cl : List (Str × Addr)} {I : Addr} {n : Nat} {P : Nat → Value → Prop} {St : Nat → Heap → Prop} {s₂ : Shared} (rel : Value → Obj → Prop)
    (hlive : ∀ i h, St i h → ∃ o, h.get? I = some o) (hgrow : ∀ i h, St i h → s₂.heap.objs.size ≤ h.objs.size)
    (helt : ∀ C i v s₃ m₃ E', s₂.heap.objs.size ≤ C → P i v → i < n → s₃.heap.Ns C m₃ → m₃ x = some v → (∀ b o, b ≠ I → s₂.heap.get? b = some o → s₃.heap.get? b = some o) →
      wpAny (model prog w) A (eval elt (compEnvC scope cl C env)) (fun y s₄ => Keeps s₃ s₄ ∧ ∃ b o, y = .ref b ∧ s₃.heap.objs.size ≤ b ∧ s₄.heap.get? b = some o ∧ rel v o) E' s₃) :
    CompBy prog w A env scope cl x [] elt [I] n P St (InvL I s₂.heap rel) s₂ := by
  refine ⟨?_, ?_, ?_⟩
  · rintro D C vs ys h h' ⟨ps, rfl, h1, h2, h3⟩ hk
    exact ⟨ps, rfl, fun p hp => ⟨hk _ _ (h1 p hp).2.2.1 (by simpa using (h1 p hp).2.2.2.1) (h1 p hp).2.1 (h1 p hp).1, (h1 p hp).2⟩, h2, h3⟩
  · intro D C h _ _ _
    exact ⟨[], rfl, fun _ hp => (nomatch hp), .nil, .nil⟩
  · rintro D C vs ys v s₃ m₃ E' hD hC hDC hP hlt ⟨ps, rfl, h1, h2, h3⟩ hS hpl hns hm hk
    show wpAny _ _ (pure true) _ _ _
    refine wpAny_pure ⟨⟨s₃.heap, s₃.toks, rfl, fun _ _ e => e⟩, fun _ => ?_, fun e => (nomatch e)⟩
    refine wpAny_mono (helt C vs.length v s₃ m₃ E' hC hP hlt hns hm (fun b o hb e => hk b o (by simpa using hb) e)) (fun y s₄ h₄ => ?_) fun _ _ e => e
    obtain ⟨⟨h₄, tk₄, rfl, hk₄⟩, b, o, rfl, hb, hbo, hr⟩ := h₄
    refine ⟨⟨h₄, tk₄, rfl, hk₄⟩, ps ++ [(b, o)], by simp, fun p hp => ?_, ?_, Paired.snoc h3 hr⟩
    · rcases List.mem_append.mp hp with hp | hp
      · exact ⟨hk₄ _ _ (h1 p hp).1, (h1 p hp).2⟩
      · rw [List.mem_singleton.mp hp]
        obtain ⟨_, hpl⟩ := hpl
        obtain ⟨_, hnsC⟩ := ns_some hns
        obtain ⟨_, hI⟩ := hlive _ _ hS
        exact ⟨hbo, fresh_ne (fresh_le hb) hpl, fresh_ne (fresh_le hb) hnsC, fresh_ne (fresh_le hb) hI, Nat.le_trans (hgrow _ _ hS) hb⟩
    · rw [List.map_append, List.nodup_append]
      refine ⟨h2, by simp, ?_⟩
      rintro a ha c hc rfl
      obtain ⟨p, hp, rfl⟩ := List.mem_map.mp ha
      rw [List.map_singleton, List.mem_singleton] at hc
      exact fresh_ne (fresh_le hb) (h1 p hp).1 hc.symm

/-- new lists, one for each item of a list -/
theorem srcLists {elt : Expr} {x : Str} {scope : Scope} {cl : List (Str × Addr)} {Q : Value → Shared → Prop} {l : Addr} {vs : List Value} (rel : Value → Obj → Prop)
    (hh : A.handled = none) (hl : s.heap.IsList l vs.toArray) (hn : vs.length ≤ 1000)
    (g1 : ∀ C v s₃ m₃ E', s.heap.objs.size ≤ C → v ∈ vs → s₃.heap.Ns C m₃ → m₃ x = some v → Ext s.heap s₃.heap →
      wpAny (model prog w) A (eval elt (compEnvC scope cl C env)) (fun y s₄ => Keeps s₃ s₄ ∧ ∃ b o, y = .ref b ∧ s₃.heap.objs.size ≤ b ∧ s₄.heap.get? b = some o ∧ rel v o) E' s₃)
    (g2 : ∀ D ps h' tk, Ext s.heap h' → s.heap.objs.size ≤ D → h'.PlainList D (List.map (fun p : Addr × Obj => Value.ref p.1) ps).toArray → (∀ p ∈ ps, h'.get? p.1 = some p.2 ∧ p.1 ≠ D ∧ s.heap.objs.size ≤ p.1) → (ps.map (·.1)).Nodup → Paired (fun v p => rel v p.2) vs ps →
      Q (.ref D) { s with heap := h', toks := tk }) :
    wpAny (model prog w) A (pyIter (.ref l)) (SrcBy prog w A env scope cl x [] elt Q) E s := by
  have hlt : l < s.heap.objs.size := by obtain ⟨_, e, _⟩ := hl; exact Heap.lt_size e
  refine iterList hl ?_
  have upI : ∀ b o', s.heap.get? b = some o' → b ≠ s.heap.objs.size := fun b o' e => Nat.ne_of_lt (Heap.lt_size e)
  have dn : ∀ b, (s.heap.push { cls := .type "list_iterator", data := .fields #[.ref l, .int 0 0] }).objs.size ≤ b → s.heap.objs.size ≤ b := fun b hb => by rw [Heap.size_push] at hb; exact Nat.le_of_succ_le hb
  refine ⟨s.heap.objs.size, [s.heap.objs.size, l], [s.heap.objs.size], vs.toArray.size, _, _, InvL s.heap.objs.size (s.heap.push { cls := .type "list_iterator", data := .fields #[.ref l, .int 0 0] }) rel, rfl, Walks.list hh _ l (Nat.ne_of_lt hlt) vs.toArray, (by rw [List.size_toArray, sizeLine_eq]; omega),
    ⟨⟨_, Heap.get?_push_size _ rfl, rfl, rfl⟩, hl.at fun o e => Heap.get?_push_of_some _ e⟩, ?_, compBy_lists (s₂ := { s with heap := s.heap.push { cls := .type "list_iterator", data := .fields #[.ref l, .int 0 0] } }) rel ?_ ?_ ?_, ?_⟩
  · intro b hb
    show b < (s.heap.push _).objs.size
    rw [Heap.size_push]
    rcases List.mem_cons.mp hb with rfl | hb
    · exact Nat.lt_succ_self _
    · rw [List.mem_singleton.mp hb]; exact Nat.lt_succ_of_lt hlt
  · rintro i h ⟨⟨o, ho, _⟩, _⟩; exact ⟨o, ho⟩
  · rintro i h ⟨⟨o, ho, _⟩, _⟩
    show (s.heap.push _).objs.size ≤ _
    rw [Heap.size_push]; exact Heap.lt_size ho
  · intro C i v s₃ m₃ E' hC hP hi hns hm hk
    have hv : vs[i]? = some v := by simpa using hP
    exact g1 C v s₃ m₃ E' (dn _ hC) (List.mem_of_getElem? hv) hns hm fun b o e => hk b o (upI b o e) (Heap.get?_push_of_some _ e)
  · intro D C h' tk ys ws hD hC hDC hpl hlen hP hI hkp
    obtain ⟨h'', ⟨ps, rfl, h1, h2, h3⟩, hsb⟩ := hI
    have e' : ws = vs := by simpa using walked_is hlen hP
    subst e'
    refine g2 D ps h' tk (fun b o e => hkp b o (by simpa using upI b o e) (Heap.get?_push_of_some _ e)) (dn D hD) hpl (fun p hp => ⟨hsb.extBut _ _ (h1 p hp).2.2.1 (h1 p hp).1, (h1 p hp).2.1, dn _ (h1 p hp).2.2.2.2⟩) h2 h3
end
end Mine

open PySem PySem.W PyProof.Rows
set_option Elab.async false
set_option linter.unusedSimpArgs false
namespace Mine
section
variable {prog : Program} {w : World} {A : Around} {E : Value → Shared → Prop} {env : Env}

/-- new lists, one for each item of an iterator, stored under a name at once -/
theorem srcListsA {elt : Expr} {x y : Str} {scope : Scope} {cl : List (Str × Addr)} {Q : Flow → Shared → Prop} {I : Addr} {fp : List Addr} {n : Nat} {P : Nat → Value → Prop} {St : Nat → Heap → Prop} {s₂ : Shared} {h₀ : Heap} {m : Str → Option Value} {news : List (Addr × Obj)}
    (W : Walks prog w A I fp [I] n P St) (rel : Value → Obj → Prop) (hn : n ≤ 1000) (hst : St 0 s₂.heap) (hfp : ∀ b ∈ fp, b < s₂.heap.objs.size)
    (hlive : ∀ i h, St i h → ∃ o, h.get? I = some o) (hgrow : ∀ i h, St i h → s₂.heap.objs.size ≤ h.objs.size)
    (F : Fr h₀ env.locals s₂.heap m) (N : News h₀ env.locals s₂.heap news) (hI0 : h₀.get? I = none) (hIL : env.locals ≠ I) (hIN : ∀ p ∈ news, p.1 ≠ I)
    (helt : ∀ C i v s₃ m₃ E', s₂.heap.objs.size ≤ C → P i v → i < n → s₃.heap.Ns C m₃ → m₃ x = some v → (∀ b o, b ≠ I → s₂.heap.get? b = some o → s₃.heap.get? b = some o) →
      wpAny (model prog w) A (eval elt (compEnvC scope cl C env)) (fun y s₄ => Keeps s₃ s₄ ∧ ∃ b o, y = .ref b ∧ s₃.heap.objs.size ≤ b ∧ s₄.heap.get? b = some o ∧ rel v o) E' s₃)
    (g2 : ∀ D e ps h' tk (vs : List Value), Fr h₀ env.locals h' (fun z => if z = y then some (.ref D) else m z) → News h₀ env.locals h' ((D, lobj (ps.map fun p : Addr × Obj => Value.ref p.1) e) :: (ps ++ news)) →
      (∀ p ∈ news, p.1 < D) → (∀ p ∈ ps, p.1 ≠ D ∧ ∀ q ∈ news, q.1 < p.1) → (ps.map (·.1)).Nodup → vs.length = n → (∀ j v, vs[j]? = some v → P j v) → Paired (fun v p => rel v p.2) vs ps →
      Q .next { s₂ with heap := h', toks := tk }) :
    SrcByA prog w A env scope cl x y [] elt Q (.ref I) s₂ := by
  refine ⟨I, fp, [I], n, P, St, InvL I s₂.heap rel, m, rfl, W, (by rw [sizeLine_eq]; omega), hst, hfp, by simpa using hIL, F.ns, compBy_lists rel hlive hgrow helt, ?_⟩
  intro D C h' tk ys ws hD hC hDC hpl hlen hP hI hns hk
  obtain ⟨h₁, h₂, ⟨ps, rfl, h1, h2, h3⟩, hs1, hs2⟩ := hI
  obtain ⟨e, he⟩ := hpl
  obtain ⟨oL, hoL⟩ := ns_some F.ns
  have hL := Heap.lt_size hoL
  have keep0 : ∀ b o, h₀.get? b = some o → h'.get? b = some o := fun b o q => hk b o (Nat.ne_of_lt (Nat.lt_of_lt_of_le (Heap.lt_size q) F.above)) (by rintro hb; rw [List.mem_singleton] at hb; rw [hb, hI0] at q; cases q) (F.keep b o q)
  have fr0 : ∀ b, s₂.heap.objs.size ≤ b → h₀.get? b = none := fun b hb => fresh_of_ext F.keep (fresh_le hb)
  refine g2 D e ps h' tk ws ⟨hns, keep0, F.above⟩ ?_ (newsLt N hD) (fun p hp => ⟨(h1 p hp).2.1, newsLt N (h1 p hp).2.2.2.2⟩) h2 hlen hP h3
  intro p hp
  rcases List.mem_cons.mp hp with rfl | hp
  · exact ⟨by simpa using he, Nat.ne_of_gt (Nat.lt_of_lt_of_le hL hD), fr0 _ hD⟩
  · rcases List.mem_append.mp hp with hp | hp
    · have q := h1 p hp
      have hpL : p.1 ≠ env.locals := Nat.ne_of_gt (Nat.lt_of_lt_of_le hL q.2.2.2.2)
      exact ⟨hs2.extBut _ _ q.2.2.1 (hs1.extBut _ _ hpL q.1), hpL, fr0 _ q.2.2.2.2⟩
    · exact ⟨hk _ _ (N p hp).2.1 (by simpa using hIN p hp) (N p hp).1, (N p hp).2⟩
end
end Mine

open PySem PySem.W PyProof.Rows
set_option Elab.async false
set_option linter.unusedSimpArgs false
namespace Mine
section
variable {prog : Program} {w : World} {A : Around} {env : Env} {s : Shared}

/-- what a turn of a loop leaves behind -/
def TurnEnd (h₀ : Heap) (L I : Addr) (fp : List Addr) (oI : Obj) (h : Heap) (s : Shared) (J : (Str → Option Value) → List (Addr × Obj) → Prop) (Q : Flow → Shared → Prop) (f : Flow) (s₂ : Shared) : Prop :=
  match f with
  | .brk => Q .next s₂
  | .ret v => Q (.ret v) s₂
  | _ => ∃ h' tk' m' news', s₂ = { s with heap := h', toks := tk' } ∧ Fr h₀ L h' m' ∧ News h₀ L h' ((I, oI) :: news') ∧ (∀ p ∈ news', p.1 ≠ I) ∧ (∀ b ∈ fp, ∀ o, h.get? b = some o → h'.get? b = some o) ∧ J m' news'

theorem forBy {x : Str} {px : Pos} {body : List Stmt} {I : Addr} {fp : List Addr} {n : Nat} {P : Nat → Value → Prop} {St : Nat → Heap → Prop} {h₀ : Heap} {m : Str → Option Value} {news : List (Addr × Obj)} {Q : Flow → Shared → Prop} {Er : Value → Shared → Prop}
    (W : Walks prog w A I fp [I] n P St) (J : List Value → (Str → Option Value) → List (Addr × Obj) → Prop)
    (hx : env.kindOf x = some .local) (hp : (env.scope.kind == .class || (env.scope.kind == .module && env.locals != env.globals)) = false)
    (hLf : env.locals ∉ fp) (hI0 : h₀.get? I = none) (hlive : ∀ i h, St i h → ∃ o, h.get? I = some o ∧ ∀ es ep, o.data ≠ .dict es ep)
    (F : Fr h₀ env.locals s.heap m) (N : News h₀ env.locals s.heap news) (hst : St 0 s.heap) (hNI : ∀ p ∈ news, p.1 ≠ I) (h0 : J [] m news)
    (turn : ∀ vs v m₁ news₁ h tk oI E', P vs.length v → vs.length < n → (∀ j u, vs[j]? = some u → P j u) → J vs m₁ news₁ → Fr h₀ env.locals h (fun y => if y = x then some v else m₁ y) → News h₀ env.locals h ((I, oI) :: news₁) → (∀ p ∈ news₁, p.1 ≠ I) → (∀ es ep, oI.data ≠ .dict es ep) → St (vs.length + 1) h →
      wpAny (model prog w) A (execs body env) (TurnEnd h₀ env.locals I fp oI h s (J (vs ++ [v])) Q) E' { s with heap := h, toks := tk })
    (done : ∀ vs m₁ news₁ h tk, vs.length = n → (∀ j u, vs[j]? = some u → P j u) → J vs m₁ news₁ → Fr h₀ env.locals h m₁ → News h₀ env.locals h news₁ → Q .next { s with heap := h, toks := tk }) :
    codeAny (model prog w) A (.forLoop (.Name x px) (.ref I) body [] env) (fun r s' => match r with | .ok f => Q f s' | .error e => Er e s') s := by
  have hLI : env.locals ≠ I := fun e => hLf (W.sub _ (by rw [e]; exact .head _))
  refine codeAny_forLoop
    (fun k s' => ∃ h' tk m' news', ∃ vs : List Value, s' = { s with heap := h', toks := tk } ∧ St vs.length h' ∧ Fr h₀ env.locals h' m' ∧ News h₀ env.locals h' news' ∧ (∀ p ∈ news', p.1 ≠ I) ∧ (∀ j u, vs[j]? = some u → P j u) ∧
      J vs m' news' ∧ vs.length ≤ n ∧ k = n + 1 - vs.length) ?_ (n + 1)
    ⟨s.heap, s.toks, m, news, [], rfl, hst, F, N, hNI, by simp, h0, Nat.zero_le _, rfl⟩
  rintro k s' ⟨H, tk, m', news', vs, rfl, hst', F', N', hNI', hP, hJ, hi, rfl⟩
  by_cases hlt : vs.length < n
  · refine W.item vs.length _ _ _ hlt hst' fun v h₁ tk₁ hPv hst₁ hk₁ => ?_
    have kb : ∀ b o, b ≠ I → H.get? b = some o → h₁.get? b = some o := fun b o hb e => hk₁ b o (by simpa using hb) e
    have F₁ : Fr h₀ env.locals h₁ m' := ⟨F'.ns.at' fun o e => kb _ o hLI e, fun b o e => kb b o (by rintro rfl; rw [hI0] at e; cases e) (F'.keep b o e), F'.above⟩
    have N₁ : News h₀ env.locals h₁ news' := fun p hp => ⟨kb _ _ (hNI' p hp) (N' p hp).1, (N' p hp).2⟩
    refine wpAny_assign_Name (wpAny_storeName_local hx F₁.ns (fun h₂ hn₂ hs₂ => ?_) hp)
    have hst₂ : St (vs.length + 1) h₂ := W.frame _ _ _ hst₁ fun b hb o e => hs₂.extBut b o (fun h => hLf (h ▸ hb)) e
    obtain ⟨oI, hoI, hnd⟩ := hlive _ _ hst₂
    have N₂ : News h₀ env.locals h₂ ((I, oI) :: news') := fun p hp => by
      rcases List.mem_cons.mp hp with rfl | hp
      · exact ⟨hoI, Ne.symm hLI, hI0⟩
      · exact (N₁.set hs₂) p hp
    refine wpAny_mono (turn vs v m' news' h₂ _ oI _ hPv hlt hP hJ (F₁.set hn₂ hs₂) N₂ hNI' hnd hst₂) (fun f s₃ h₃ => ?_) fun _ _ e => e
    have hP' : ∀ j u, (vs ++ [v])[j]? = some u → P j u := fun j u hj => by
      rcases Nat.lt_trichotomy j vs.length with h | h | h
      · exact hP j u (by rwa [List.getElem?_append_left h] at hj)
      · subst h; simp at hj; subst hj; exact hPv
      · have hnone : (vs ++ [v])[j]? = none := List.getElem?_eq_none (by rw [List.length_append, List.length_singleton]; omega)
        rw [hnone] at hj; cases hj
    have fin : (∃ h' tk' m' news', s₃ = { s with heap := h', toks := tk' } ∧ Fr h₀ env.locals h' m' ∧ News h₀ env.locals h' ((I, oI) :: news') ∧ (∀ p ∈ news', p.1 ≠ I) ∧ (∀ b ∈ fp, ∀ o, h₂.get? b = some o → h'.get? b = some o) ∧ J (vs ++ [v]) m' news') →
        ∃ k, k < n + 1 - vs.length ∧ ∃ h' tk m' news', ∃ ws : List Value, s₃ = { s with heap := h', toks := tk } ∧ St ws.length h' ∧ Fr h₀ env.locals h' m' ∧ News h₀ env.locals h' news' ∧ (∀ p ∈ news', p.1 ≠ I) ∧ (∀ j u, ws[j]? = some u → P j u) ∧
          J ws m' news' ∧ ws.length ≤ n ∧ k = n + 1 - ws.length := by
      rintro ⟨h', tk', m'', news'', rfl, F'', N'', hI'', hfp'', hJ''⟩
      refine ⟨n + 1 - (vs.length + 1), by omega, h', tk', m'', news'', vs ++ [v], rfl, ?_, F'', fun p hp => N'' p (.tail _ hp), hI'', hP', hJ'', by rw [List.length_append, List.length_singleton]; exact hlt, by rw [List.length_append, List.length_singleton]⟩
      have := W.frame _ _ h' hst₂ hfp''
      simpa using this
    cases f with
    | next => exact fin h₃
    | cont => exact fin h₃
    | brk => exact h₃
    | ret v => exact h₃
  · have hin : vs.length = n := by omega
    refine W.done _ _ _ (hin ▸ hst') fun h₁ tk₁ hk₁ => wpAny_execs_nil ?_
    have kb : ∀ b o, b ≠ I → H.get? b = some o → h₁.get? b = some o := fun b o hb e => hk₁ b o (by simpa using hb) e
    have F₁ : Fr h₀ env.locals h₁ m' := ⟨F'.ns.at' fun o e => kb _ o hLI e, fun b o e => kb b o (by rintro rfl; rw [hI0] at e; cases e) (F'.keep b o e), F'.above⟩
    exact done vs m' news' h₁ tk₁ hin hP hJ F₁ fun p hp => ⟨kb _ _ (hNI' p hp) (N' p hp).1, (N' p hp).2⟩
end
end Mine

open PySem PySem.W PyProof.Rows
set_option Elab.async false
set_option linter.unusedSimpArgs false
namespace Mine
section
variable {prog : Program} {w : World} {A : Around} {env : Env} {s : Shared}

theorem ns_ne_list {h : Heap} {L l : Addr} {m : Str → Option Value} {vs : Array Value} (n : h.Ns L m) (x : h.IsList l vs) : L ≠ l := by
  rintro rfl
  obtain ⟨o, es, ep, ho, hd, _⟩ := n
  obtain ⟨o', ho', _, k, hd'⟩ := x
  rw [ho] at ho'; cases ho'
  rw [hd] at hd'; cases hd'

theorem turnEnd {h₀ : Heap} {L I : Addr} {fp : List Addr} {oI : Obj} {h h' : Heap} {s : Shared} {J : (Str → Option Value) → List (Addr × Obj) → Prop} {Q : Flow → Shared → Prop} {f : Flow} {tk' : Nat} {m' : Str → Option Value} {news' : List (Addr × Obj)}
    (hf : f = .next ∨ f = .cont) (F' : Fr h₀ L h' m') (N' : News h₀ L h' ((I, oI) :: news')) (hI : ∀ p ∈ news', p.1 ≠ I) (hfp : ∀ b ∈ fp, ∀ o, h.get? b = some o → h'.get? b = some o) (hJ : J m' news') :
    TurnEnd h₀ L I fp oI h s J Q f { s with heap := h', toks := tk' } := by
  rcases hf with rfl | rfl <;> exact ⟨h', tk', m', news', rfl, F', N', hI, hfp, hJ⟩

theorem walked_list {vs ws : List Value} (hlen : ws.length = vs.length) (hP : ∀ (j : Nat) (v : Value), ws[j]? = some v → vs.toArray[j]? = some v) : ws = vs := by
  have := walked_is (items := vs.toArray) (vs := ws) (by simpa using hlen) hP
  simpa using this
theorem walked_pre {vs ws : List Value} {v : Value} (hP : ∀ (j : Nat) (u : Value), ws[j]? = some u → vs.toArray[j]? = some u) (hv : vs.toArray[ws.length]? = some v) : ∃ post, vs = ws ++ v :: post := by
  have hv' : vs[ws.length]? = some v := by simpa using hv
  have hlt : ws.length < vs.length := (List.getElem?_eq_some_iff.mp hv').1
  have e1 : vs.take ws.length = ws := by
    apply List.ext_getElem?
    intro j
    rw [List.getElem?_take]
    split
    · rename_i hj
      cases e : ws[j]? with
      | none => rw [List.getElem?_eq_none_iff] at e; omega
      | some u => simpa using hP j u e
    · rename_i hj
      rw [List.getElem?_eq_none (by omega)]
  refine ⟨vs.drop (ws.length + 1), ?_⟩
  conv => lhs; rw [← List.take_append_drop ws.length vs, e1]
  rw [List.drop_eq_getElem_cons hlt]
  have : vs[ws.length] = v := by rw [List.getElem?_eq_getElem hlt] at hv'; exact Option.some.inj hv'
  rw [this]

theorem forList {x : Str} {px : Pos} {body : List Stmt} {l : Addr} {vs : List Value} {h₀ : Heap} {m : Str → Option Value} {news : List (Addr × Obj)} {Q : Flow → Shared → Prop} {E : Value → Shared → Prop}
    (J : List Value → (Str → Option Value) → List (Addr × Obj) → Prop) (hh : A.handled = none)
    (hx : env.kindOf x = some .local) (hp : (env.scope.kind == .class || (env.scope.kind == .module && env.locals != env.globals)) = false)
    (F : Fr h₀ env.locals s.heap m) (N : News h₀ env.locals s.heap news) (hl : s.heap.IsList l vs.toArray) (h0 : J [] m news)
    (turn : ∀ pre v post m₁ news₁ h tk I oI E', vs = pre ++ v :: post → J pre m₁ news₁ → Fr h₀ env.locals h (fun y => if y = x then some v else m₁ y) → News h₀ env.locals h ((I, oI) :: news₁) → (∀ p ∈ news₁, p.1 ≠ I) → (∀ es ep, oI.data ≠ .dict es ep) → h.IsList l vs.toArray → l ≠ I → s.heap.objs.size ≤ I →
      wpAny (model prog w) A (execs body env) (TurnEnd h₀ env.locals I [I, l] oI h s (J (pre ++ [v])) Q) E' { s with heap := h, toks := tk })
    (done : ∀ m₁ news₁ h tk, J vs m₁ news₁ → Fr h₀ env.locals h m₁ → News h₀ env.locals h news₁ → Q .next { s with heap := h, toks := tk }) :
    wpAny (model prog w) A (pyIter (.ref l)) (fun it s₂ => codeAny (model prog w) A (.forLoop (.Name x px) it body [] env) (fun r s' => match r with | .ok f => Q f s' | .error e => cameBackBy (model prog w) A env E e s') s₂) E s := by
  have hlt : l < s.heap.objs.size := by obtain ⟨_, e, _⟩ := hl; exact Heap.lt_size e
  have hLl := ns_ne_list F.ns hl
  obtain ⟨oL, hoL⟩ := ns_some F.ns
  have hLlt := Heap.lt_size hoL
  refine iterList hl ?_
  have W := Walks.list (prog := prog) (w := w) hh s.heap.objs.size l (Nat.ne_of_lt hlt) vs.toArray
  refine forBy (s := { s with heap := s.heap.push { cls := .type "list_iterator", data := .fields #[.ref l, .int 0 0] } }) W J hx hp ?_ ?_ ?_ (F.push _) (fun p hp => ⟨Heap.get?_push_of_some _ (N p hp).1, (N p hp).2⟩) ⟨⟨_, Heap.get?_push_size _ rfl, rfl, rfl⟩, hl.at fun o e => Heap.get?_push_of_some _ e⟩ (fun p hp => Nat.ne_of_lt (Heap.lt_size (N p hp).1)) h0 ?_ ?_
  · intro hm
    rcases List.mem_cons.mp hm with e | hm
    · exact Nat.ne_of_lt hLlt e
    · exact hLl (List.mem_singleton.mp hm)
  · exact fresh_of_ext F.keep (fresh_le (Nat.le_refl _))
  · rintro i h ⟨⟨o, ho, _, hd⟩, _⟩; exact ⟨o, ho, fun es ep q => by rw [hd] at q; cases q⟩
  · intro pre v m₁ news₁ h tk oI E' hv hi hP hJ F₁ N₁ hI hnd st
    obtain ⟨post, e⟩ := walked_pre hP hv
    exact turn pre v post m₁ news₁ h tk _ oI E' e hJ F₁ N₁ hI hnd st.2 (Nat.ne_of_lt hlt) (Nat.le_refl _)
  · intro ws m₁ news₁ h tk hlen hP hJ F₁ N₁
    have e := walked_list (by simpa using hlen) hP
    subst e
    exact done m₁ news₁ h tk hJ F₁ N₁

/-- a range of n turns from a, by ones -/
theorem forRange {x : Str} {px : Pos} {body : List Stmt} {r : Addr} {a b : Int} {t u v : Tok} {h₀ : Heap} {m : Str → Option Value} {news : List (Addr × Obj)} {Q : Flow → Shared → Prop} {E : Value → Shared → Prop} (n : Nat)
    (J : Nat → (Str → Option Value) → List (Addr × Obj) → Prop) (hh : A.handled = none)
    (hx : env.kindOf x = some .local) (hp : (env.scope.kind == .class || (env.scope.kind == .module && env.locals != env.globals)) = false)
    (F : Fr h₀ env.locals s.heap m) (N : News h₀ env.locals s.heap news) (hr : IsRange s.heap r a b 1 t u v) (hs : Builtin.Range.small a b 1 = true) (hn : Builtin.Range.rangeSize a b 1 = (n : Int)) (h0 : J 0 m news)
    (turn : ∀ i t m₁ news₁ h tk I oI E', i < n → J i m₁ news₁ → Fr h₀ env.locals h (fun y => if y = x then some (.int (a + i) t) else m₁ y) → News h₀ env.locals h ((I, oI) :: news₁) → (∀ p ∈ news₁, p.1 ≠ I) → (∀ es ep, oI.data ≠ .dict es ep) → s.heap.objs.size ≤ I →
      wpAny (model prog w) A (execs body env) (TurnEnd h₀ env.locals I [I] oI h s (J (i + 1)) Q) E' { s with heap := h, toks := tk })
    (done : ∀ m₁ news₁ h tk, J n m₁ news₁ → Fr h₀ env.locals h m₁ → News h₀ env.locals h news₁ → Q .next { s with heap := h, toks := tk }) :
    wpAny (model prog w) A (pyIter (.ref r)) (fun it s₂ => codeAny (model prog w) A (.forLoop (.Name x px) it body [] env) (fun r s' => match r with | .ok f => Q f s' | .error e => cameBackBy (model prog w) A env E e s') s₂) E s := by
  obtain ⟨oL, hoL⟩ := ns_some F.ns
  have hLlt := Heap.lt_size hoL
  refine wpAny_pyIter_range hr hs ?_
  rw [hn]
  have W := Walks.range (prog := prog) (w := w) hh s.heap.objs.size a 1 n
  refine forBy (s := { s with heap := s.heap.push { cls := .type "range_iterator", data := .fields #[rawInt a, rawInt (n : Int), rawInt 1] } }) W (fun vs m₁ news₁ => J vs.length m₁ news₁) hx hp ?_ ?_ ?_ (F.push _) (fun p hp => ⟨Heap.get?_push_of_some _ (N p hp).1, (N p hp).2⟩) (by simpa using Heap.get?_push_size _ rfl) (fun p hp => Nat.ne_of_lt (Heap.lt_size (N p hp).1)) h0 ?_ ?_
  · intro hm; exact Nat.ne_of_lt hLlt (List.mem_singleton.mp hm)
  · exact fresh_of_ext F.keep (fresh_le (Nat.le_refl _))
  · intro i h st; exact ⟨_, st, fun es ep q => by cases q⟩
  · rintro pre v m₁ news₁ h tk oI E' ⟨t, rfl⟩ hi hP hJ F₁ N₁ hI hnd st
    simp only [List.length_append, List.length_singleton]
    rw [Int.mul_one] at F₁
    exact turn pre.length t m₁ news₁ h tk _ oI E' hi hJ F₁ N₁ hI hnd (Nat.le_refl _)
  · intro ws m₁ news₁ h tk hlen hP hJ F₁ N₁
    exact done m₁ news₁ h tk (hlen ▸ hJ) F₁ N₁
end
end Mine

open PySem PySem.W PyProof.Rows
set_option Elab.async false
set_option linter.unusedSimpArgs false
namespace Mine
section
variable {prog : Program} {w : World} {A : Around} {E : Value → Shared → Prop} {s : Shared} {h₀ : Heap} {L : Addr} {m : Str → Option Value} {news : List (Addr × Obj)}
theorem listRange_c {r : Addr} {a b : Int} {t u v : Tok} {Q : Value → Shared → Prop} (n : Nat) (hh : A.handled = none) (F : Fr h₀ L s.heap m) (N : News h₀ L s.heap news)
    (hr : IsRange s.heap r a b 1 t u v) (hs : Builtin.Range.small a b 1 = true) (hn : Builtin.Range.rangeSize a b 1 = (n : Int)) (hlen : n ≤ 1000)
    (h : ∀ h' tk D ys e, Fr h₀ L h' m → News h₀ L h' ((D, ({ cls := .type "list", data := .seq (List.toArray ys) e } : Obj)) :: news) → (∀ p ∈ news, p.1 < D) → IntsAre ys (rangeInts a 1 n) → Q (.ref D) { s with heap := h', toks := tk }) :
    wpAny (model prog w) A (call (.type "list") [.ref r]) Q E s := by
  refine list_rangeD hh F N hr hs hn (by omega) fun h' tk ys F' N' g hD hl hpl hc => ?_
  obtain ⟨⟨e, he⟩, _⟩ := hpl
  exact h h' tk _ ys e F' (newsAdd g F N (Nat.le_refl _) he) (newsLt N (Nat.le_refl _)) (IntsAre.ofCarried hc)
theorem addInts_c {l b : Addr} {vs ws : List Value} {ns ms : List Int} {Q : Value → Shared → Prop} (F : Fr h₀ L s.heap m) (N : News h₀ L s.heap news) (hl : s.heap.IsList l vs.toArray) (hb : s.heap.IsList b ws.toArray)
    (hi : IntsAre vs ns) (hj : IntsAre ws ms) (hsz : ns.length + ms.length ≤ 1000)
    (h : ∀ h' D, Fr h₀ L h' m → News h₀ L h' ((D, ({ cls := .type "list", data := .seq (vs ++ ws).toArray } : Obj)) :: news) → (∀ p ∈ news, p.1 < D) → IntsAre (vs ++ ws) (ns ++ ms) → Q (.ref D) { s with heap := h' }) :
    wpAny (model prog w) A (binaryOp .Add (.ref l) (.ref b)) Q E s :=
  add_lists_ints F N hl hb hi hj (fun h' F' N' hI => h h' _ F' N' (newsLt N (Nat.le_refl _)) hI) (by rw [sizeLine_eq]; omega)
end
section
variable {w : World} {A : Around} {E : Value → Shared → Prop} {s : Shared} {h₀ : Heap} {L : Addr} {m : Str → Option Value} {news : List (Addr × Obj)} {mean : ExcName → Option Value} {mg mb : Str → Option Value} {env : Env}
/-- list(range(a, b)), a and b written as ints -/
theorem lr_eval {a b : Int} {k1 k2 : Nat} {p1 p2 p3 p4 p5 p6 : Pos} {Q : Value → Shared → Prop} (n : Nat)
    (X : (hd.heap_39 w.params).In s.heap) (T : Top hd.view_39 (looseW hd.view_39 []) mean mg mb s.heap) (hh : A.handled = none) (F : Fr h₀ L s.heap m) (N : News h₀ L s.heap news)
    (e1 : nsIn (hd.heap_39 w.params) mainGlobals (Str.ofString "list") = some none) (e2 : nsIn (hd.heap_39 w.params) mainGlobals (Str.ofString "range") = some none)
    (hg : env.globals = mainGlobals) (hb : env.builtins = builtinsNs) (hk : env.scope.kind = .function) (hx1 : env.kindOf (Str.ofString "list") = some .globalImplicit) (hx2 : env.kindOf (Str.ofString "range") = some .globalImplicit)
    (hs : Builtin.Range.small a b 1 = true) (hn : Builtin.Range.rangeSize a b 1 = (n : Int)) (hlen : n ≤ 1000)
    (h : ∀ h' tk D ys e, Fr h₀ L h' m → News h₀ L h' ((D, ({ cls := .type "list", data := .seq (List.toArray ys) e } : Obj)) :: news) → (∀ p ∈ news, p.1 < D) → IntsAre ys (rangeInts a 1 n) → Q (.ref D) { s with heap := h', toks := tk }) :
    wpAny (model Challenge.rw_mj0077_01.row.prog w) A (eval (.Call (.Name (Str.ofString "list") p1) [.Call (.Name (Str.ofString "range") p2) [.Constant (.int a) k1 p3, .Constant (.int b) k2 p4] [] p5] [] p6) env) Q E s := by
  refine Call_ (bname X T e1 boot_list (by decide) hg hb hk hx1 (by decide) ?_)
  refine Pv.callWith_type1 (args_cons ?_)
  refine Call_ (bname X T e2 boot_range (by decide) hg hb hk hx2 (by decide) ?_)
  refine Pv.callWith_type1 (args_cons ?_)
  refine wpAny_Constant_int ?_
  refine args_cons (wpAny_Constant_int (args_nil ?_))
  refine range2_rows F N fun h' tk t₁ u₁ v₁ hr F' N' g => ?_
  refine args_nil ?_
  exact listRange_c n hh F' N' hr hs hn hlen h
end
def stretchesL : List (List Int) :=
  [rangeInts 0 1 9 ++ rangeInts 14 1 18, [9], [10, 11, 12, 13], [32],
   rangeInts 33 1 15 ++ rangeInts 58 1 7 ++ rangeInts 91 1 6 ++ rangeInts 123 1 4, rangeInts 48 1 10,
   rangeInts 65 1 6, rangeInts 71 1 20, rangeInts 97 1 6, rangeInts 103 1 20, [127], rangeInts 128 1 12, rangeInts (-6) 1 6]
end Mine

open PySem PySem.W PyProof.Rows
set_option Elab.async false
set_option linter.unusedSimpArgs false
namespace Mine
local macro_rules | `(tactic| walk_at "m rm") => `(tactic| first | exact Rm.le (by assumption) (by decide) | exact Rm.le (Rm.deeper (by assumption)) (by decide))
local macro_rules | `(tactic| walk_at "m back") => `(tactic| (intro h' tk' g'; have F' := frExt g' (by assumption); have N' := newsExt g' (by assumption); clear g'; (try k_sweep); (try dsimp only)))
set_option maxRecDepth 100000 in
set_option maxHeartbeats 4000000 in
theorem stretches_c {w : World} {mean : ExcName → Option Value} {mg mb : Str → Option Value} {A : Around} {s : Shared} {Q E : Value → Shared → Prop}
    (X : (hd.heap_39 w.params).In s.heap) (T : Top hd.view_39 (looseW hd.view_39 []) mean mg mb s.heap) (hA : Rm A 1)
    (hQ : ∀ h' tk' v, Ext s.heap h' → IsIntss h' v stretchesL → Q v { s with heap := h', toks := tk' }) : wpAny (model Challenge.rw_mj0077_01.row.prog w) A (call (.ref 140) []) Q E s := by
  revert X
  w_top off
  k_fill
  intro X
  refine' enter (binds := []) X T ?k6 ?k7 ?k8 ?k9 ?kB ?_ ?c2 ?c3 ?c4 ?c5
  ((case k6 => k_is); (case k7 => k_is); (case k8 => exact rmLt (by assumption)); (case k9 => exact BindsTo.of_eq rfl); (case kB => exact locs rfl); (case c2 => exact rfl); (case c3 => exact rfl); (case c4 => exact rfl); (case c5 => decide))
  intro L h₁ tk _ F N
  repeat' (first
    | k_dflt (
      (with_reducible show wpAny _ _ (binaryOp Operator.Add (Value.ref _) (Value.ref _)) _ _ _)
      refine' addInts_c (by k_asm) (by k_asm) (by is_list) (by is_list) (by assumption) (by assumption) (by decide) ?_
      intro h' D F' N' l1 hI
      k_lt l1
      k_sweep
      (try dsimp only))
    | k_dflt (
      (with_reducible show wpAny _ _ (call (Value.type "list") [Value.ref _]) _ _ _)
      refine' listRange_c _ (by first | exact Rm.han (by assumption) | exact Rm.han (Rm.deeper (by assumption))) (by k_asm) (by k_asm) (by assumption) (by rfl) (by exact rfl) (by decide) ?_
      intro h' tk D ys e F' N' l1 hI
      k_lt l1
      k_sweep
      (try dsimp only))
    | k_dflt (
      (with_reducible show wpAny _ _ (eval (Expr.Call (Expr.Name _ _) [Expr.Call (Expr.Name _ _) [Expr.Constant _ _ _, Expr.Constant _ _ _] _ _] _ _) _) _ _ _)
      refine' lr_eval _ (Frag.In.keeps (by assumption) (Fr.keep (by assumption))) (Top.keeps (by assumption) (Fr.keep (by assumption))) (by first | exact Rm.han (by assumption) | exact Rm.han (Rm.deeper (by assumption))) (by k_asm) (by k_asm) (by k_is) (by k_is) rfl rfl rfl (by with_unfolding_all rfl) (by with_unfolding_all rfl) (by rfl) (by exact rfl) (by decide) ?_
      intro h' tk D ys e F' N' l1 hI
      k_lt l1
      k_sweep
      (try dsimp only))
    | walk1)
  dsimp only
  refine hQ _ _ _ (Fr.keep (by assumption)) (isIntss_news (by assumption) (by k_mem) ?_)
  unfold stretchesL
  repeat' (first | exact AllInts.nil | refine AllInts.cons (isInts_news (by assumption) (by k_mem) (by first | assumption | exact .cons _ _ .nil | exact .cons _ _ (.cons _ _ (.cons _ _ (.cons _ _ .nil))))) ?_)
end Mine

open PySem PySem.W PyProof.Rows
set_option Elab.async false
set_option linter.unusedSimpArgs false
namespace Mine

def Lst (p : Addr × Obj) : Prop := ∃ vs n, p.2.data = .seq vs n
/-- an exception object: its traceback entry, its context -/
def IsX (o : Obj) (tb ctx : Value) : Prop := o.cls = .type "IndexError" ∧ ∃ t, o.data = .fields #[t, tb, ctx, .none, .bool false, .none]
/-- a traceback entry: its flight -/
def IsTb (o : Obj) (fl : Value) : Prop := ∃ tvs, o.data = .fields tvs ∧ tvs[3]? = some fl

theorem frs_dict {l : List Env} {frs : List (Addr × Obj)} (Fs : TI.Frs l frs) : ∀ p ∈ frs, ∃ es ep, p.2.data = .dict es ep := Fs.dict

section
variable {M : Model} {A : Around} {E : Value → Shared → Prop} {s : Shared} {hb : Heap} {L e tb : Addr} {m : Str → Option Value} {env : Env} {l : List Env} {frs new : List (Addr × Obj)} {oe otb : Obj} {Q : Unit → Shared → Prop}

theorem ne_of_data {h : Heap} {a b : Addr} {o o' : Obj} (ha : h.get? a = some o) (hb : h.get? b = some o') (hd : o.data ≠ o'.data) : a ≠ b := by
  rintro rfl; rw [ha] at hb; cases hb; exact hd rfl

/-- the first note of a new exception in this frame -/
theorem note_c {ctx : Value} (hfr : A.frames = some (env :: l)) (hf : env.frame = some L) (hk : env.scope.kind = .function) (Fs : TI.Frs l frs) (F : Fr hb L s.heap m)
    (N : News hb L s.heap ((e, oe) :: (new ++ frs))) (hx : IsX oe .none ctx) (hnew : ∀ p ∈ new, Lst p)
    (k : ∀ h' tb oe' otb frs', TI.SameUp frs frs' → TI.Frs l frs' → Fr hb L h' m → News hb L h' ((e, oe') :: (tb, otb) :: (new ++ frs')) → IsX oe' (.ref tb) ctx → IsTb otb (rawInt L) → e ≠ tb → Q () { s with heap := h' }) :
    wpAny M A (noteFrame (.ref e) env) Q E s := by
  obtain ⟨hcls, t, hd⟩ := hx
  have he := (N _ (.head _)).1
  obtain ⟨oL, esL, epL, hL, hLd, hLr⟩ := F.ns
  have hLe : L ≠ e := Ne.symm (N _ (.head _)).2.1
  have hfs : ∀ p ∈ frs, s.heap.get? p.1 = some p.2 := fun p hp => (N p (.tail _ (List.mem_append_right _ hp))).1
  have hLf : ∀ p ∈ frs, p.1 ≠ L := fun p hp => (N p (.tail _ (List.mem_append_right _ hp))).2.1
  have hef : ∀ p ∈ frs, p.1 ≠ e := fun p hp => by
    obtain ⟨es, ep, q⟩ := Fs.dict p hp
    exact ne_of_data (hfs p hp) he (by rw [q, hd]; intro h; cases h)
  have hen : ∀ p ∈ new, p.1 ≠ e := fun p hp => by
    obtain ⟨vs, n, q⟩ := hnew p hp
    exact ne_of_data (N p (.tail _ (List.mem_append_left _ hp))).1 he (by rw [q, hd]; intro h; cases h)
  have hnf : ∀ p ∈ new, ∀ q ∈ frs, p.1 ≠ q.1 := fun p hp q hq => by
    obtain ⟨vs, n, d1⟩ := hnew p hp
    obtain ⟨es, ep, d2⟩ := Fs.dict q hq
    exact ne_of_data (N p (.tail _ (List.mem_append_left _ hp))).1 (hfs q hq) (by rw [d1, d2]; intro h; cases h)
  have hFF : s.heap.FunFrames (TI.gone s.heap (L :: frs.map (·.1))) (env :: l) :=
    Heap.FunFrames.cons (by rw [hk]; decide) hf ⟨oL, esL, epL, hL, hLd, hLr⟩ (TI.gone_none (.head _)) (Fs.fun fun p hp => ⟨hfs p hp, TI.gone_none (.tail _ (List.mem_map_of_mem hp))⟩)
  have hS : (env :: l).filterMap (·.frame) = L :: frs.map (·.1) := by rw [List.filterMap_cons, hf, Fs.addrs]
  unfold noteFrame
  simp only [hf]
  refine wpAny_bind (wpAny_field he hd (x := .none) rfl ?_)
  rw [if_neg (by decide)]
  refine wpAny_bind (wpAny_frameOf_fun hfr hFF hf fun h₁ hs₁ => ?_)
  rw [hS] at hs₁
  refine wpAny_bind (wpAny_entryPlaceOf fun pl hpl => ?_)
  unfold EntryCells.newEntry newFields
  refine wpAny_bind (wpAny_newObj_type ?_ (hpl.sizeOk5 _ _ _ _ _))
  have other : ∀ b, b ≠ L → (∀ p ∈ frs, p.1 ≠ b) → h₁.get? b = s.heap.get? b := fun b h1 h2 => hs₁.2.1 b fun hm => by
    rcases List.mem_cons.mp hm with rfl | hm
    · exact h1 rfl
    · obtain ⟨p, hp, rfl⟩ := List.mem_map.mp hm; exact h2 p hp rfl
  have he₁ : h₁.get? e = some oe := (other e (Ne.symm hLe) hef).trans he
  have hsz : 1 < (#[t, Value.none, ctx, .none, .bool false, .none] : Array Value).size := by simp
  have he₂ := Heap.get?_push_of_some (h := h₁) { cls := .type "traceback", dict := none, data := .fields ([Value.none, .ref L, .none, rawInt L, .none] ++ (if pl.isEmpty then List.replicate 6 Value.none else pl)).toArray } he₁
  refine wpAny_setField he₂ hd hsz ?_
  have hTe : h₁.objs.size ≠ e := Nat.ne_of_gt (Heap.lt_size he₁)
  have hd₃ := Obj.data_mapFields hd (·.setIfInBounds 1 (Value.ref h₁.objs.size))
  have he₃ := Heap.get?_update_self (Obj.mapFields (·.setIfInBounds 1 (Value.ref h₁.objs.size))) he₂ (Obj.isFreed_of_fields hd₃)
  have hT₃ := (Heap.get?_update_other (h₁.push { cls := .type "traceback", dict := none, data := .fields ([Value.none, .ref L, .none, rawInt L, .none] ++ (if pl.isEmpty then List.replicate 6 Value.none else pl)).toArray })
    (Obj.mapFields (·.setIfInBounds 1 (Value.ref h₁.objs.size))) (Ne.symm hTe)).trans (Heap.get?_push_size h₁ rfl)
  generalize hH : (h₁.push { cls := .type "traceback", dict := none, data := .fields ([Value.none, .ref L, .none, rawInt L, .none] ++ (if pl.isEmpty then List.replicate 6 Value.none else pl)).toArray }).update e (Obj.mapFields (·.setIfInBounds 1 (Value.ref h₁.objs.size))) = H at he₃ hT₃ ⊢
  have keep : ∀ b o, b ≠ e → h₁.get? b = some o → H.get? b = some o := fun b o hbe hb => by
    rw [← hH, Heap.get?_update_other _ _ (Ne.symm hbe)]
    exact Heap.get?_push_of_some _ hb
  obtain ⟨frs', SU, ht⟩ := TI.sameUp_of (h' := H) (frs := frs) fun p hp => by
    obtain ⟨sl, q⟩ := hs₁.2.2 p.1 p.2 (hfs p hp)
    exact ⟨sl, keep _ _ (hef p hp) q⟩
  obtain ⟨slL, hL₁⟩ := hs₁.2.2 L oL hL
  have hsize : s.heap.objs.size = h₁.objs.size := hs₁.1.symm
  have htb0 : hb.get? h₁.objs.size = none := fresh_of_ext F.keep (by rw [← hsize]; exact fresh_le (Nat.le_refl _))
  refine k H h₁.objs.size (oe.mapFields (·.setIfInBounds 1 (Value.ref h₁.objs.size))) { cls := .type "traceback", dict := none, data := .fields ([Value.none, .ref L, .none, rawInt L, .none] ++ (if pl.isEmpty then List.replicate 6 Value.none else pl)).toArray } frs' SU (Fs.up SU) ⟨⟨_, esL, epL, keep _ _ hLe hL₁, hLd, hLr⟩, fun b o q => keep b o ?_ ((other b ?_ ?_).trans (F.keep b o q)), F.above⟩ ?_ ⟨(Obj.cls_mapFields _ _).trans hcls, t, by rw [hd₃]; rfl⟩ ⟨_, rfl, by simp⟩ (Ne.symm hTe)
  · rintro rfl; rw [(N _ (.head _)).2.2] at q; cases q
  · exact Nat.ne_of_lt (Nat.lt_of_lt_of_le (Heap.lt_size q) F.above)
  · rintro p hp rfl; rw [(N p (.tail _ (List.mem_append_right _ hp))).2.2] at q; cases q
  · intro p hp
    rcases List.mem_cons.mp hp with rfl | hp
    · exact ⟨he₃, (N _ (.head _)).2⟩
    rcases List.mem_cons.mp hp with rfl | hp
    · exact ⟨hT₃, Nat.ne_of_gt (by rw [← hsize]; exact Heap.lt_size hL), htb0⟩
    rcases List.mem_append.mp hp with hp | hp
    · have q := N p (.tail _ (List.mem_append_left _ hp))
      exact ⟨keep _ _ (hen p hp) ((other _ q.2.1 fun x hx => Ne.symm (hnf p hp x hx)).trans q.1), q.2⟩
    · obtain ⟨x, hx, q'⟩ := SU.fwd p hp
      have q := (N x (.tail _ (List.mem_append_right _ hx))).2
      exact ⟨ht p hp, by rw [q']; exact q.1, by rw [q']; exact q.2⟩

/-- the exception is in flight in this very frame: nothing to note -/
theorem note_again {ctx : Value} {rest : List (Addr × Obj)} (hf : env.frame = some L) (N : News hb L s.heap ((e, oe) :: (tb, otb) :: rest)) (hx : IsX oe (.ref tb) ctx) (ht : IsTb otb (rawInt L)) (h : Q () s) :
    wpAny M A (noteFrame (.ref e) env) Q E s := by
  obtain ⟨_, t, hd⟩ := hx
  obtain ⟨tvs, hd', h3⟩ := ht
  unfold noteFrame
  simp only [hf]
  refine wpAny_bind (wpAny_field (N _ (.head _)).1 hd (x := .ref tb) rfl ?_)
  rw [if_pos (show (Value.ref tb != Value.none) = true from by simp)]
  refine wpAny_bind (wpAny_field (N _ (.tail _ (.head _))).1 hd' h3 ?_)
  rw [if_pos (show (rawInt L == rawInt L) = true from by simp)]
  exact wpAny_pure h

/-- the flight is set -/
theorem flight_c {ctx fl fl' : Value} {fr : Option Addr} {rest : List (Addr × Obj)} (hfl : fr.elim Value.none (fun f => rawInt f) = fl') (F : Fr hb L s.heap m) (N : News hb L s.heap ((e, oe) :: (tb, otb) :: rest)) (hx : IsX oe (.ref tb) ctx) (ht : IsTb otb fl) (hne : e ≠ tb)
    (hrest : ∀ p ∈ rest, ∀ vs, p.2.data ≠ .fields vs)
    (k : ∀ h' otb', Fr hb L h' m → News hb L h' ((e, oe) :: (tb, otb') :: rest) → IsTb otb' fl' → Q () { s with heap := h' }) :
    wpAny M A (setFlight (.ref e) fr) Q E s := by
  obtain ⟨_, t, hd⟩ := hx
  obtain ⟨tvs, hd', h3⟩ := ht
  have hsz : 3 < tvs.size := (Array.getElem?_eq_some_iff.mp h3).1
  have htb := N _ (.tail _ (.head _))
  unfold setFlight
  refine wpAny_bind (wpAny_field (N _ (.head _)).1 hd (x := .ref tb) rfl ?_)
  rw [if_pos (show (Value.ref tb != Value.none) = true from by simp), hfl]
  refine wpAny_setField htb.1 hd' hsz ?_
  obtain ⟨oL, esL, epL, hL, hLr⟩ := F.ns
  have hd₃ := Obj.data_mapFields hd' (·.setIfInBounds 3 fl')
  refine k _ (otb.mapFields (·.setIfInBounds 3 fl')) ⟨⟨oL, esL, epL, (Heap.get?_update_other _ _ htb.2.1).trans hL, hLr⟩, fun b o q => (Heap.get?_update_other _ _ ?_).trans (F.keep b o q), F.above⟩ ?_ ⟨_, hd₃, by simp [hsz]⟩
  · rintro rfl; rw [htb.2.2] at q; cases q
  · intro p hp
    rcases List.mem_cons.mp hp with rfl | hp
    · exact ⟨(Heap.get?_update_other _ _ (Ne.symm hne)).trans (N _ (.head _)).1, (N _ (.head _)).2⟩
    rcases List.mem_cons.mp hp with rfl | hp
    · exact ⟨Heap.get?_update_self _ htb.1 (Obj.isFreed_of_fields hd₃), htb.2⟩
    · have q := N p (.tail _ (.tail _ hp))
      exact ⟨(Heap.get?_update_other _ _ (Ne.symm (ne_of_data q.1 htb.1 (by rw [hd']; exact hrest p hp tvs)))).trans q.1, q.2⟩

theorem cameBack_c {ctx fl : Value} {rest : List (Addr × Obj)} (hf : env.frame = some L) (F : Fr hb L s.heap m) (N : News hb L s.heap ((e, oe) :: (tb, otb) :: rest)) (hx : IsX oe (.ref tb) ctx) (ht : IsTb otb fl) (hne : e ≠ tb)
    (hrest : ∀ p ∈ rest, ∀ vs, p.2.data ≠ .fields vs)
    (k : ∀ h' otb', Fr hb L h' m → News hb L h' ((e, oe) :: (tb, otb') :: rest) → IsTb otb' (rawInt L) → E (.ref e) { s with heap := h' }) :
    cameBackBy M A env E (.ref e) s := by
  unfold cameBackBy
  have hx' := hx
  obtain ⟨_, t, hd⟩ := hx
  refine wpAny_bind (wpAny_field (N _ (.head _)).1 hd (x := .ref tb) rfl ?_)
  rw [if_neg (show ¬ ((Value.ref tb == Value.none) = true) from by simp)]
  first
    | exact wpAny_bind (wpAny_pure (flight_c (by rw [hf]; rfl) F N hx' ht hne hrest k))
    | exact flight_c (by rw [hf]; rfl) F N hx' ht hne hrest k

theorem passOn_c {α : Type} {what : String} {ctx fl : Value} {rest : List (Addr × Obj)} {Q' : α → Shared → Prop} (hf : env.frame = some L) (F : Fr hb L s.heap m) (N : News hb L s.heap ((e, oe) :: (tb, otb) :: rest)) (hx : IsX oe (.ref tb) ctx) (ht : IsTb otb fl) (hne : e ≠ tb)
    (hrest : ∀ p ∈ rest, ∀ vs, p.2.data ≠ .fields vs)
    (k : ∀ h' otb', Fr hb L h' m → News hb L h' ((e, oe) :: (tb, otb') :: rest) → IsTb otb' (rawInt L) → E (.ref e) { s with heap := h' }) :
    wpAny M A (PySem.passOn what (.ref e) env : Sem α) Q' E s := by
  unfold PySem.passOn
  have hx' := hx
  obtain ⟨_, t, hd⟩ := hx
  refine wpAny_bind (wpAny_field (N _ (.head _)).1 hd (x := .ref tb) rfl ?_)
  rw [if_neg (show ¬ ((Value.ref tb == Value.none) = true) from by simp)]
  first
    | exact wpAny_bind (wpAny_pure (wpAny_bind (flight_c (by rw [hf]; rfl) F N hx' ht hne hrest fun h' o' F' N' t' => wpAny_throw (k h' o' F' N' t'))))
    | exact wpAny_bind (flight_c (by rw [hf]; rfl) F N hx' ht hne hrest fun h' o' F' N' t' => wpAny_throw (k h' o' F' N' t'))
end
end Mine

open PySem PySem.W PyProof.Rows
set_option Elab.async false
set_option linter.unusedSimpArgs false
namespace Mine
theorem entry_unchain : entryFor table "proto.unchain" = some Builtin.«proto.unchain» := entryFor_of_fast (by kernel_rfl)
section
variable {prog : Program} {w : World} {A : Around} {E : Value → Shared → Prop} {s : Shared} {α : Type}

/-- a raise while another exception, itself without a context, is handled -/
theorem raiseNew_c {e e1 : Addr} {oe o1 : Obj} {vs vs1 : Array Value} {Q : α → Shared → Prop} (hh : A.handled = some (.ref e1)) (hne : e1 ≠ e) (he1 : s.heap.get? e1 = some o1) (hd1 : o1.data = .fields vs1) (h2 : vs1[2]? = some .none)
    (he : s.heap.get? e = some oe) (hd : oe.data = .fields vs) (hsz : 2 < vs.size)
    (h : E (.ref e) { s with heap := s.heap.update e (Obj.mapFields (·.setIfInBounds 2 (.ref e1))) }) : wpAny (model prog w) A (raiseNew (.ref e) : Sem α) Q E s := by
  unfold raiseNew
  refine wpAny_bind (wpAny_handled ?_)
  rw [hh]
  have hb : (Value.ref e1 != Value.ref e) = true := by simp [hne]
  simp only [hb, if_true]
  have upd : wpAny (model prog w) A (updateField e 2 (.ref e1)) (fun _ s' => wpAny (model prog w) A (throw (.ref e) : Sem α) Q E s') E s := by
    have := wpAny_setField (M := model prog w) (A := A) (E := E) (i := 2) (x := .ref e1) he hd hsz (Q := fun _ s' => wpAny (model prog w) A (throw (.ref e) : Sem α) Q E s') (wpAny_throw h)
    simpa only [setField] using this
  refine wpAny_bind (wpAny_holding (wpAny_runValue (codeAny_builtin entry_unchain ?_)))
  show wpAny _ _ (field (.ref e1) 2 >>= _) _ _ s
  refine wpAny_bind (wpAny_field he1 hd1 h2 ?_)
  simp only [beq_self_eq_true, if_true]
  exact wpAny_pure (wpAny_bind upd)

theorem raiseWords_c {cls msg : String} {e1 : Addr} {o1 : Obj} {vs1 : Array Value} {Q : α → Shared → Prop} (hp : PlainExc cls) (hh : A.handled = some (.ref e1)) (he1 : s.heap.get? e1 = some o1) (hd1 : o1.data = .fields vs1) (h2 : vs1[2]? = some .none)
    (h : ∀ h' tk e oe t, Ext s.heap h' → s.heap.get? e = none → h'.get? e = some oe → oe.cls = .type cls → oe.data = .fields #[t, .none, .ref e1, .none, .bool false, .none] → E (.ref e) { s with heap := h', toks := tk }) :
    wpAny (model prog w) A (raiseErrorWords cls msg : Sem α) Q E s := by
  unfold raiseErrorWords
  refine wpAny_bind (wpAny_mkText (wpAny_bind ?_))
  unfold newExc newTuple
  refine wpAny_bind (wpAny_newObj_type ?_)
  refine wpAny_bind (m := firstArgMember _ _) (wpAny_of_eq (a := Value.none) (by simp only [firstArgMember, hp.first]; rfl) ?_)
  rw [hp.own]
  refine wpAny_newObj_type ?_
  have k0 : ∀ o1 o2, Ext s.heap ((s.heap.push o1).push o2) := fun o1 o2 b o q => Heap.get?_push_of_some _ (Heap.get?_push_of_some _ q)
  have hlt := Heap.lt_size he1
  refine raiseNew_c hh ?_ (k0 _ _ _ _ he1) hd1 h2 (Heap.get?_push_size _ rfl) rfl (by simp) ?_
  · rw [Heap.size_push]; exact Nat.ne_of_lt (Nat.lt_succ_of_lt hlt)
  · refine h _ _ _ _ (.ref s.heap.objs.size) (fun b o q => (Heap.get?_update_other _ _ ?_).trans (k0 _ _ _ _ q)) ?_ (Heap.get?_update_self _ (Heap.get?_push_size _ rfl) rfl) rfl ?_
    · rw [Heap.size_push]; exact Nat.ne_of_gt (Nat.lt_succ_of_lt (Heap.lt_size q))
    · exact fresh_le (by rw [Heap.size_push]; exact Nat.le_succ _)
    · simp [Obj.mapFields]

theorem raiseMade_c {cls msg : String} {e1 : Addr} {o1 : Obj} {vs1 : Array Value} {Q : α → Shared → Prop} (hp : PlainExc cls) (hh : A.handled = some (.ref e1)) (he1 : s.heap.get? e1 = some o1) (hd1 : o1.data = .fields vs1) (h2 : vs1[2]? = some .none)
    (h : ∀ h' tk e oe t, Ext s.heap h' → s.heap.get? e = none → h'.get? e = some oe → oe.cls = .type cls → oe.data = .fields #[t, .none, .ref e1, .none, .bool false, .none] → E (.ref e) { s with heap := h', toks := tk }) (hm : (msg : Str).length ≤ sizeLine := by size_fits) :
    wpAny (model prog w) A (raiseErrorMade cls msg : Sem α) Q E s := by
  unfold raiseErrorMade
  refine wpAny_bind (wpAny_mkStr (wpAny_bind ?_) hm)
  unfold newExc newTuple
  refine wpAny_bind (wpAny_newObj_type ?_)
  refine wpAny_bind (m := firstArgMember _ _) (wpAny_of_eq (a := Value.none) (by simp only [firstArgMember, hp.first]; rfl) ?_)
  rw [hp.own]
  refine wpAny_newObj_type ?_
  have k0 : ∀ o1 o2, Ext s.heap ((s.heap.push o1).push o2) := fun o1 o2 b o q => Heap.get?_push_of_some _ (Heap.get?_push_of_some _ q)
  have hlt := Heap.lt_size he1
  refine raiseNew_c hh ?_ (k0 _ _ _ _ he1) hd1 h2 (Heap.get?_push_size _ rfl) rfl (by simp) ?_
  · rw [Heap.size_push]; exact Nat.ne_of_lt (Nat.lt_succ_of_lt hlt)
  · refine h _ _ _ _ (.ref s.heap.objs.size) (fun b o q => (Heap.get?_update_other _ _ ?_).trans (k0 _ _ _ _ q)) ?_ (Heap.get?_update_self _ (Heap.get?_push_size _ rfl) rfl) rfl ?_
    · rw [Heap.size_push]; exact Nat.ne_of_gt (Nat.lt_succ_of_lt (Heap.lt_size q))
    · exact fresh_le (by rw [Heap.size_push]; exact Nat.le_succ _)
    · simp [Obj.mapFields]
end

section
variable {prog : Program} {w : World} {A : Around} {E : Value → Shared → Prop} {s : Shared}
set_option maxRecDepth 100000 in
theorem getItem_out_c {l : Addr} {items : Array Value} {k : Int} {t : Tok} {Q : Value → Shared → Prop} {e1 : Addr} {o1 : Obj} {vs1 : Array Value} (hh : A.handled = some (.ref e1)) (he1 : s.heap.get? e1 = some o1) (hd1 : o1.data = .fields vs1) (h2 : vs1[2]? = some .none)
    (hl : s.heap.IsList l items) (h0 : 0 ≤ k) (hout : (items.size : Int) ≤ k) (hlo : -(2 ^ 63) ≤ k) (hhi : k < 2 ^ 63)
    (hE : ∀ h' tk e oe t, Ext s.heap h' → s.heap.get? e = none → h'.get? e = some oe → oe.cls = .type "IndexError" → oe.data = .fields #[t, .none, .ref e1, .none, .bool false, .none] → E (.ref e) { s with heap := h', toks := tk }) :
    wpAny (model prog w) A (getItem (.ref l) (.int k t)) Q E s := by
  obtain ⟨o, ho, hc, ne, hd⟩ := id hl
  unfold getItem
  try with_reducible refine wpAny_holding ?_
  first | refine wpAny_bind (wpAny_pure ?_) | skip
  refine wpAny_bind (wpAny_sequenceKey hl.typeIs (by decide) ?_)
  refine wpAny_bind (wpAny_callSpecial?_slot (name := Str.ofString "__getitem__") hl.typeIs slot_list_getitem
    (wpAny_call_entry slot_list_getitem hl.typeIs entry_list_getitem ?_ (args_list_getitem _ _)))
  show wpAny _ _ (Builtin.List.listSubscript? (.int k t) >>= _) _ _ s
  refine wpAny_bind (wpAny_listSubscript_int (fitsIndex_both hlo hhi) ?_)
  clear hlo hhi
  obtain ⟨j, rfl⟩ : ∃ j, k = Int.ofNat j := ⟨k.toNat, by simp only [Int.ofNat_eq_natCast]; omega⟩
  have hx : items[j]? = none := Array.getElem?_eq_none (by simp only [Int.ofNat_eq_natCast] at hout; omega)
  show wpAny _ _ ((seqItemAt l j >>= fun r => pure (r.map (j, ·))) >>= _) _ _ s
  refine wpAny_bind (wpAny_bind (wpAny_seqItemAt ho hd (wpAny_pure ?_)))
  rw [hx]
  have hh' : A.in1.handled = some (.ref e1) := hh
  first
    | exact wpAny_bind (wpAny_rule (by first | exact raiseWords_c plainExc_IndexError hh' he1 hd1 h2 hE | exact raiseMade_c plainExc_IndexError hh' he1 hd1 h2 hE))
    | exact wpAny_bind (wpAny_rule (wpAny_bind (by first | exact raiseWords_c plainExc_IndexError hh' he1 hd1 h2 hE | exact raiseMade_c plainExc_IndexError hh' he1 hd1 h2 hE)))
    | exact wpAny_bind (wpAny_bind (wpAny_rule (by first | exact raiseWords_c plainExc_IndexError hh' he1 hd1 h2 hE | exact raiseMade_c plainExc_IndexError hh' he1 hd1 h2 hE)))
    | exact wpAny_rule (by first | exact raiseWords_c plainExc_IndexError hh' he1 hd1 h2 hE | exact raiseMade_c plainExc_IndexError hh' he1 hd1 h2 hE)
end
end Mine

open PySem PySem.W PyProof.Rows
set_option Elab.async false
set_option linter.unusedSimpArgs false
namespace Mine

/-- an exception just raised in this frame (L), the outer frames frs, the frame's lists by J -/
def Fresh (hb : Heap) (L : Addr) (l : List Env) (frs : List (Addr × Obj)) (C : Value → Prop) (J : (Str → Option Value) → List (Addr × Obj) → Prop) (s₀ : Shared) (x : Value) (s₂ : Shared) : Prop :=
  ∃ e oe h tk m new frs' ctx, x = .ref e ∧ s₂ = { s₀ with heap := h, toks := tk } ∧ TI.SameUp frs frs' ∧ TI.Frs l frs' ∧ Fr hb L h m ∧ News hb L h ((e, oe) :: (new ++ frs')) ∧ IsX oe .none ctx ∧ (∀ p ∈ new, Lst p) ∧ J m new ∧ C ctx
/-- an exception in flight in this frame -/
def Held (hb : Heap) (L : Addr) (l : List Env) (frs : List (Addr × Obj)) (C : Value → Prop) (J : (Str → Option Value) → List (Addr × Obj) → Prop) (s₀ : Shared) (fl : Value) (x : Value) (s₂ : Shared) : Prop :=
  ∃ e tb oe otb h tk m new frs' ctx, x = .ref e ∧ s₂ = { s₀ with heap := h, toks := tk } ∧ TI.SameUp frs frs' ∧ TI.Frs l frs' ∧ Fr hb L h m ∧ News hb L h ((e, oe) :: (tb, otb) :: (new ++ frs')) ∧ IsX oe (.ref tb) ctx ∧ IsTb otb fl ∧ e ≠ tb ∧ (∀ p ∈ new, Lst p) ∧ J m new ∧ C ctx

theorem noFields {l : List Env} {frs new : List (Addr × Obj)} (Fs : TI.Frs l frs) (hnew : ∀ p ∈ new, Lst p) : ∀ p ∈ new ++ frs, ∀ vs, p.2.data ≠ .fields vs := fun p hp vs q => by
  rcases List.mem_append.mp hp with hp | hp
  · obtain ⟨a, b, h⟩ := hnew p hp; rw [h] at q; cases q
  · obtain ⟨a, b, h⟩ := Fs.dict p hp; rw [h] at q; cases q

section
variable {prog : Program} {w : World} {A : Around} {E : Value → Shared → Prop} {s s₀ s₂ : Shared} {hb : Heap} {L : Addr} {env : Env} {l : List Env} {frs : List (Addr × Obj)} {C : Value → Prop} {J : (Str → Option Value) → List (Addr × Obj) → Prop} {x : Value}

theorem Fresh.note {M : Model} {Q : Unit → Shared → Prop} (hfr : A.frames = some (env :: l)) (hf : env.frame = some L) (hk : env.scope.kind = .function) (h : Fresh hb L l frs C J s₀ x s₂)
    (k : ∀ s₃, Held hb L l frs C J s₀ (rawInt L) x s₃ → Q () s₃) : wpAny M A (noteFrame x env) Q E s₂ := by
  obtain ⟨e, oe, h, tk, m, new, frs', ctx, rfl, rfl, SU, Fs, F, N, hx, hn, hJ, hC⟩ := h
  refine note_c hfr hf hk Fs F N hx hn fun h' tb oe' otb frs'' SU' Fs' F' N' hx' ht hne => k _ ?_
  exact ⟨e, tb, oe', otb, h', tk, m, new, frs'', ctx, rfl, rfl, SU.trans SU', Fs', F', N', hx', ht, hne, hn, hJ, hC⟩

theorem Held.again {M : Model} {Q : Unit → Shared → Prop} (hf : env.frame = some L) (h : Held hb L l frs C J s₀ (rawInt L) x s₂) (k : Q () s₂) : wpAny M A (noteFrame x env) Q E s₂ := by
  obtain ⟨e, tb, oe, otb, h, tk, m, new, frs', ctx, rfl, rfl, SU, Fs, F, N, hx, ht, hne, hn, hJ, hC⟩ := h
  exact note_again hf N hx ht k

theorem Held.flight {M : Model} {Q : Unit → Shared → Prop} {fl fl' : Value} {fr : Option Addr} (hfl : fr.elim Value.none (fun f => rawInt f) = fl') (h : Held hb L l frs C J s₀ fl x s₂) (k : ∀ s₃, Held hb L l frs C J s₀ fl' x s₃ → Q () s₃) : wpAny M A (setFlight x fr) Q E s₂ := by
  obtain ⟨e, tb, oe, otb, h, tk, m, new, frs', ctx, rfl, rfl, SU, Fs, F, N, hx, ht, hne, hn, hJ, hC⟩ := h
  refine flight_c hfl F N hx ht hne (noFields Fs hn) fun h' otb' F' N' ht' => k _ ?_
  exact ⟨e, tb, oe, otb', h', tk, m, new, frs', ctx, rfl, rfl, SU, Fs, F', N', hx, ht', hne, hn, hJ, hC⟩

theorem Held.back {M : Model} {fl : Value} (hf : env.frame = some L) (h : Held hb L l frs C J s₀ fl x s₂) (k : ∀ s₃, Held hb L l frs C J s₀ (rawInt L) x s₃ → E x s₃) : cameBackBy M A env E x s₂ := by
  obtain ⟨e, tb, oe, otb, h, tk, m, new, frs', ctx, rfl, rfl, SU, Fs, F, N, hx, ht, hne, hn, hJ, hC⟩ := h
  refine cameBack_c hf F N hx ht hne (noFields Fs hn) fun h' otb' F' N' ht' => k _ ?_
  exact ⟨e, tb, oe, otb', h', tk, m, new, frs', ctx, rfl, rfl, SU, Fs, F', N', hx, ht', hne, hn, hJ, hC⟩

/-- a while whose test is false at once, or raises -/
theorem while0 {test : Expr} {body : List Stmt} {pos : Pos} {Q : Flow → Shared → Prop} (hfr : A.frames = some (env :: l)) (hf : env.frame = some L) (hk : env.scope.kind = .function)
    (ht : ∀ E', (∀ x s₂, Fresh hb L l frs C J s₀ x s₂ → E' x s₂) → wpAny (model prog w) A (isTrue test env (eval test env)) (fun b s₂ => b = false ∧ Q .next s₂) E' s)
    (hE : ∀ x s₂, Held hb L l frs C J s₀ (rawInt L) x s₂ → E x s₂) : wpAny (model prog w) A (exec (.While test body [] pos) env) Q E s := by
  refine wpAny_While (codeAny_whileLoop (fun _ s' => s' = s) ?_ 0 rfl)
  rintro n s' rfl
  refine wpAny_mono (ht _ fun x s₂ hx => ?_) (fun b s₂ h₂ => ?_) fun _ _ e => e
  · exact hx.note hfr hf hk fun s₃ h₃ => h₃.back hf fun s₄ h₄ => hE _ _ h₄
  · obtain ⟨rfl, h⟩ := h₂
    exact wpAny_execs_nil h

/-- a fresh or a held exception comes to the handlers -/
def Raised (hb : Heap) (L : Addr) (l : List Env) (frs : List (Addr × Obj)) (C : Value → Prop) (J : (Str → Option Value) → List (Addr × Obj) → Prop) (s₀ : Shared) (x : Value) (s₂ : Shared) : Prop :=
  Fresh hb L l frs C J s₀ x s₂ ∨ Held hb L l frs C J s₀ (rawInt L) x s₂

theorem Raised.note {M : Model} {Q : Unit → Shared → Prop} (hfr : A.frames = some (env :: l)) (hf : env.frame = some L) (hk : env.scope.kind = .function) (h : Raised hb L l frs C J s₀ x s₂)
    (k : ∀ s₃, Held hb L l frs C J s₀ (rawInt L) x s₃ → Q () s₃) : wpAny M A (noteFrame x env) Q E s₂ := by
  rcases h with h | h
  · exact h.note hfr hf hk k
  · exact h.again hf (k _ h)

theorem subIE : isSubtype (.type "IndexError") (.type "BaseException") = pure true := isSubtype_of_subB (by decide +kernel)
theorem subIT : isSubtype (.type ((Manifest.find? "IndexError").elim "type" fun x => x.metatype)) (.type "tuple") = pure false := isSubtype_of_subB (by decide +kernel)
theorem subII : isSubtype (.type "IndexError") (.type "IndexError") = pure true := isSubtype_of_subB (by decide +kernel)

theorem bootIE : bootBuiltins "IndexError" = some (.type "IndexError") := by decide +kernel
/-- try: .. except IndexError: suite -/
theorem try_c {p : Program} {loose : List Str} {mean : ExcName → Option Value} {mg mb : Str → Option Value} {body : List Stmt} {b₀ : Stmt} {suite : List Stmt} {np pos pos' : Pos} {Q : Flow → Shared → Prop}
    (T : Top p loose mean mg mb hb) (hmiss : mg "IndexError" = none) (hfr : A.frames = some (env :: l)) (hf : env.frame = some L) (hk : env.scope.kind = .function) (hg : env.globals = mainGlobals) (hbl : env.builtins = builtinsNs) (hx : env.kindOf "IndexError" = some .globalImplicit)
    (hsuite : ∀ e h tk m new frs', TI.SameUp frs frs' → TI.Frs l frs' → Fr hb L h m → News hb L h (new ++ frs') → (∀ p ∈ new, Lst p) → J m new → wpAny (model prog w) (A.mark (some (.ref e))) (execs (b₀ :: suite) env) Q (fun _ _ => False) { s₀ with heap := h, toks := tk })
    (hbody : ∀ E', (∀ x s₂, Raised hb L l frs C J s₀ x s₂ → E' x s₂) → wpAny (model prog w) A (execs body env) (fun f s₁ => Q f s₁) E' s) :
    wpAny (model prog w) A (exec (.Try body [.ExceptHandler (some (.Name "IndexError" np)) none (b₀ :: suite) pos] [] [] pos') env) Q E s := by
  refine wpAny_Try_except (wpAny_mono (hbody _ fun x s₂ h₂ => ?_) (fun f s₁ h₁ => ?_) fun _ _ e => e)
  · refine h₂.note hfr hf hk fun s₃ h₃ => h₃.flight (fl' := .none) (fr := none) rfl fun s₄ h₄ => ?_
    obtain ⟨e, tb, oe, otb, h, tk, m, new, frs', ctx, rfl, rfl, SU, Fs, F, N, hxo, ht, hne, hn, hJ, hC⟩ := id h₄
    refine wpAny_handleBy_builtin (X := "IndexError") (T := "IndexError") (b := true) subIE subIT subII ?_
    refine Calls.Name_function_global (x := "IndexError") hk hx (Calls.loadGlobal_builtin (env := env) (by rw [hg]; exact T.g.keeps F.keep) hmiss (by rw [hbl]; exact T.b.keeps F.keep) ((T.builtins "IndexError" (by decide)).trans bootIE) ⟨rfl, ⟨oe, (N _ (.head _)).1, hxo.1⟩, ?_⟩) (by decide)
    · rw [if_pos rfl]
      refine h₄.flight (fl' := .none) (fr := none) rfl fun s₅ h₅ => ?_
      obtain ⟨e', tb', oe', otb', h', tk', m', new', frs'', ctx', hxe, rfl, SU', Fs', F', N', hxo', ht', hne', hn', hJ', hC'⟩ := h₅
      exact wpAny_mono (hsuite _ h' tk' m' new' frs'' SU' Fs' F' (fun p hp => N' p (.tail _ (.tail _ hp))) hn' hJ') (fun _ _ q => q) fun _ _ q => q.elim
  · cases f <;> first | exact wpAny_execs_nil h₁ | exact h₁

/-- try: body finally: suite, the body and the suite ending plainly or raising -/
theorem fin_c {J' : (Str → Option Value) → List (Addr × Obj) → Prop} {body : List Stmt} {f₀ : Stmt} {fs : List Stmt} {pos : Pos} {Q : Flow → Shared → Prop} {P : Shared → Prop}
    (hfr : A.frames = some (env :: l)) (hf : env.frame = some L) (hk : env.scope.kind = .function)
    (hbody : ∀ E', (∀ x s₂, Raised hb L l frs (· = .none) J s₀ x s₂ → E' x s₂) → wpAny (model prog w) A (execs body env) (fun f s₁ => f = .next ∧ P s₁) E' s)
    (hplain : ∀ s₁, P s₁ → ∀ E', (∀ x s₂, Raised hb L l frs (fun _ => True) J' s₀ x s₂ → E' x s₂) → wpAny (model prog w) A (execs (f₀ :: fs) env) (fun g s' => g = .next ∧ Q .next s') E' s₁)
    (hraised : ∀ e s₁, Held hb L l frs (· = .none) J s₀ .none (.ref e) s₁ → ∀ E', (∀ x s₂, Raised hb L l frs (fun _ => True) J' s₀ x s₂ → E' x s₂) →
      wpAny (model prog w) (A.mark (some (.ref e))) (execs (f₀ :: fs) env) (fun g s₂ => g = .next ∧ Held hb L l frs (fun _ => True) J' s₀ .none (.ref e) s₂) E' s₁)
    (hE : ∀ x s₂, Held hb L l frs (fun _ => True) J' s₀ (rawInt L) x s₂ → E x s₂) :
    wpAny (model prog w) A (exec (.Try body [] [] (f₀ :: fs) pos) env) Q E s := by
  have fin : ∀ x s₁, Held hb L l frs (· = .none) J s₀ (rawInt L) x s₁ → FinallyRaised prog w A E env (f₀ :: fs) Q x s₁ := by
    intro x s₁ h₁
    have hx := h₁
    obtain ⟨e, tb, oe, otb, h, tk, m, new, frs', ctx, rfl, _⟩ := hx
    refine ⟨ref_ne_byPass e, h₁.again hf (h₁.flight (fl' := .none) (fr := none) rfl fun s₂ h₂ => ?_)⟩
    refine wpAny_mono (hraised e s₂ h₂ _ fun x s₃ h₃ => ?_) (fun g s₃ h₃ => ?_) fun _ _ q => q
    · exact h₃.note (A := A.mark (some (.ref e))) hfr hf hk fun s₄ h₄ => h₄.back hf fun s₅ h₅ => hE _ _ h₅
    · obtain ⟨rfl, h₃⟩ := h₃
      obtain ⟨e', tb', oe', otb', h', tk', m', new', frs'', ctx', hxe, rfl, SU', Fs', F', N', hxo', ht', hne', hn', hJ', hC'⟩ := h₃
      cases hxe
      exact passOn_c hf F' N' hxo' ht' hne' (noFields Fs' hn') fun h'' otb'' F'' N'' ht'' => hE _ _ ⟨e, tb', oe', otb'', h'', tk', m', new', frs'', ctx', rfl, rfl, SU', Fs', F'', N'', hxo', ht'', hne', hn', hJ', hC'⟩
  refine wpAny_Try_finally (wpAny_mono (hbody _ fun x s₂ h₂ => ?_) (fun f s₁ h₁ => ?_) fun _ _ e => e)
  · exact h₂.note hfr hf hk fun s₃ h₃ => fin _ _ h₃
  · obtain ⟨rfl, h₁⟩ := h₁
    refine wpAny_execs_nil (wpAny_mono (hplain s₁ h₁ _ fun x s₂ h₂ => ?_) (fun g s₂ h₂ => ?_) fun _ _ q => q)
    · exact h₂.note hfr hf hk fun s₃ h₃ => h₃.back hf fun s₄ h₄ => hE _ _ h₄
    · obtain ⟨rfl, h₂⟩ := h₂; exact h₂
end
end Mine

open PySem PySem.W PyProof.Rows
set_option Elab.async false
set_option linter.unusedSimpArgs false
namespace Mine
theorem gone_size (h : Heap) : ∀ l : List Addr, (TI.gone h l).objs.size = h.objs.size
  | [] => rfl
  | a :: l => by
    show ((TI.gone h l).update a _).objs.size = _
    rw [Heap.size_update, gone_size h l]

/-- a def is entered, the outer frames (frs) apart: its base is the heap without them -/
theorem enterX {w : World} {A : Around} {s : Shared} {Q E : Value → Shared → Prop} {K : Frag} {p : Program} {loose : List Str} {mean : ExcName → Option Value} {mg mb : Str → Option Value} {l : List Env} {frs : List (Addr × Obj)}
    {name qual : Str} {params : Arguments} {body : List Stmt} {scope : Scope} {dV kV doc pm cdv ct oc : Value} {an od : Option Addr} {osl : Array (Option Value)} {f : Addr} {args : List Value} {binds : List (Str × Value)}
    (_Fs : TI.Frs l frs) (hat : ∀ p ∈ frs, s.heap.get? p.1 = some p.2)
    (X : K.In (TI.gone s.heap (frs.map (·.1)))) (T : Top p loose mean mg mb (TI.gone s.heap (frs.map (·.1))))
    (ho : K.lookup f = some ⟨oc, od, .func (fnOf name qual params body scope dV kV doc pm an cdv ct), osl⟩) (hcd : codeIn K cdv qual = true) (hroom : A.depth < recursionLimit)
    (hbind : BindsTo s (fnOf name qual params body scope dV kV doc pm an cdv ct) ⟨args, []⟩ binds) (hloc : ∀ y ∈ binds, scope.names.lookup y.1 = some .local)
    (h : ∀ L h₁ tk, s.heap.objs.size ≤ L → Fr (TI.gone s.heap (frs.map (·.1))) L h₁ (fun y => binds.reverse.lookup y) → News (TI.gone s.heap (frs.map (·.1))) L h₁ frs →
      wpAny (model P0 w) (A.deeper (envOf qual scope L f cdv)) (execs body (envOf qual scope L f cdv))
        (fun fl s' => Q (match fl with | .ret v => v | _ => .none) s') (fun _ _ => False)
        { s with heap := h₁, toks := tk })
    (hco : scope.isCoroutine = false) (hgen : scope.isGenerator = false) (hk : scope.kind = .function)
    (hcell : ∀ x ∈ scope.names, x.2 ≠ .cell) : wpAny (model P0 w) A (call (.ref f) args) Q E s := by
  have up : Ext (TI.gone s.heap (frs.map (·.1))) s.heap := fun b o q => (TI.gone_some q).2
  refine wpAny_call (codeAny_call_def (fd := fnOf name qual params body scope dV kV doc pm an cdv ct) (body := body) (binds := binds) hroom (up _ _ (X _ _ ho)) rfl (T.nolimit.keeps up) (codeRec_of (X.keeps up) hcd) rfl hbind hcell hloc (fun h₁ hns hk₁ => ?_) hco hgen hk)
  refine wpAny_mono (h _ h₁ _ (Nat.le_refl _) ⟨hns, fun b o q => hk₁ b o (up b o q), by rw [gone_size]; exact Nat.le_refl _⟩ fun p hp => ⟨hk₁ _ _ (hat p hp), Nat.ne_of_lt (Heap.lt_size (hat p hp)), TI.gone_none (List.mem_map_of_mem hp)⟩) (fun fl s' x => x) (fun _ _ x => x.elim)

/-- the two differences of two rising lists -/
def sdI (x : Int) (xs : List Int) (f : List Int → List Int × List Int) : List Int → List Int × List Int
  | [] => (x :: xs, [])
  | y :: ys => if x < y then (x :: (f (y :: ys)).1, (f (y :: ys)).2) else if y < x then ((sdI x xs f ys).1, y :: (sdI x xs f ys).2) else f ys
def sdiff : List Int → List Int → List Int × List Int
  | [] => fun ys => ([], ys)
  | x :: xs => sdI x xs (sdiff xs)
theorem sdiff_cons (x : Int) (xs : List Int) (y : Int) (ys : List Int) : sdiff (x :: xs) (y :: ys) =
    if x < y then (x :: (sdiff xs (y :: ys)).1, (sdiff xs (y :: ys)).2) else if y < x then ((sdiff (x :: xs) ys).1, y :: (sdiff (x :: xs) ys).2) else sdiff xs ys := rfl
theorem sdiff_nil (xs : List Int) : sdiff xs [] = (xs, []) := by cases xs <;> rfl
theorem nil_sdiff (ys : List Int) : sdiff [] ys = ([], ys) := rfl

section
variable {prog : Program} {w : World} {A : Around} {E : Value → Shared → Prop} {s : Shared} {env : Env}

theorem sub_eval {x i : Str} {p1 p2 p3 : Pos} {m : Str → Option Value} {l : Addr} {items : Array Value} {k : Int} {t : Tok} {Q : Value → Shared → Prop} (hn : s.heap.Ns env.locals m) (hk : env.scope.kind = .function)
    (hx : m x = some (.ref l)) (hxl : env.kindOf x = some .local) (hxd : (x == ("__debug__" : Str)) = false) (hi : m i = some (.int k t)) (hil : env.kindOf i = some .local) (hid : (i == ("__debug__" : Str)) = false)
    (hl : s.heap.IsList l items) (h : wpAny (model prog w) A (getItem (.ref l) (.int k t)) Q E s) : wpAny (model prog w) A (eval (.Subscript (.Name x p1) (.Name i p2) p3) env) Q E s :=
  Subscript_Name (lname hn hx hk hxl hxd (lname hn hi hk hil hid ⟨"list", _, slot_list_getitem.lookup, hl.typeIs, h⟩))

/-- extend by a list -/
theorem extend_c {D b : Addr} {its its2 : Array Value} {Q : Value → Shared → Prop} (hD : s.heap.PlainList D its) (hb : s.heap.PlainList b its2) (hz : its.size + its2.size ≤ 1000)
    (hQ : ∀ h', h'.PlainList D (its ++ its2) → Heap.SameBut D s.heap h' → Q .none { s with heap := h' }) : wpAny (model prog w) A (call (.builtin "list.extend") [.ref D, .ref b]) Q E s := by
  obtain ⟨n, hD⟩ := hD
  obtain ⟨n2, hb⟩ := hb
  refine call_meets PySem.F.slot_list_extend ⟨_, hD, rfl⟩ PySem.F.entry_list_extend (PySem.F.args_list_extend_2 _ _) (PySem.AutoSeq1.list_extend_list_list_0 D its n b its2 n2 ?_ (by rw [sizeLine_eq]; omega) (by rw [sizeLine_eq]; omega)) ⟨hD, hb, hQ _ ⟨_, Heap.get?_update_self _ hD rfl⟩ (Heap.SameBut.update ..)⟩
  have : Builtin.List.listTooLong (its.size + its2.size) = false := by
    unfold Builtin.List.listTooLong
    simp only [decide_eq_false_iff_not, sizeLine_eq]
    omega
  simp [this]
end
end Mine

open PySem PySem.W PyProof.Rows
set_option Elab.async false
set_option linter.unusedSimpArgs false
namespace Mine
abbrev upd (m : Str → Option Value) (x : Str) (v : Value) : Str → Option Value := fun y => if y = x then some v else m y
theorem upd_self {m : Str → Option Value} {x : Str} {v : Value} : upd m x v x = some v := by simp [upd]
theorem upd_ne {m : Str → Option Value} {x y : Str} {v : Value} {r : Option Value} (hne : (y == x) = false) (h : m y = r) : upd m x v y = r := by
  have : y ≠ x := by simpa using hne
  simp [upd, this, h]

/-- nothing is handled, or an exception without a context -/
def Calm (A : Around) (h : Heap) : Prop := A.handled = none ∨ ∃ e1 o1 tb1, A.handled = some (.ref e1) ∧ h.get? e1 = some o1 ∧ IsX o1 tb1 .none

section
variable {prog : Program} {w : World} {A : Around} {E : Value → Shared → Prop} {s : Shared} {env : Env} {hb : Heap} {L : Addr} {m : Str → Option Value} {news : List (Addr × Obj)}

theorem newsRaise {h' : Heap} {e : Addr} {oe : Obj} (g : Ext s.heap h') (F : Fr hb L s.heap m) (N : News hb L s.heap news) (fe : s.heap.get? e = none) (ho : h'.get? e = some oe) : News hb L h' ((e, oe) :: news) := by
  intro p hp
  rcases List.mem_cons.mp hp with rfl | hp
  · obtain ⟨oL, hL⟩ := ns_some F.ns
    exact ⟨ho, fresh_ne fe hL, fresh_of_ext F.keep fe⟩
  · exact ⟨g _ _ (N p hp).1, (N p hp).2⟩

/-- the index lies at the end: IndexError -/
theorem getOut {a : Addr} {vs : List Value} {zs : List Int} {t : Tok} {Q : Value → Shared → Prop} (hc : Calm A s.heap) (F : Fr hb L s.heap m) (N : News hb L s.heap news) (hl : s.heap.IsList a vs.toArray) (iv : IntsAre vs zs) (hz : zs.length ≤ 200)
    (h : ∀ h' tk e oe ctx, Fr hb L h' m → News hb L h' ((e, oe) :: news) → IsX oe .none ctx → (A.handled = none → ctx = .none) → E (.ref e) { s with heap := h', toks := tk }) :
    wpAny (model prog w) A (getItem (.ref a) (.int (zs.length : Int) t)) Q E s := by
  have hlen : vs.toArray.size = zs.length := by rw [List.size_toArray, iv.length]
  rcases hc with hh | ⟨e1, o1, tb1, hh, he1, _, t1, hd1⟩
  · refine wpAny_getItem_list_out hh hl (.inr (by rw [hlen]; exact Int.le_refl _)) (by omega) (by omega) fun h' tk e hx => ?_
    obtain ⟨ob, t, ho, hcls, hd⟩ := hx.there
    exact h h' tk e ob .none (frExt hx.keeps F) (newsRaise hx.keeps F N hx.new ho) ⟨hcls, t, hd⟩ fun _ => rfl
  · refine getItem_out_c hh he1 hd1 rfl hl (Int.natCast_nonneg _) (by rw [hlen]; exact Int.le_refl _) (by omega) (by omega) fun h' tk e oe t g fe ho hcls hd => ?_
    exact h h' tk e oe _ (frExt g F) (newsRaise g F N fe ho) ⟨hcls, t, hd⟩ fun q => by rw [hh] at q; cases q

theorem getIn {a : Addr} {vs : List Value} {zs : List Int} {k : Nat} {t : Tok} {z : Int} {Q : Value → Shared → Prop} (hl : s.heap.IsList a vs.toArray) (iv : IntsAre vs zs) (hz : zs.length ≤ 200) (hk : zs[k]? = some z)
    (h : ∀ t', Q (.int z t') s) : wpAny (model prog w) A (getItem (.ref a) (.int (k : Int) t)) Q E s := by
  obtain ⟨t', ht⟩ := iv.get k z hk
  have hlt := (List.getElem?_eq_some_iff.mp hk).1
  exact wpAny_getItem_list hl (Int.natCast_nonneg _) (by omega) (by simpa using ht) (h t')

/-- y = x[i] -/
theorem asgSub {x i y : Str} {p1 p2 p3 py pos : Pos} {a : Addr} {vs : List Value} {zs : List Int} {k : Nat} {t : Tok} {Q : Flow → Shared → Prop}
    (hL : env.locals = L) (hkd : env.scope.kind = .function) (hc : Calm A s.heap) (F : Fr hb L s.heap m) (N : News hb L s.heap news) (hx : m x = some (.ref a)) (hi : m i = some (.int (k : Int) t)) (hl : hb.IsList a vs.toArray) (iv : IntsAre vs zs) (hz : zs.length ≤ 200) (hk : k ≤ zs.length)
    (hin : ∀ z t' h' tk', zs[k]? = some z → Fr hb L h' (upd m y (.int z t')) → News hb L h' news → Q .next { s with heap := h', toks := tk' })
    (hout : ∀ h' tk e oe ctx, k = zs.length → Fr hb L h' m → News hb L h' ((e, oe) :: news) → IsX oe .none ctx → (A.handled = none → ctx = .none) → E (.ref e) { s with heap := h', toks := tk })
    (hxl : env.kindOf x = some .local := by rfl) (hil : env.kindOf i = some .local := by rfl) (hyl : env.kindOf y = some .local := by rfl)
    (hxd : (x == ("__debug__" : Str)) = false := by decide) (hid : (i == ("__debug__" : Str)) = false := by decide)
    (hs : swapsWith (.Subscript (.Name x p1) (.Name i p2) p3) (some (.Name y py)) pos.line env = pure false := by rfl) :
    wpAny (model prog w) A (exec (.Assign [.Name y py] (.Subscript (.Name x p1) (.Name i p2) p3) pos) env) Q E s := by
  subst hL
  have hl' : s.heap.IsList a vs.toArray := isList_ext F.keep hl
  refine wpAny_Assign_Name (sub_eval F.ns hkd hx hxl hxd hi hil hid hl' ?_) hs
  rcases Nat.lt_or_ge k zs.length with hlt | hge
  · refine getIn hl' iv hz (z := zs[k]) (by simp [hlt]) fun t' => ?_
    exact wpAny_storeName_local hyl F.ns (fun h' hn hs => hin _ t' h' _ (by simp [hlt]) (F.set hn hs) (N.set hs)) (by rw [hkd]; rfl)
  · obtain rfl : k = zs.length := Nat.le_antisymm hk hge
    exact getOut hc F N hl' iv hz fun h' tk e oe ctx F' N' hx' hcx => hout h' tk e oe ctx rfl F' N' hx' hcx

/-- x[i] == y -/
theorem testSub {x i y : Str} {p1 p2 p3 py pos : Pos} {a : Addr} {vs : List Value} {zs : List Int} {k : Nat} {t t2 : Tok} {v : Int} {Q : Bool → Shared → Prop}
    (hL : env.locals = L) (hkd : env.scope.kind = .function) (hc : Calm A s.heap) (F : Fr hb L s.heap m) (N : News hb L s.heap news) (hx : m x = some (.ref a)) (hi : m i = some (.int (k : Int) t)) (hy : m y = some (.int v t2)) (hl : hb.IsList a vs.toArray) (iv : IntsAre vs zs) (hz : zs.length ≤ 200) (hk : k ≤ zs.length)
    (hin : ∀ z, zs[k]? = some z → Q (z == v) s)
    (hout : ∀ h' tk e oe ctx, k = zs.length → Fr hb L h' m → News hb L h' ((e, oe) :: news) → IsX oe .none ctx → (A.handled = none → ctx = .none) → E (.ref e) { s with heap := h', toks := tk })
    (hxl : env.kindOf x = some .local := by rfl) (hil : env.kindOf i = some .local := by rfl) (hyl : env.kindOf y = some .local := by rfl)
    (hxd : (x == ("__debug__" : Str)) = false := by decide) (hid : (i == ("__debug__" : Str)) = false := by decide) (hyd : (y == ("__debug__" : Str)) = false := by decide) :
    wpAny (model prog w) A (isTrue (.Compare (.Subscript (.Name x p1) (.Name i p2) p3) [.Eq] [.Name y py] pos) env (eval (.Compare (.Subscript (.Name x p1) (.Name i p2) p3) [.Eq] [.Name y py] pos) env)) Q E s := by
  subst hL
  have hl' : s.heap.IsList a vs.toArray := isList_ext F.keep hl
  refine wpAny_isTrue_Compare1 (sub_eval F.ns hkd hx hxl hxd hi hil hid hl' ?_)
  rcases Nat.lt_or_ge k zs.length with hlt | hge
  · refine getIn hl' iv hz (z := zs[k]) (by simp [hlt]) fun t' => ?_
    exact lname F.ns hy hkd hyl hyd (eq_int (wpAny_truthy_bool (hin _ (by simp [hlt]))))
  · obtain rfl : k = zs.length := Nat.le_antisymm hk hge
    exact getOut hc F N hl' iv hz fun h' tk e oe ctx F' N' hx' hcx => hout h' tk e oe ctx rfl F' N' hx' hcx

/-- i += 1 -/
theorem incr {i : Str} {p1 p2 pos : Pos} {k : Nat} {c : Nat} {t : Tok} {Q : Flow → Shared → Prop} (hL : env.locals = L) (hkd : env.scope.kind = .function) (F : Fr hb L s.heap m) (N : News hb L s.heap news) (hi : m i = some (.int (k : Int) t))
    (h : ∀ t' h' tk', Fr hb L h' (upd m i (.int ((k + 1 : Nat) : Int) t')) → News hb L h' news → Q .next { s with heap := h', toks := tk' })
    (hil : env.kindOf i = some .local := by rfl) :
    wpAny (model prog w) A (exec (.AugAssign (.Name i p1) .Add (.Constant (.int 1) c p2) pos) env) Q E s := by
  subst hL
  refine wpAny_AugAssign_Name (wpAny_loadName_local hkd hil F.ns hi (wpAny_Constant_int (iadd_int ?_)))
  refine wpAny_storeName_local (s := { s with toks := s.toks + 1 + 1 }) hil F.ns (fun h' hn hs => ?_) (by rw [hkd]; rfl)
  exact h _ h' _ (by push_cast; exact F.set hn hs) (N.set hs)

/-- x.append(y): the list lies on the ledger -/
theorem append_c {pl : Sem Bool} {x y : Str} {p1 p2 p3 p4 pos : Pos} {D : Addr} {vs : List Value} {e : Nat} {v : Value} {pre post : List (Addr × Obj)} {Q : Flow → Shared → Prop} (hL : env.locals = L) (hkd : env.scope.kind = .function) (F : Fr hb L s.heap m)
    (N : News hb L s.heap (pre ++ (D, lobj vs e) :: post)) (h1 : ∀ p ∈ pre, p.1 ≠ D) (h2 : ∀ p ∈ post, p.1 ≠ D) (hx : m x = some (.ref D)) (hy : m y = some v) (hz : vs.length ≤ 1000)
    (h : ∀ e' h', Fr hb L h' m → News hb L h' (pre ++ (D, lobj (vs ++ [v]) e') :: post) → Q .next { s with heap := h' })
    (hxl : env.kindOf x = some .local := by rfl) (hyl : env.kindOf y = some .local := by rfl) (hxd : (x == ("__debug__" : Str)) = false := by decide) (hyd : (y == ("__debug__" : Str)) = false := by decide)
    (hi : interactive env = false := by rfl) (hs : swapsWith (.Call (.Attribute (.Name x p1) (Str.ofString "append") p2) [.Name y p3] [] p4) none pos.line env = pure false := by rfl)
    (he : eval (.Call (.Attribute (.Name x p1) (Str.ofString "append") p2) [.Name y p3] [] p4) env = (do
      let ov ← eval (.Name x p1) env
      standAt p2.atName
      let (f, first) ← holding [ov] (getMethod ov (Str.ofString "append") pl)
      callWith p4 f first (backTo p4 (starEach [.Name y p3] env)) []) := by rfl) :
    wpAny (model prog w) A (exec (.Expr (.Call (.Attribute (.Name x p1) (Str.ofString "append") p2) [.Name y p3] [] p4) pos) env) Q E s := by
  subst hL
  have hD := N (D, lobj vs e) (List.mem_append.mpr (.inr (.head _)))
  refine wpAny_Expr_any (MethodCall_ (lname F.ns hx hkd hxl hxd (listMethod_K N (List.mem_append.mpr (.inr (.head _))) PySem.F.slot_list_append PySem.F.type_list_append ?_)) he) hi hs
  refine Calls.callWith_builtin (by rfl) (Calls.evalArgs_plain (args_cons (lname F.ns hy hkd hyl hyd (args_nil ?_))))
  refine wpAny_list_append_plain (hsz := by rw [List.size_toArray, sizeLine_eq]; omega) ⟨e, hD.1⟩ fun h' hp hsb => ?_
  obtain ⟨e', he'⟩ := hp
  exact h e' h' (F.change hsb hD.2.1 hD.2.2) (news_set N h1 h2 hsb (by rw [he']; simp))
end
end Mine

open PySem PySem.W PyProof.Rows
set_option Elab.async false
set_option linter.unusedSimpArgs false
namespace Mine
section
variable {prog : Program} {w : World} {A : Around} {E : Value → Shared → Prop} {s : Shared} {env : Env} {hb : Heap} {L : Addr} {m : Str → Option Value} {news : List (Addr × Obj)}

/-- x.extend(y[i:]): the list lies on the ledger -/
theorem extSlice {pl : Sem Bool} {x y i : Str} {p1 p2 p3 p4 p5 p6 p7 pos : Pos} {D a : Addr} {vs ws : List Value} {e k : Nat} {t : Tok} {pre post : List (Addr × Obj)} {Q : Flow → Shared → Prop} (hL : env.locals = L) (hkd : env.scope.kind = .function) (F : Fr hb L s.heap m)
    (N : News hb L s.heap (pre ++ (D, lobj vs e) :: post)) (h1 : ∀ p ∈ pre, p.1 ≠ D) (h2 : ∀ p ∈ post, p.1 ≠ D) (hx : m x = some (.ref D)) (hy : m y = some (.ref a)) (hi' : m i = some (.int (k : Int) t)) (hl : hb.IsList a ws.toArray) (hz : vs.length + ws.length ≤ 900)
    (h : ∀ e' h', Fr hb L h' m → News hb L h' (pre ++ (D, lobj (vs ++ ws.drop k) e') :: post) → Q .next { s with heap := h' })
    (hxl : env.kindOf x = some .local := by rfl) (hyl : env.kindOf y = some .local := by rfl) (hil : env.kindOf i = some .local := by rfl) (hxd : (x == ("__debug__" : Str)) = false := by decide) (hyd : (y == ("__debug__" : Str)) = false := by decide) (hid : (i == ("__debug__" : Str)) = false := by decide)
    (hi : interactive env = false := by rfl) (hs : swapsWith (.Call (.Attribute (.Name x p1) (Str.ofString "extend") p2) [.Subscript (.Name y p3) (.Slice (some (.Name i p5)) none none p6) p7] [] p4) none pos.line env = pure false := by rfl)
    (he : eval (.Call (.Attribute (.Name x p1) (Str.ofString "extend") p2) [.Subscript (.Name y p3) (.Slice (some (.Name i p5)) none none p6) p7] [] p4) env = (do
      let ov ← eval (.Name x p1) env
      standAt p2.atName
      let (f, first) ← holding [ov] (getMethod ov (Str.ofString "extend") pl)
      callWith p4 f first (backTo p4 (starEach [.Subscript (.Name y p3) (.Slice (some (.Name i p5)) none none p6) p7] env)) []) := by rfl) :
    wpAny (model prog w) A (exec (.Expr (.Call (.Attribute (.Name x p1) (Str.ofString "extend") p2) [.Subscript (.Name y p3) (.Slice (some (.Name i p5)) none none p6) p7] [] p4) pos) env) Q E s := by
  subst hL
  have hl' : s.heap.IsList a ws.toArray := isList_ext F.keep hl
  have hD := N (D, lobj vs e) (List.mem_append.mpr (.inr (.head _)))
  refine wpAny_Expr_any (MethodCall_ (lname F.ns hx hkd hxl hxd (kl_method N (List.mem_append.mpr (.inr (.head _))) PySem.F.slot_list_extend PySem.F.type_list_extend ?_)) he) hi hs
  have he2 : starEach [.Subscript (.Name y p3) (.Slice (some (.Name i p5)) none none p6) p7] env = (false, eval (.Subscript (.Name y p3) (.Slice (some (.Name i p5)) none none p6) p7) env) :: starEach [] env := rfl
  rw [he2]
  refine Calls.callWith_builtin (by rfl) (Calls.evalArgs_plain (Calls.spliced_cons ?_))
  refine wpAny_Subscript_Slice slot_list_getitem.lookup (lname F.ns hy hkd hyl hyd (wpAny_Slice ?_))
  rw [evalPart_some, evalPart_none]
  refine lname F.ns hi' hkd hil hid (wpAny_pure (wpAny_pure ⟨(hl'.push _).typeIs, ?_⟩))
  refine wpAny_getItem_list_slice (hl'.push _) (Heap.IsSliceOf.new ..) (.int _ _) .none .none (by simp) (args_nil ?_) (by rw [List.size_toArray, sizeLine_eq]; omega)
  rw [slicePick_from']
  dsimp only
  have k0 : ∀ o1 o2, Ext s.heap ((s.heap.push o1).push o2) := fun o1 o2 b o q => Heap.get?_push_of_some _ (Heap.get?_push_of_some _ q)
  refine extend_c (its := vs.toArray) (its2 := (ws.drop k).toArray) ⟨e, k0 _ _ _ _ hD.1⟩ ⟨0, Heap.get?_push_size _ rfl⟩ (by simp only [List.size_toArray, List.length_drop]; omega) fun h' hp hsb => ?_
  obtain ⟨e', he'⟩ := hp
  exact h e' h' ((frExt (k0 _ _) F).change hsb hD.2.1 hD.2.2) (news_set (newsExt (k0 _ _) N) h1 h2 hsb (by rw [he']; simp))
end

/-- where sorted_list_difference stands: its locals, its two lists, what is left -/
structure SJ (ax ay M U : Addr) (xs ys : List Int) (i j : Nat) (ms us : List Int) (m : Str → Option Value) (new : List (Addr × Obj)) : Prop where
  mx : m (Str.ofString "expected") = some (.ref ax)
  my : m (Str.ofString "actual") = some (.ref ay)
  mi : ∃ t, m (Str.ofString "i") = some (.int (i : Int) t)
  mj : ∃ t, m (Str.ofString "j") = some (.int (j : Int) t)
  mM : m (Str.ofString "missing") = some (.ref M)
  mU : m (Str.ofString "unexpected") = some (.ref U)
  ne : M ≠ U
  led : ∃ vM eM vU eU, new = [(M, lobj vM eM), (U, lobj vU eU)] ∧ IntsAre vM ms ∧ IntsAre vU us
  hi : i ≤ xs.length
  hj : j ≤ ys.length
  lm : ms.length ≤ i
  lu : us.length ≤ j
  rem : (ms ++ (sdiff (xs.drop i) (ys.drop j)).1, us ++ (sdiff (xs.drop i) (ys.drop j)).2) = sdiff xs ys

theorem SJ.lst {ax ay M U : Addr} {xs ys : List Int} {i j : Nat} {ms us : List Int} {m : Str → Option Value} {new : List (Addr × Obj)} (h : SJ ax ay M U xs ys i j ms us m new) : ∀ p ∈ new, Lst p := by
  obtain ⟨vM, eM, vU, eU, rfl, _, _⟩ := h.led
  intro p hp
  rcases List.mem_cons.mp hp with rfl | hp
  · exact ⟨_, _, rfl⟩
  · rw [List.mem_singleton.mp hp]; exact ⟨_, _, rfl⟩

/-- the end: one of the two lists is used up -/
def SE (ax ay M U : Addr) (xs ys : List Int) (m : Str → Option Value) (new : List (Addr × Obj)) : Prop :=
  ∃ i j ms us, SJ ax ay M U xs ys i j ms us m new ∧ (i = xs.length ∨ j = ys.length)

theorem drop_cons {xs : List Int} {i : Nat} {x : Int} (h : xs[i]? = some x) : xs.drop i = x :: xs.drop (i + 1) := by
  obtain ⟨hlt, rfl⟩ := List.getElem?_eq_some_iff.mp h
  exact List.drop_eq_getElem_cons hlt
theorem next_ne {xs : List Int} {i : Nat} {x z : Int} (s : xs.Pairwise (· < ·)) (h : xs[i]? = some x) (hz : xs[i + 1]? = some z) : (z == x) = false := by
  obtain ⟨h1, rfl⟩ := List.getElem?_eq_some_iff.mp h
  obtain ⟨h2, rfl⟩ := List.getElem?_eq_some_iff.mp hz
  have := List.pairwise_iff_getElem.mp s i (i + 1) h1 h2 (Nat.lt_succ_self i)
  simp; omega

theorem SJ.store {ax ay M U : Addr} {xs ys : List Int} {i j : Nat} {ms us : List Int} {m : Str → Option Value} {new : List (Addr × Obj)} (h : SJ ax ay M U xs ys i j ms us m new) {y : Str} (v : Value) (hy : y = Str.ofString "e" ∨ y = Str.ofString "a") :
    SJ ax ay M U xs ys i j ms us (upd m y v) new := by
  obtain ⟨ti, hi⟩ := h.mi
  obtain ⟨tj, hj⟩ := h.mj
  rcases hy with rfl | rfl
  · exact ⟨upd_ne (by decide) h.mx, upd_ne (by decide) h.my, ⟨ti, upd_ne (by decide) hi⟩, ⟨tj, upd_ne (by decide) hj⟩, upd_ne (by decide) h.mM, upd_ne (by decide) h.mU, h.ne, h.led, h.hi, h.hj, h.lm, h.lu, h.rem⟩
  · exact ⟨upd_ne (by decide) h.mx, upd_ne (by decide) h.my, ⟨ti, upd_ne (by decide) hi⟩, ⟨tj, upd_ne (by decide) hj⟩, upd_ne (by decide) h.mM, upd_ne (by decide) h.mU, h.ne, h.led, h.hi, h.hj, h.lm, h.lu, h.rem⟩

/-- the same where j is still to be raised -/
structure SP (ax ay M U : Addr) (xs ys : List Int) (y : Int) (i j : Nat) (ms us : List Int) (m : Str → Option Value) (new : List (Addr × Obj)) : Prop where
  mx : m (Str.ofString "expected") = some (.ref ax)
  my : m (Str.ofString "actual") = some (.ref ay)
  mi : ∃ t, m (Str.ofString "i") = some (.int (i : Int) t)
  mj : ∃ t, m (Str.ofString "j") = some (.int (j : Int) t)
  ma : ∃ t, m (Str.ofString "a") = some (.int y t)
  mM : m (Str.ofString "missing") = some (.ref M)
  mU : m (Str.ofString "unexpected") = some (.ref U)
  ne : M ≠ U
  led : ∃ vM eM vU eU, new = [(M, lobj vM eM), (U, lobj vU eU)] ∧ IntsAre vM ms ∧ IntsAre vU us
  hi : i ≤ xs.length
  hj : ys[j]? = some y
  lm : ms.length ≤ i
  lu : us.length ≤ j
  rem : (ms ++ (sdiff (xs.drop i) (ys.drop (j + 1))).1, us ++ (sdiff (xs.drop i) (ys.drop (j + 1))).2) = sdiff xs ys
theorem SP.next {ax ay M U : Addr} {xs ys : List Int} {y : Int} {i j : Nat} {ms us : List Int} {m : Str → Option Value} {new : List (Addr × Obj)} (h : SP ax ay M U xs ys y i j ms us m new) (t : Tok) :
    SJ ax ay M U xs ys i (j + 1) ms us (upd m (Str.ofString "j") (.int ((j + 1 : Nat) : Int) t)) new := by
  obtain ⟨ti, hi⟩ := h.mi
  exact ⟨upd_ne (by decide) h.mx, upd_ne (by decide) h.my, ⟨ti, upd_ne (by decide) hi⟩, ⟨t, upd_self⟩, upd_ne (by decide) h.mM, upd_ne (by decide) h.mU, h.ne, h.led, h.hi, (List.getElem?_eq_some_iff.mp h.hj).1, h.lm, Nat.le_succ_of_le h.lu, h.rem⟩
theorem SP.lst {ax ay M U : Addr} {xs ys : List Int} {y : Int} {i j : Nat} {ms us : List Int} {m : Str → Option Value} {new : List (Addr × Obj)} (h : SP ax ay M U xs ys y i j ms us m new) : ∀ p ∈ new, Lst p := by
  obtain ⟨vM, eM, vU, eU, rfl, _, _⟩ := h.led
  intro p hp
  rcases List.mem_cons.mp hp with rfl | hp
  · exact ⟨_, _, rfl⟩
  · rw [List.mem_singleton.mp hp]; exact ⟨_, _, rfl⟩
end Mine

open PySem PySem.W PyProof.Rows
set_option Elab.async false
set_option linter.unusedSimpArgs false
namespace Mine
local macro_rules | `(tactic| walk_at "m rm") => `(tactic| first | exact Rm.le (by assumption) (by decide) | exact Rm.le (Rm.deeper (by assumption)) (by decide))
local macro_rules | `(tactic| walk_at "m back") => `(tactic| (intro h' tk' g'; have F' := frExt g' (by assumption); have N' := newsExt g' (by assumption); clear g'; (try k_sweep); (try dsimp only)))
/-- the loop's invariant -/
def SI (s : Shared) (hb : Heap) (L : Addr) (l : List Env) (frs : List (Addr × Obj)) (ax ay M U : Addr) (xs ys : List Int) (n : Nat) (s' : Shared) : Prop :=
  ∃ h tk m new frs' i j ms us, s' = { s with heap := h, toks := tk } ∧ TI.SameUp frs frs' ∧ TI.Frs l frs' ∧ Fr hb L h m ∧ News hb L h (new ++ frs') ∧ SJ ax ay M U xs ys i j ms us m new ∧ n = (xs.length - i) + (ys.length - j)
set_option maxRecDepth 100000 in
set_option maxHeartbeats 4000000 in
theorem sld_c {w : World} {mean : ExcName → Option Value} {mg mb : Str → Option Value} {A : Around} {s : Shared} {Q E : Value → Shared → Prop} {l : List Env} {frs : List (Addr × Obj)}
    {ax ay : Addr} {vx vy : List Value} {xs ys : List Int}
    (hfr : A.frames = some l) (Fs : TI.Frs l frs) (hat : ∀ p ∈ frs, s.heap.get? p.1 = some p.2)
    (X : (hd.heap_39 w.params).In (TI.gone s.heap (frs.map (·.1)))) (T : Top hd.view_39 (looseW hd.view_39 []) mean mg mb (TI.gone s.heap (frs.map (·.1)))) (hA : Rm A 1)
    (hx : s.heap.IsList ax vx.toArray) (hy : s.heap.IsList ay vy.toArray) (ix : IntsAre vx xs) (iy : IntsAre vy ys) (sx : xs.Pairwise (· < ·)) (sy : ys.Pairwise (· < ·)) (lx : xs.length ≤ 200) (ly : ys.length ≤ 200)
    (hQ : ∀ h' tk' frs' a M U vM eM vU eU, TI.SameUp frs frs' → TI.Frs l frs' → (∀ p ∈ frs', h'.get? p.1 = some p.2) → Ext (TI.gone s.heap (frs.map (·.1))) h' → s.heap.get? a = none → s.heap.get? M = none → s.heap.get? U = none →
      h'.get? a = some { cls := .type "tuple", data := .seq #[.ref M, .ref U] } → h'.get? M = some (lobj vM eM) → h'.get? U = some (lobj vU eU) → IntsAre vM (sdiff xs ys).1 → IntsAre vU (sdiff xs ys).2 → Q (.ref a) { s with heap := h', toks := tk' }) :
    wpAny (model Challenge.rw_mj0077_01.row.prog w) A (call (.ref 21) [.ref ax, .ref ay]) Q E s := by
  have hfz : ∀ p ∈ frs, ∀ vs n, p.2.data ≠ .seq vs n := fun p hp vs n q => by obtain ⟨a, b, h⟩ := Fs.dict p hp; rw [h] at q; cases q
  have notf : ∀ a vs, s.heap.IsList a vs → a ∉ frs.map (·.1) := fun a vs h hm => by
    obtain ⟨p, hp, rfl⟩ := List.mem_map.mp hm
    obtain ⟨o, ho, _, n, hd⟩ := h
    rw [hat p hp] at ho; cases ho
    exact hfz p hp _ _ hd
  have hx' : (TI.gone s.heap (frs.map (·.1))).IsList ax vx.toArray := hx.at fun o e => (TI.gone_get (notf _ _ hx)).trans e
  have hy' : (TI.gone s.heap (frs.map (·.1))).IsList ay vy.toArray := hy.at fun o e => (TI.gone_get (notf _ _ hy)).trans e
  revert X
  w_top off
  k_fill
  intro X
  refine' enterX (binds := [(Str.ofString "expected", .ref ax), (Str.ofString "actual", .ref ay)]) Fs hat X T ?k6 ?k7 ?k8 ?k9 ?kB ?_ ?c2 ?c3 ?c4 ?c5
  ((case k6 => k_is); (case k7 => k_is); (case k8 => exact rmLt (by assumption)); (case k9 => exact BindsTo.of_eq rfl); (case kB => exact locs rfl); (case c2 => exact rfl); (case c3 => exact rfl); (case c4 => exact rfl); (case c5 => decide))
  intro L h₁ tk hLs F N
  generalize hhb : TI.gone s.heap (frs.map (·.1)) = hb at X T F N hx' hy' hQ
  have hmiss : mg (Str.ofString "IndexError") = none := mg_none_of X T.g (by k_is)
  repeat' ((fail_if_success (with_reducible show wpAny _ _ (exec (Stmt.While _ _ _ _) _) _ _ _)); walk1)
  rename_i M _ l1M _ _ U _ hMU hc F N
  obtain ⟨hMU, _⟩ := hMU
  have hh : A.handled = none := hA.han
  have hfr' : ∀ env, (A.deeper env).frames = some (env :: l) := fun env => by show A.frames.map _ = _; rw [hfr]; rfl
  have hapart : ∀ frs', TI.SameUp frs frs' → ∀ p ∈ frs', p.1 ≠ M ∧ p.1 ≠ U := fun frs' SU p hp => by
    obtain ⟨q, hq, e⟩ := SU.fwd p hp
    have := l1M q hq
    constructor
    · rw [e]; exact Nat.ne_of_lt this
    · rw [e]; exact Nat.ne_of_lt (Nat.lt_trans this hMU)
  have fresh : ∀ a, hb.get? a = none → (∀ p ∈ frs, p.1 ≠ a) → s.heap.get? a = none := fun a h1 h2 => by
    rw [← hhb, TI.gone_get (fun hm => by obtain ⟨p, hp, e⟩ := List.mem_map.mp hm; exact h2 p hp e)] at h1
    exact h1
  have fM := fresh M (N _ (.tail _ (.head _))).2.2 fun p hp => (hapart frs (.refl _) p hp).1
  have fU := fresh U (N _ (.head _)).2.2 fun p hp => (hapart frs (.refl _) p hp).2
  refine wpAny_While (codeAny_whileLoop (SI s hb L l frs ax ay M U xs ys) ?turn (xs.length + ys.length) ⟨_, _, _, [(M, lobj [] 0), (U, lobj [] 0)], frs, 0, 0, [], [], rfl, .refl _, Fs, F, fun p hp => N p ?_, ?_, rfl⟩)
  case turn =>
    rintro n s' ⟨h, tk, m, new, frs', i, j, ms, us, rfl, SU, Fs', F, N, S, rfl⟩
    refine wpAny_isTrue_value (wpAny_Constant_bool (wpAny_truthy_bool ?_))
    rw [if_pos rfl]
    refine wpAny_execs_cons (try_c (s₀ := s) (frs := frs) (C := fun _ => True) (J := SE ax ay M U xs ys) T hmiss (hfr' _) rfl rfl rfl rfl rfl ?suite ?body)
    case suite =>
      intro e h tk m new frs' SU Fs F N hlst hSE
      obtain ⟨i, j, ms, us, S, hend⟩ := hSE
      obtain ⟨vM, eM, vU, eU, rfl, iM, iU⟩ := S.led
      obtain ⟨ti, hi⟩ := S.mi
      obtain ⟨tj, hj⟩ := S.mj
      have ap := hapart frs' SU
      have e1 : vM.length = ms.length := iM.length
      have e2 : vU.length = us.length := iU.length
      have e3 : vx.length = xs.length := ix.length
      have e4 : vy.length = ys.length := iy.length
      have b1 := S.lm
      have b2 := S.lu
      have b3 := S.hi
      have b4 := S.hj
      refine wpAny_execs_cons (extSlice (D := M) (pre := []) (post := (U, lobj vU eU) :: frs') rfl rfl F N (fun _ hp => nomatch hp) ?_ S.mM S.mx hi hx' (by omega) fun eM' h2 F2 N2 => ?_)
      · intro p hp
        rcases List.mem_cons.mp hp with rfl | hp
        · exact Ne.symm S.ne
        · exact (ap p hp).1
      refine wpAny_execs_cons (extSlice (D := U) (pre := [(M, lobj (vM ++ vx.drop i) eM')]) (post := frs') rfl rfl F2 N2 ?_ (fun p hp => (ap p hp).2) S.mU S.my hj hy' (by omega) fun eU' h3 F3 N3 => ?_)
      · intro p hp; rw [List.mem_singleton.mp hp]; exact S.ne
      refine wpAny_execs_cons (wpAny_Break ?_)
      dsimp only
      refine wpAny_execs_cons (wpAny_Return_some (wpAny_Tuple (args_cons (lname F3.ns S.mM rfl rfl (by decide) (args_cons (lname F3.ns S.mU rfl rfl (by decide) (args_nil ⟨by simp [sizeLine_eq], ?_⟩)))))))
      dsimp only
      have hrem := S.rem
      have sizeF : ∀ a o, s.heap.get? a = some o → (∀ p ∈ frs, p.1 ≠ a) → h3.get? a = some o := fun a o q hne => F3.keep a o (by rw [← hhb, TI.gone_get (fun hm => by obtain ⟨p, hp, e⟩ := List.mem_map.mp hm; exact hne p hp e)]; exact q)
      have hnone : s.heap.get? h3.objs.size = none := by
        cases q : s.heap.get? h3.objs.size with
        | none => rfl
        | some o =>
          exfalso
          by_cases hm : ∃ p ∈ frs, p.1 = h3.objs.size
          · obtain ⟨p, hp, e⟩ := hm
            obtain ⟨sl, hq⟩ := SU.back p hp
            have := Heap.lt_size (N3 _ (.tail _ (.tail _ hq))).1
            rw [show ((p.1, ({ p.2 with slots := sl } : Obj)) : Addr × Obj).1 = h3.objs.size from e] at this
            exact Nat.lt_irrefl _ this
          · exact Nat.lt_irrefl _ (Heap.lt_size (sizeF _ _ q fun p hp e => hm ⟨p, hp, e⟩))
      refine hQ _ _ frs' h3.objs.size M U (vM ++ vx.drop i) eM' (vU ++ vy.drop j) eU' SU Fs (fun p hp => Heap.get?_push_of_some _ (N3 _ (.tail _ (.tail _ hp))).1) (fun b o q => Heap.get?_push_of_some _ (F3.keep b o q)) hnone fM fU (Heap.get?_push_size _ rfl) (Heap.get?_push_of_some _ (N3 _ (.head _)).1) (Heap.get?_push_of_some _ (N3 _ (.tail _ (.head _))).1) ?_ ?_
      · rw [← hrem]
        have : (sdiff (xs.drop i) (ys.drop j)).1 = xs.drop i := by
          rcases hend with rfl | rfl
          · rw [List.drop_length, nil_sdiff]
          · rw [List.drop_length, sdiff_nil]
        dsimp only
        rw [this]
        exact iM.append (ix.drop i)
      · rw [← hrem]
        have : (sdiff (xs.drop i) (ys.drop j)).2 = ys.drop j := by
          rcases hend with rfl | rfl
          · rw [List.drop_length, nil_sdiff]
          · rw [List.drop_length, sdiff_nil]
        dsimp only
        rw [this]
        exact iU.append (iy.drop j)
    case body =>
      intro E' hE'
      obtain ⟨ti, hi⟩ := S.mi
      obtain ⟨tj, hj⟩ := S.mj
      have ap := hapart frs' SU
      refine wpAny_execs_cons (asgSub rfl rfl (.inl hh) F N S.mx hi hx' ix lx S.hi (fun x tx h1 tk1 hxi F1 N1 => ?_) fun h1 tk1 e oe ctx hk F1 N1 hX _ => ?_)
      case refine_2 =>
        exact hE' _ _ (.inl ⟨e, oe, h1, tk1, m, new, frs', ctx, rfl, rfl, SU, Fs', F1, N1, hX, S.lst, ⟨i, j, ms, us, S, .inl hk⟩, trivial⟩)
      have S1 := S.store (.int x tx) (.inl rfl)
      obtain ⟨tj1, hj1⟩ := S1.mj
      refine wpAny_execs_cons (asgSub (s := { s with heap := h1, toks := tk1 }) rfl rfl (.inl hh) F1 N1 S1.my hj1 hy' iy ly S1.hj (fun y ty h2 tk2 hyj F2 N2 => ?_) fun h2 tk2 e oe ctx hk F2 N2 hX _ => ?_)
      case refine_2 =>
        exact hE' _ _ (.inl ⟨e, oe, h2, tk2, _, new, frs', ctx, rfl, rfl, SU, Fs', F2, N2, hX, S.lst, ⟨i, j, ms, us, S1, .inr hk⟩, trivial⟩)
      have S2 := S1.store (.int y ty) (.inr rfl)
      have he2 : upd (upd m (Str.ofString "e") (.int x tx)) (Str.ofString "a") (.int y ty) (Str.ofString "e") = some (.int x tx) := upd_ne (by decide) upd_self
      have ha2 : upd (upd m (Str.ofString "e") (.int x tx)) (Str.ofString "a") (.int y ty) (Str.ofString "a") = some (.int y ty) := upd_self
      generalize upd (upd m (Str.ofString "e") (.int x tx)) (Str.ofString "a") (.int y ty) = m2 at F2 S2 he2 ha2
      clear S1 F1 N1 F N hj1 hi hj S
      have hxl : i < xs.length := (List.getElem?_eq_some_iff.mp hxi).1
      have hyl : j < ys.length := (List.getElem?_eq_some_iff.mp hyj).1
      have dx := drop_cons hxi
      have dy := drop_cons hyj
      obtain ⟨ti, hi⟩ := S2.mi
      obtain ⟨tj, hj⟩ := S2.mj
      obtain ⟨vM, eM, vU, eU, rfl, iM, iU⟩ := S2.led
      have b1 := S2.lm
      have b2 := S2.lu
      have e1 : vM.length = ms.length := iM.length
      have e2 : vU.length = us.length := iU.length
      have hrem := S2.rem
      rw [dx, dy] at hrem
      refine wpAny_execs_cons (wpAny_If (wpAny_isTrue_Compare1 (lname F2.ns he2 rfl rfl (by decide) (lname F2.ns ha2 rfl rfl (by decide) (lt_int (wpAny_truthy_bool ?_))))))
      by_cases hlt : x < y
      · rw [if_pos (by simpa using hlt)]
        refine wpAny_execs_cons (append_c (s := { s with heap := h2, toks := tk2 }) (D := M) (pre := []) (post := (U, lobj vU eU) :: frs') rfl rfl F2 N2 (fun _ hp => nomatch hp) ?_ S2.mM he2 (by omega) fun eM' h3 F3 N3 => ?_)
        · intro p hp
          rcases List.mem_cons.mp hp with rfl | hp
          · exact Ne.symm S2.ne
          · exact (ap p hp).1
        refine wpAny_execs_cons (incr (s := { s with heap := h3, toks := tk2 }) rfl rfl F3 N3 hi fun t4 h4 tk4 F4 N4 => ?_)
        have S4 : SJ ax ay M U xs ys (i + 1) j (ms ++ [x]) us (upd m2 (Str.ofString "i") (.int ((i + 1 : Nat) : Int) t4)) [(M, lobj (vM ++ [Value.int x tx]) eM'), (U, lobj vU eU)] :=
          ⟨upd_ne (by decide) S2.mx, upd_ne (by decide) S2.my, ⟨t4, upd_self⟩, ⟨tj, upd_ne (by decide) hj⟩, upd_ne (by decide) S2.mM, upd_ne (by decide) S2.mU, S2.ne, ⟨_, _, _, _, rfl, iM.append (.cons x tx .nil), iU⟩, hxl, S2.hj, by simp only [List.length_append, List.length_singleton]; omega, b2, by rw [← hrem, dy]; simp [sdiff_cons, hlt]⟩
        refine wpAny_execs_cons (while0 (s₀ := s) (frs := frs) (C := fun _ => True) (J := SE ax ay M U xs ys) (hfr' _) rfl rfl (fun E'' hE'' => ?_) fun x s₂ hH => hE' _ _ (.inr hH))
        refine testSub (s := { s with heap := h4, toks := tk4 }) rfl rfl (.inl hh) F4 N4 S4.mx upd_self (upd_ne (by decide) he2) hx' ix lx S4.hi (fun z hz => ?_) fun h5 tk5 e oe ctx hk F5 N5 hX _ => ?_
        · refine ⟨next_ne sx hxi hz, ?_⟩
          repeat (first | refine wpAny_execs_nil ?_ | (dsimp only; refine wpAny_execs_nil ?_))
          exact ⟨(xs.length - (i + 1)) + (ys.length - j), by omega, _, _, _, [(M, lobj (vM ++ [Value.int x tx]) eM'), (U, lobj vU eU)], frs', i + 1, j, _, _, rfl, SU, Fs', F4, N4, S4, rfl⟩
        · exact hE'' _ _ ⟨e, oe, h5, tk5, _, [(M, lobj (vM ++ [Value.int x tx]) eM'), (U, lobj vU eU)], frs', ctx, rfl, rfl, SU, Fs', F5, N5, hX, S4.lst, ⟨_, _, _, _, S4, .inl hk⟩, trivial⟩
      · rw [if_neg (by simpa using hlt)]
        refine wpAny_execs_cons (wpAny_If (wpAny_isTrue_Compare1 (lname F2.ns he2 rfl rfl (by decide) (lname F2.ns ha2 rfl rfl (by decide) (gt_int (wpAny_truthy_bool ?_))))))
        by_cases hgt : y < x
        · rw [if_pos (by simpa using hgt)]
          refine wpAny_execs_cons (append_c (s := { s with heap := h2, toks := tk2 }) (D := U) (pre := [(M, lobj vM eM)]) (post := frs') rfl rfl F2 N2 (fun p hp => by rw [List.mem_singleton.mp hp]; exact S2.ne) (fun p hp => (ap p hp).2) S2.mU ha2 (by omega) fun eU' h3 F3 N3 => ?_)
          refine wpAny_execs_cons (incr (s := { s with heap := h3, toks := tk2 }) rfl rfl F3 N3 hj fun t4 h4 tk4 F4 N4 => ?_)
          have S4 : SJ ax ay M U xs ys i (j + 1) ms (us ++ [y]) (upd m2 (Str.ofString "j") (.int ((j + 1 : Nat) : Int) t4)) [(M, lobj vM eM), (U, lobj (vU ++ [Value.int y ty]) eU')] :=
            ⟨upd_ne (by decide) S2.mx, upd_ne (by decide) S2.my, ⟨ti, upd_ne (by decide) hi⟩, ⟨t4, upd_self⟩, upd_ne (by decide) S2.mM, upd_ne (by decide) S2.mU, S2.ne, ⟨_, _, _, _, rfl, iM, iU.append (.cons y ty .nil)⟩, S2.hi, hyl, b1, by simp only [List.length_append, List.length_singleton]; omega, by rw [← hrem, dx]; simp [sdiff_cons, hlt, hgt]⟩
          refine wpAny_execs_cons (while0 (s₀ := s) (frs := frs) (C := fun _ => True) (J := SE ax ay M U xs ys) (hfr' _) rfl rfl (fun E'' hE'' => ?_) fun x s₂ hH => hE' _ _ (.inr hH))
          refine testSub (s := { s with heap := h4, toks := tk4 }) rfl rfl (.inl hh) F4 N4 S4.my upd_self (upd_ne (by decide) ha2) hy' iy ly S4.hj (fun z hz => ?_) fun h5 tk5 e oe ctx hk F5 N5 hX _ => ?_
          · refine ⟨next_ne sy hyj hz, ?_⟩
            repeat (first | refine wpAny_execs_nil ?_ | (dsimp only; refine wpAny_execs_nil ?_))
            exact ⟨(xs.length - i) + (ys.length - (j + 1)), by omega, _, _, _, [(M, lobj vM eM), (U, lobj (vU ++ [Value.int y ty]) eU')], frs', i, j + 1, _, _, rfl, SU, Fs', F4, N4, S4, rfl⟩
          · exact hE'' _ _ ⟨e, oe, h5, tk5, _, [(M, lobj vM eM), (U, lobj (vU ++ [Value.int y ty]) eU')], frs', ctx, rfl, rfl, SU, Fs', F5, N5, hX, S4.lst, ⟨_, _, _, _, S4, .inr hk⟩, trivial⟩
        · rw [if_neg (by simpa using hgt)]
          refine wpAny_execs_cons (incr (s := { s with heap := h2, toks := tk2 }) rfl rfl F2 N2 hi fun t4 h4 tk4 F4 N4 => ?_)
          have S4 : SP ax ay M U xs ys y (i + 1) j ms us (upd m2 (Str.ofString "i") (.int ((i + 1 : Nat) : Int) t4)) [(M, lobj vM eM), (U, lobj vU eU)] :=
            ⟨upd_ne (by decide) S2.mx, upd_ne (by decide) S2.my, ⟨t4, upd_self⟩, ⟨tj, upd_ne (by decide) hj⟩, ⟨ty, upd_ne (by decide) ha2⟩, upd_ne (by decide) S2.mM, upd_ne (by decide) S2.mU, S2.ne, ⟨_, _, _, _, rfl, iM, iU⟩, hxl, hyj, Nat.le_succ_of_le b1, b2, by rw [← hrem]; simp [sdiff_cons, hlt, hgt]⟩
          refine wpAny_execs_cons (fin_c (s₀ := s) (frs := frs) (J := fun m new => ∃ ms us, SP ax ay M U xs ys y (i + 1) j ms us m new ∧ i + 1 = xs.length) (J' := SE ax ay M U xs ys)
            (P := fun s₁ => ∃ h tk m new, s₁ = { s with heap := h, toks := tk } ∧ Fr hb L h m ∧ News hb L h (new ++ frs') ∧ ∃ ms us, SP ax ay M U xs ys y (i + 1) j ms us m new) (hfr' _) rfl rfl ?_ ?_ ?_ fun x s₂ hH => hE' _ _ (.inr hH))
          · intro E'' hE''
            refine wpAny_execs_cons (while0 (s₀ := s) (frs := frs) (C := (· = .none)) (J := fun m new => ∃ ms us, SP ax ay M U xs ys y (i + 1) j ms us m new ∧ i + 1 = xs.length) (hfr' _) rfl rfl (fun E3 hE3 => ?_) fun x s₂ hH => hE'' _ _ (.inr hH))
            refine testSub (s := { s with heap := h4, toks := tk4 }) rfl rfl (.inl hh) F4 N4 S4.mx upd_self (upd_ne (by decide) he2) hx' ix lx S4.hi (fun z hz => ?_) fun h5 tk5 e oe ctx hk F5 N5 hX hcx => ?_
            · exact ⟨next_ne sx hxi hz, wpAny_execs_nil ⟨rfl, _, _, _, _, rfl, F4, N4, _, _, S4⟩⟩
            · exact hE3 _ _ ⟨e, oe, h5, tk5, _, _, frs', ctx, rfl, rfl, SU, Fs', F5, N5, hX, S4.lst, ⟨_, _, S4, hk⟩, hcx hh⟩
          · rintro s₁ ⟨h5, tk5, m5, new5, rfl, F5, N5, ms5, us5, S5⟩ E'' hE''
            obtain ⟨tj5, hj5⟩ := S5.mj
            obtain ⟨ta5, ha5⟩ := S5.ma
            refine wpAny_execs_cons (incr (s := { s with heap := h5, toks := tk5 }) rfl rfl F5 N5 hj5 fun t6 h6 tk6 F6 N6 => ?_)
            have S6 := S5.next t6
            refine wpAny_execs_cons (while0 (s₀ := s) (frs := frs) (C := fun _ => True) (J := SE ax ay M U xs ys) (hfr' _) rfl rfl (fun E3 hE3 => ?_) fun x s₂ hH => hE'' _ _ (.inr hH))
            refine testSub (s := { s with heap := h6, toks := tk6 }) rfl rfl (.inl hh) F6 N6 S6.my upd_self (upd_ne (by decide) ha5) hy' iy ly S6.hj (fun z hz => ?_) fun h7 tk7 e oe ctx hk F7 N7 hX _ => ?_
            · refine ⟨next_ne sy hyj hz, wpAny_execs_nil ⟨rfl, ?_⟩⟩
              repeat (first | refine wpAny_execs_nil ?_ | (dsimp only; refine wpAny_execs_nil ?_))
              exact ⟨(xs.length - (i + 1)) + (ys.length - (j + 1)), by omega, _, _, _, _, frs', i + 1, j + 1, _, _, rfl, SU, Fs', F6, N6, S6, rfl⟩
            · exact hE3 _ _ ⟨e, oe, h7, tk7, _, _, frs', ctx, rfl, rfl, SU, Fs', F7, N7, hX, S6.lst, ⟨_, _, _, _, S6, .inr hk⟩, trivial⟩
          · rintro e1 s₁ ⟨e1', tb1, oe1, otb1, h5, tk5, m5, new5, frs5, ctx1, hxe, rfl, SU5, Fs5, F5, N5, hX1, hT1, hne1, hn5, ⟨ms5, us5, S5, hlen5⟩, rfl⟩ E'' hE''
            cases hxe
            obtain ⟨tj5, hj5⟩ := S5.mj
            obtain ⟨ta5, ha5⟩ := S5.ma
            refine wpAny_execs_cons (incr (s := { s with heap := h5, toks := tk5 }) rfl rfl F5 N5 hj5 fun t6 h6 tk6 F6 N6 => ?_)
            have S6 := S5.next t6
            refine wpAny_execs_cons (while0 (A := (A.deeper _).mark (some (.ref e1))) (s₀ := s) (frs := frs) (C := fun _ => True) (J := SE ax ay M U xs ys) (hfr' _) rfl rfl (fun E3 hE3 => ?_) fun x s₂ hH => hE'' _ _ (.inr hH))
            refine testSub (s := { s with heap := h6, toks := tk6 }) rfl rfl (.inr ⟨e1, oe1, _, rfl, (N6 _ (.head _)).1, hX1⟩) F6 N6 S6.my upd_self (upd_ne (by decide) ha5) hy' iy ly S6.hj (fun z hz => ?_) fun h7 tk7 e oe ctx hk F7 N7 hX _ => ?_
            · exact ⟨next_ne sy hyj hz, wpAny_execs_nil ⟨rfl, e1, tb1, oe1, otb1, h6, tk6, _, new5, frs5, _, rfl, rfl, SU5, Fs5, F6, N6, hX1, hT1, hne1, hn5, ⟨_, _, _, _, S6, .inl hlen5⟩, trivial⟩⟩
            · refine hE3 _ _ ⟨e, oe, h7, tk7, _, new5, frs5, ctx, rfl, rfl, SU5, Fs5, F7, fun p hp => N7 p ?_, hX, hn5, ⟨_, _, _, _, S6, .inr hk⟩, trivial⟩
              rcases List.mem_cons.mp hp with rfl | hp
              · exact .head _
              · exact .tail _ (.tail _ (.tail _ hp))
  · rcases List.mem_cons.mp hp with rfl | hp
    · exact .tail _ (.head _)
    rcases List.mem_cons.mp hp with rfl | hp
    · exact .head _
    · exact .tail _ (.tail _ hp)
  · exact ⟨rfl, rfl, ⟨_, rfl⟩, ⟨_, rfl⟩, rfl, rfl, Nat.ne_of_lt hMU, ⟨[], 0, [], 0, rfl, .nil, .nil⟩, Nat.zero_le _, Nat.zero_le _, Nat.le_refl _, Nat.le_refl _, by simp⟩
end Mine

open PySem PySem.W PyProof.Rows
set_option Elab.async false
set_option linter.unusedSimpArgs false
namespace Mine
section
variable {prog : Program} {w : World} {A : Around} {E : Value → Shared → Prop} {s : Shared} {h₀ : Heap} {L : Addr} {m : Str → Option Value} {news : List (Addr × Obj)}

theorem keys_ints {kvs : List (Int × Value)} {vs : List Value} (hl : vs.length = kvs.length) (h : ∀ (j : Nat) (v : Value), vs[j]? = some v → ∃ k x, kvs[j]? = some (k, x) ∧ (intKind prog w).is k v = true) : IntsAre vs (kvs.map (·.1)) := by
  induction vs generalizing kvs with
  | nil => cases kvs with
    | nil => exact .nil
    | cons _ _ => simp at hl
  | cons v vs ih => cases kvs with
    | nil => simp at hl
    | cons kv kvs =>
      obtain ⟨k, x, e, hk⟩ := h 0 v rfl
      cases e
      obtain ⟨t, rfl⟩ := Value.isInt_shape hk
      exact .cons k t (ih (by simpa using hl) fun j u hu => h (j + 1) u hu)

/-- sorted over a dict keyed by ints -/
theorem sortedDict_c {d : Addr} {kvs : List (Int × Value)} {Q : Value → Shared → Prop} (hh : A.handled = none) (F : Fr h₀ L s.heap m) (N : News h₀ L s.heap news) (hD : s.heap.DictOf (intKind prog w) d kvs) (lo : (d == sysModules) = false) (hn : kvs.length < 64)
    (h : ∀ h' tk B ys e, Fr h₀ L h' m → News h₀ L h' ((B, lobj ys e) :: news) → (∀ q ∈ news, q.1 < B) → IntsAre ys (srt (kvs.map (·.1))) → Q (.ref B) { s with heap := h', toks := tk }) :
    wpAny (model prog w) A (call (.builtin "sorted") [.ref d]) Q E s := by
  obtain ⟨ep, hat⟩ := hD.dictAt
  refine kdu_sorted (kdl_dict (knd := intKind prog w) (kvs := kvs) (ep := ep) lo) hh F N hat (by rw [sizeLine_eq]; omega) fun B h' tk vs F' N' l1 hl hv => ?_
  have hI := keys_ints hl hv
  have hB := N' _ (.head _)
  refine wpAny_call_entry PyProof.Rows.slot_list_sort ⟨_, hB.1, rfl⟩ PyProof.Rows.entry_list_sort (list_sort_tree hB.1 hI (by rw [hl]; exact hn) fun out ns' a1 a2 a3 => ?_) (args_list_sort _)
  refine ⟨.none, rfl, ?_⟩
  obtain ⟨e, he⟩ := sortedHeap_at (out := out) hB.1
  have old : ∀ b o, b ≠ B → h'.get? b = some o → (sortedHeap h' B vs out).get? b = some o := fun b o hb q => (sortedHeap_old hb (Heap.lt_size q)).trans q
  have F2 : Fr h₀ L (sortedHeap h' B vs out) m := by
    obtain ⟨oL, es, ep, hL, r⟩ := F'.ns
    exact ⟨⟨oL, es, ep, old _ _ (Ne.symm hB.2.1) hL, r⟩, fun b o q => old b o (by rintro rfl; rw [hB.2.2] at q; cases q) (F'.keep b o q), F'.above⟩
  refine h _ _ B out.toList e F2 (fun p hp => ?_) l1 ((srt_eq a2 a3) ▸ a1)
  rcases List.mem_cons.mp hp with rfl | hp
  · exact ⟨by simpa using he, hB.2⟩
  · have q := N' p (.tail _ hp)
    exact ⟨old _ _ (Nat.ne_of_lt (l1 p hp)) q.1, q.2⟩
end

section
variable {hb h h' : Heap} {L : Addr} {m : Str → Option Value} {new frs' frs'' : List (Addr × Obj)} {oL : Obj}
/-- a call that notes exceptions comes back: the frame, the ledger, the outer frames -/
theorem backX (F : Fr hb L h m) (N : News hb L h (new ++ frs')) (hnew : ∀ p ∈ new, ∀ es ep, p.2.data ≠ .dict es ep) {l : List Env} (Fs : TI.Frs l frs') (hoL : h.get? L = some oL) (SU : TI.SameUp ((L, oL) :: frs') frs'') (hat : ∀ p ∈ frs'', h'.get? p.1 = some p.2)
    (g : Ext (TI.gone h (L :: frs'.map (·.1))) h') : ∃ frs3, TI.SameUp frs' frs3 ∧ TI.Frs l frs3 ∧ Fr hb L h' m ∧ News hb L h' (new ++ frs3) := by
  cases frs'' with
  | nil => exact False.elim SU
  | cons q frs3 =>
    obtain ⟨e1, ⟨sl, e2⟩, SU3⟩ := SU
    have e1' : q.1 = L := e1
    have e2' : q.2 = { oL with slots := sl } := e2
    have hL' : h'.get? L = some { oL with slots := sl } := by rw [← e2', ← e1']; exact hat q (.head _)
    obtain ⟨o, es, ep, ho, hd, hr⟩ := F.ns
    rw [hoL] at ho
    cases ho
    refine ⟨frs3, SU3, Fs.up SU3, ⟨⟨_, es, ep, hL', hd, hr⟩, fun b o q => g b o ?_, F.above⟩, fun p hp => ?_⟩
    · exact (TI.gone_get (TI.base_apart F N TI.tail_sub q)).trans (F.keep b o q)
    · rcases List.mem_append.mp hp with hp | hp
      · have q := N p (List.mem_append_left _ hp)
        refine ⟨g _ _ ((TI.gone_get fun hm => ?_).trans q.1), q.2⟩
        rcases List.mem_cons.mp hm with hm | hm
        · exact q.2.1 hm
        · obtain ⟨x, hx, e⟩ := List.mem_map.mp hm
          obtain ⟨es', ep', hd'⟩ := Fs.dict x hx
          have h2 := (N x (TI.tail_sub x hx)).1
          have e' : x.1 = p.1 := e
          rw [e', q.1] at h2
          exact hnew p hp es' ep' (by rw [Option.some.inj h2]; exact hd')
      · obtain ⟨x, hx, e⟩ := SU3.fwd p hp
        have q := (N x (TI.tail_sub x hx)).2
        exact ⟨hat p (.tail _ hp), by rw [e]; exact q.1, by rw [e]; exact q.2⟩

theorem ext_gone (F : Fr hb L h m) (N : News hb L h (new ++ frs')) : Ext hb (TI.gone h (L :: frs'.map (·.1))) := fun b o q => (TI.gone_get (TI.base_apart F N TI.tail_sub q)).trans (F.keep b o q)
theorem frs_push {l : List Env} {env : Env} (F : Fr hb L h m) (hoL : h.get? L = some oL) (hf : env.frame = some L) (hk : env.scope.kind = .function) (Fs : TI.Frs l frs') : TI.Frs (env :: l) ((L, oL) :: frs') := by
  obtain ⟨o, es, ep, ho, hd, hr⟩ := F.ns
  rw [hoL] at ho
  cases ho
  exact ⟨by rw [hk]; decide, hf, ⟨es, ep, hd⟩, Fs⟩
end
end Mine

open PySem PySem.W PyProof.Rows
set_option Elab.async false
set_option linter.unusedSimpArgs false
namespace Mine
/-- rising, all of it on the page -/
def SI' (pg xs : List Int) : Prop := xs.Pairwise (· < ·) ∧ ∀ x ∈ xs, x ∈ pg

theorem head_lt {x : Int} {xs : List Int} (h : (x :: xs).Pairwise (· < ·)) {z : Int} (hz : z ∈ xs) : x < z := (List.pairwise_cons.mp h).1 z hz

theorem sdiff_mem (xs : List Int) : ∀ ys : List Int, xs.Pairwise (· < ·) → ys.Pairwise (· < ·) → ∀ z, (z ∈ (sdiff xs ys).1 ↔ z ∈ xs ∧ z ∉ ys) ∧ (z ∈ (sdiff xs ys).2 ↔ z ∈ ys ∧ z ∉ xs) := by
  induction xs with
  | nil => intro ys _ _ z; simp [nil_sdiff]
  | cons x xs ihx =>
    intro ys
    induction ys with
    | nil => intro _ _ z; simp [sdiff_nil]
    | cons y ys ihy =>
      intro hx hy z
      have hx' := (List.pairwise_cons.mp hx).2
      have hy' := (List.pairwise_cons.mp hy).2
      by_cases h1 : x < y
      · have ih := ihx (y :: ys) hx' hy z
        simp only [sdiff_cons, h1, if_true, List.mem_cons] at ih ⊢
        have a1 : ∀ w ∈ ys, y < w := fun w hw => head_lt hy hw
        constructor
        · rw [ih.1]
          constructor
          · rintro (rfl | h)
            · exact ⟨.inl rfl, fun h => h.elim (fun e => by omega) fun hm => by have := a1 _ hm; omega⟩
            · exact ⟨.inr h.1, h.2⟩
          · rintro ⟨rfl | h, h2⟩
            · exact .inl rfl
            · exact .inr ⟨h, h2⟩
        · rw [ih.2]
          constructor
          · rintro ⟨h, h2⟩
            refine ⟨h, fun h3 => h3.elim (fun e => ?_) h2⟩
            subst e
            rcases h with rfl | h
            · omega
            · have := a1 _ h; omega
          · rintro ⟨h, h2⟩
            exact ⟨h, fun h3 => h2 (.inr h3)⟩
      · by_cases h2 : y < x
        · have ih := ihy hx hy' z
          simp only [sdiff_cons, h1, h2, if_true, if_false, List.mem_cons] at ih ⊢
          have a1 : ∀ w ∈ xs, x < w := fun w hw => head_lt hx hw
          constructor
          · rw [ih.1]
            constructor
            · rintro ⟨h, h2⟩
              refine ⟨h, fun h3 => h3.elim (fun e => ?_) h2⟩
              subst e
              rcases h with rfl | h
              · omega
              · have := a1 _ h; omega
            · rintro ⟨h, h2⟩
              exact ⟨h, fun h3 => h2 (.inr h3)⟩
          · rw [ih.2]
            constructor
            · rintro (rfl | h)
              · exact ⟨.inl rfl, fun h => h.elim (fun e => by omega) fun hm => by have := a1 _ hm; omega⟩
              · exact ⟨.inr h.1, h.2⟩
            · rintro ⟨rfl | h, h2⟩
              · exact .inl rfl
              · exact .inr ⟨h, h2⟩
        · obtain rfl : x = y := by omega
          have ih := ihx ys hx' hy' z
          have a1 : ∀ w ∈ xs, x < w := fun w hw => head_lt hx hw
          have a2 : ∀ w ∈ ys, x < w := fun w hw => head_lt hy hw
          simp only [sdiff_cons, h1, if_false, List.mem_cons] at ih ⊢
          constructor
          · rw [ih.1]
            constructor
            · rintro ⟨h, h2⟩
              exact ⟨.inr h, fun h3 => h3.elim (fun e => by have := a1 _ h; omega) h2⟩
            · rintro ⟨rfl | h, h2⟩
              · exact absurd (.inl rfl) h2
              · exact ⟨h, fun h3 => h2 (.inr h3)⟩
          · rw [ih.2]
            constructor
            · rintro ⟨h, h2⟩
              exact ⟨.inr h, fun h3 => h3.elim (fun e => by have := a2 _ h; omega) h2⟩
            · rintro ⟨rfl | h, h2⟩
              · exact absurd (.inl rfl) h2
              · exact ⟨h, fun h3 => h2 (.inr h3)⟩

theorem sdiff_nodup (xs : List Int) : ∀ ys : List Int, xs.Pairwise (· < ·) → ys.Pairwise (· < ·) → (sdiff xs ys).1.Pairwise (· < ·) ∧ (sdiff xs ys).2.Pairwise (· < ·) := by
  induction xs with
  | nil => intro ys _ hy; rw [nil_sdiff]; exact ⟨.nil, hy⟩
  | cons x xs ihx =>
    intro ys
    induction ys with
    | nil => intro hx _; rw [sdiff_nil]; exact ⟨hx, .nil⟩
    | cons y ys ihy =>
      intro hx hy
      have hx' := (List.pairwise_cons.mp hx).2
      have hy' := (List.pairwise_cons.mp hy).2
      by_cases h1 : x < y
      · have ih := ihx (y :: ys) hx' hy
        simp only [sdiff_cons, h1, if_true]
        exact ⟨List.pairwise_cons.mpr ⟨fun z hz => head_lt hx ((sdiff_mem xs (y :: ys) hx' hy z).1.mp hz).1, ih.1⟩, ih.2⟩
      · by_cases h2 : y < x
        · have ih := ihy hx hy'
          simp only [sdiff_cons, h1, h2, if_true, if_false]
          exact ⟨ih.1, List.pairwise_cons.mpr ⟨fun z hz => head_lt hy ((sdiff_mem (x :: xs) ys hx hy' z).2.mp hz).1, ih.2⟩⟩
        · have ih := ihx ys hx' hy'
          simp only [sdiff_cons, h1, h2, if_false]
          exact ih

/-- the symmetric difference, rising -/
def symd (xs ys : List Int) : List Int := srt ((sdiff xs ys).1 ++ (sdiff xs ys).2)

theorem nodup_of_lt {xs : List Int} (h : xs.Pairwise (· < ·)) : xs.Nodup := h.imp fun h e => by omega
theorem lt_of_nodup {xs : List Int} (h : xs.Pairwise (· ≤ ·)) (hn : xs.Nodup) : xs.Pairwise (· < ·) := by
  induction xs with
  | nil => exact .nil
  | cons x xs ih =>
    rw [List.pairwise_cons] at h ⊢
    rw [List.nodup_cons] at hn
    exact ⟨fun z hz => by
      have := h.1 z hz
      have : x ≠ z := by rintro rfl; exact hn.1 hz
      omega, ih h.2 hn.2⟩
theorem srt_mem {xs : List Int} {z : Int} : z ∈ srt xs ↔ z ∈ xs := (srt_perm xs).mem_iff
theorem symd_mem {xs ys : List Int} (hx : xs.Pairwise (· < ·)) (hy : ys.Pairwise (· < ·)) (z : Int) : z ∈ symd xs ys ↔ (z ∈ xs ∧ z ∉ ys) ∨ (z ∈ ys ∧ z ∉ xs) := by
  unfold symd
  rw [srt_mem, List.mem_append, (sdiff_mem xs ys hx hy z).1, (sdiff_mem xs ys hx hy z).2]
theorem symd_lt {xs ys : List Int} (hx : xs.Pairwise (· < ·)) (hy : ys.Pairwise (· < ·)) : (symd xs ys).Pairwise (· < ·) := by
  refine lt_of_nodup (srt_sorted _) ((srt_perm _).symm.nodup ?_)
  have := sdiff_nodup xs ys hx hy
  rw [List.nodup_append]
  refine ⟨nodup_of_lt this.1, nodup_of_lt this.2, ?_⟩
  rintro a ha b hb rfl
  have h1 := (sdiff_mem xs ys hx hy a).1.mp ha
  have h2 := (sdiff_mem xs ys hx hy a).2.mp hb
  exact h2.2 h1.1
theorem symd_in {pg xs ys : List Int} (hx : SI' pg xs) (hy : SI' pg ys) : SI' pg (symd xs ys) :=
  ⟨symd_lt hx.1 hy.1, fun z hz => by
    rcases (symd_mem hx.1 hy.1 z).mp hz with h | h
    · exact hx.2 z h.1
    · exact hy.2 z h.1⟩
theorem nodup_sub_length : ∀ {xs pg : List Int}, xs.Nodup → (∀ x ∈ xs, x ∈ pg) → xs.length ≤ pg.length
  | [], _, _, _ => Nat.zero_le _
  | x :: xs, pg, hn, hs => by
    rw [List.nodup_cons] at hn
    have hx := hs x List.mem_cons_self
    have ih := nodup_sub_length (pg := pg.erase x) hn.2 fun z hz => (List.mem_erase_of_ne (by rintro rfl; exact hn.1 hz)).mpr (hs z (List.mem_cons_of_mem _ hz))
    rw [List.length_erase_of_mem hx] at ih
    have : 0 < pg.length := List.length_pos_of_mem hx
    simp only [List.length_cons]
    omega
theorem SI'.len {pg xs : List Int} (h : SI' pg xs) : xs.length ≤ pg.length := nodup_sub_length (nodup_of_lt h.1) h.2

/-- the list kept under a head -/
def keptAt (kept : List (Int × List Int)) (k : Int) : List Int := ((kept.find? fun kv => kv.1 = k).map (·.2)).getD []
def redStep (kept : List (Int × List Int)) (left : List Int) (head : Int) : List Int := if head ∈ left then symd left (keptAt kept head) else left
def redL (row : List Int) (kept : List (Int × List Int)) : List Int := (srt (kept.map (·.1))).foldl (redStep kept) row
end Mine

open PySem PySem.W PyProof.Rows
set_option Elab.async false
set_option linter.unusedSimpArgs false
namespace Mine
/-- the dict's pairs: a head, the list under it -/
def KV (h : Heap) (kvs : List (Int × Value)) (kept : List (Int × List Int)) : Prop := Paired (fun p q => p.1 = q.1 ∧ IsInts h p.2 q.2) kvs kept
theorem KV.ext {h h' : Heap} {kvs : List (Int × Value)} {kept : List (Int × List Int)} (x : KV h kvs kept) (g : ∀ v zs, IsInts h v zs → IsInts h' v zs) : KV h' kvs kept := by
  induction x with
  | nil => exact .nil
  | cons a _ ih => exact .cons ⟨a.1, g _ _ a.2⟩ ih
theorem KV.keys {h : Heap} {kvs : List (Int × Value)} {kept : List (Int × List Int)} (x : KV h kvs kept) : kvs.map (·.1) = kept.map (·.1) := by
  induction x with
  | nil => rfl
  | cons a _ ih => simp [a.1, ih]
theorem KV.at {h : Heap} {kvs : List (Int × Value)} {kept : List (Int × List Int)} (x : KV h kvs kept) {k : Int} (hk : k ∈ kept.map (·.1)) : ∃ v, valueAt kvs k = some v ∧ IsInts h v (keptAt kept k) ∧ ∃ kv ∈ kept, keptAt kept k = kv.2 := by
  induction x with
  | nil => simp at hk
  | @cons p q l1 l2 a _ ih =>
    by_cases e : q.1 = k
    · refine ⟨p.2, ?_, ?_, q, .head _, ?_⟩
      · simp [valueAt, a.1, e]
      · simp [keptAt, e]; exact a.2
      · simp [keptAt, e]
    · have hk' : k ∈ l2.map (·.1) := by
        rcases List.mem_cons.mp hk with h | h
        · exact absurd h.symm e
        · exact h
      obtain ⟨v, h1, h2, kv, h3, h4⟩ := ih hk'
      refine ⟨v, ?_, ?_, kv, .tail _ h3, ?_⟩
      · simp only [valueAt, List.find?_cons] at h1 ⊢
        rw [show decide (p.1 = k) = false by simp [a.1, e]]
        exact h1
      · simp only [keptAt, List.find?_cons] at h2 ⊢
        rw [show decide (q.1 = k) = false by simp [e]]
        exact h2
      · simp only [keptAt, List.find?_cons] at h4 ⊢
        rw [show decide (q.1 = k) = false by simp [e]]
        exact h4
theorem KV.length {h : Heap} {kvs : List (Int × Value)} {kept : List (Int × List Int)} (x : KV h kvs kept) : kvs.length = kept.length := by
  have := congrArg List.length x.keys
  simpa using this
theorem redStep_pos {kept : List (Int × List Int)} {left : List Int} {head : Int} (h : head ∈ left) : redStep kept left head = symd left (keptAt kept head) := by unfold redStep; rw [if_pos h]
theorem redStep_neg {kept : List (Int × List Int)} {left : List Int} {head : Int} (h : head ∉ left) : redStep kept left head = left := by unfold redStep; rw [if_neg h]
/-- the fold of the differences, so far -/
theorem redStep_in {pg : List Int} {kept : List (Int × List Int)} (hk : ∀ kv ∈ kept, SI' pg kv.2) {left : List Int} (hl : SI' pg left) {head : Int} (hh : head ∈ kept.map (·.1)) : SI' pg (redStep kept left head) := by
  unfold redStep
  split
  · refine symd_in hl ?_
    unfold keptAt
    cases e : kept.find? fun kv => kv.1 = head with
    | none =>
      obtain ⟨kv, h1, h2⟩ := List.mem_map.mp hh
      have := List.find?_eq_none.mp e kv h1
      simp [h2] at this
    | some kv => exact hk kv (List.mem_of_find?_eq_some e)
  · exact hl
theorem fold_in {pg : List Int} {kept : List (Int × List Int)} (hk : ∀ kv ∈ kept, SI' pg kv.2) : ∀ (hs : List Int) {left : List Int}, SI' pg left → (∀ z ∈ hs, z ∈ kept.map (·.1)) → SI' pg (hs.foldl (redStep kept) left)
  | [], _, hl, _ => hl
  | z :: hs, _, hl, hz => fold_in hk hs (redStep_in hk hl (hz z (.head _))) fun y hy => hz y (.tail _ hy)

theorem ints_split {pre post : List Value} {v : Value} {hs : List Int} (a : IntsAre (pre ++ v :: post) hs) : ∃ pz z qz t, hs = pz ++ z :: qz ∧ IntsAre pre pz ∧ v = .int z t := by
  induction pre generalizing hs with
  | nil =>
    cases a with
    | cons z t h => exact ⟨[], z, _, t, rfl, .nil, rfl⟩
  | cons _ pre ih =>
    cases a with
    | cons n u h =>
      obtain ⟨pz, z, qz, t, rfl, h1, h2⟩ := ih h
      exact ⟨n :: pz, z, qz, t, rfl, .cons n u h1, h2⟩
/-- where the reducing loop stands -/
def RJ (ar : Addr) (vr : List Value) (l : List Env) (frs : List (Addr × Obj)) (B d : Addr) (ys : List Value) (eB : Nat) (row : List Int) (kept : List (Int × List Int)) (pre : List Value) (m : Str → Option Value) (news : List (Addr × Obj)) : Prop :=
  ∃ frs' aL vL eL extra pz, TI.SameUp frs frs' ∧ TI.Frs l frs' ∧ news = (B, lobj ys eB) :: (extra ++ frs') ∧ ((extra = [] ∧ aL = ar ∧ vL = vr) ∨ extra = [(aL, lobj vL eL)]) ∧ m (Str.ofString "left") = some (.ref aL) ∧ m (Str.ofString "kept") = some (.ref d) ∧
    IntsAre pre pz ∧ IntsAre vL (pz.foldl (redStep kept) row)
theorem any_mem {xs : List Int} {k : Int} : xs.any (· == k) = decide (k ∈ xs) := by
  rw [Bool.eq_iff_iff]
  simp [List.any_eq_true]
end Mine

open PySem PySem.W PyProof.Rows
set_option Elab.async false
set_option linter.unusedSimpArgs false
namespace Mine
local macro_rules | `(tactic| walk_at "m rm") => `(tactic| first | exact Rm.le (by assumption) (by decide) | exact Rm.le (Rm.deeper (by assumption)) (by decide))
local macro_rules | `(tactic| walk_at "m back") => `(tactic| (intro h' tk' g'; have F' := frExt g' (by assumption); have N' := newsExt g' (by assumption); clear g'; (try k_sweep); (try dsimp only)))
set_option maxRecDepth 100000 in
set_option maxHeartbeats 4000000 in
theorem red_c {w : World} {mean : ExcName → Option Value} {mg mb : Str → Option Value} {A : Around} {s : Shared} {Q E : Value → Shared → Prop} {l : List Env} {frs : List (Addr × Obj)}
    {ar d : Addr} {vr : List Value} {row : List Int} {kvs : List (Int × Value)} {kept : List (Int × List Int)} {pg : List Int}
    (hfr : A.frames = some l) (Fs : TI.Frs l frs) (hat : ∀ p ∈ frs, s.heap.get? p.1 = some p.2)
    (X : (hd.heap_39 w.params).In (TI.gone s.heap (frs.map (·.1)))) (T : Top hd.view_39 (looseW hd.view_39 []) mean mg mb (TI.gone s.heap (frs.map (·.1)))) (hA : Rm A 2)
    (hr : (TI.gone s.heap (frs.map (·.1))).IsList ar vr.toArray) (ir : IntsAre vr row) (hD : (TI.gone s.heap (frs.map (·.1))).DictOf (intKind Challenge.rw_mj0077_01.row.prog w) d kvs) (lo : (d == sysModules) = false) (hkv : KV (TI.gone s.heap (frs.map (·.1))) kvs kept)
    (hpg : pg.length ≤ 20) (sr : SI' pg row) (sk : ∀ kv ∈ kept, SI' pg kv.2) (lk : kept.length ≤ 20)
    (hQ : ∀ h' tk' frs' a vs e, TI.SameUp frs frs' → TI.Frs l frs' → (∀ p ∈ frs', h'.get? p.1 = some p.2) → Ext (TI.gone s.heap (frs.map (·.1))) h' →
      ((a = ar ∧ vs = vr) ∨ (s.heap.get? a = none ∧ h'.get? a = some (lobj vs e))) → IntsAre vs (redL row kept) → Q (.ref a) { s with heap := h', toks := tk' }) :
    wpAny (model Challenge.rw_mj0077_01.row.prog w) A (call (.ref 157) [.ref ar, .ref d]) Q E s := by
  revert X
  w_top off
  k_fill
  intro X
  refine' enterX (binds := [(Str.ofString "row", .ref ar), (Str.ofString "kept", .ref d)]) Fs hat X T ?k6 ?k7 ?k8 ?k9 ?kB ?_ ?c2 ?c3 ?c4 ?c5
  ((case k6 => k_is); (case k7 => k_is); (case k8 => exact rmLt (by assumption)); (case k9 => exact BindsTo.of_eq rfl); (case kB => exact locs rfl); (case c2 => exact rfl); (case c3 => exact rfl); (case c4 => exact rfl); (case c5 => decide))
  intro L h₁ tk hLs F N
  generalize hhb : TI.gone s.heap (frs.map (·.1)) = hb at X T F N hr hD hkv hQ
  have hh : A.handled = none := hA.han
  have hfr' : ∀ env, (A.deeper env).frames = some (env :: l) := fun env => by show A.frames.map _ = _; rw [hfr]; rfl
  repeat' ((fail_if_success (with_reducible show wpAny _ _ (exec (Stmt.For _ _ _ _ _) _) _ _ _)); walk1)
  refine wpAny_For ?_
  repeat' ((fail_if_success (with_reducible show wpAny _ _ (call (Value.builtin "sorted") _) _ _ _)); walk1)
  rename_i F N
  have lk' : kvs.length < 64 := by rw [hkv.length]; omega
  refine sortedDict_c hh F N (hD.keep F.keep) lo lk' fun h2 tk2 B ys eB F2 N2 l2 hI2 => ?_
  rw [hkv.keys] at hI2
  refine forList (RJ ar vr l frs B d ys eB row kept) hh rfl rfl F2 N2 ⟨_, (N2 _ (.head _)).1, rfl, _, rfl⟩ ⟨frs, ar, vr, 0, [], [], .refl _, Fs, rfl, .inl ⟨rfl, rfl, rfl⟩, rfl, rfl, .nil, ir⟩ ?turn ?done
  case done =>
    intro m₁ news₁ h tk hJ F₁ N₁
    obtain ⟨frs', aL, vL, eL, extra, pz, SU, Fs', rfl, hex, hml, hmk, hIp, hIL⟩ := hJ
    dsimp only
    refine wpAny_execs_cons (wpAny_Return_some (lname F₁.ns hml rfl rfl (by decide) ?_))
    dsimp only
    have hpz : pz = srt (kept.map (·.1)) := by
      have h1 := hIp.nums
      have h2 := hI2.nums
      rw [← h1, ← h2]
    subst hpz
    refine hQ h tk frs' aL vL eL SU Fs' (fun p hp => (N₁ p (.tail _ (List.mem_append_right _ hp))).1) F₁.keep ?_ hIL
    rcases hex with ⟨rfl, rfl, rfl⟩ | rfl
    · exact .inl ⟨rfl, rfl⟩
    · have q := N₁ (aL, lobj vL eL) (.tail _ (.head _))
      refine .inr ⟨?_, q.1⟩
      have q2 := q.2.2
      rw [← hhb, TI.gone_get (fun hm => ?_)] at q2
      · exact q2
      · obtain ⟨x, hx, e⟩ := List.mem_map.mp hm
        obtain ⟨sl, hx'⟩ := SU.back x hx
        have q3 := (N₁ _ (.tail _ (.tail _ hx'))).1
        have e' : x.1 = aL := e
        rw [e'] at q3
        have q4 : h.get? aL = some (lobj vL eL) := q.1
        rw [q4] at q3
        obtain ⟨es, ep, hd⟩ := Fs.dict x hx
        have := congrArg Obj.data (Option.some.inj q3)
        rw [show ({ x.2 with slots := sl } : Obj).data = x.2.data from rfl, hd] at this
        cases this
  case turn =>
    intro pre v post m₁ news₁ h tk I oI E' hys hJ F₁ N₁ hI hnI hBl hlI hsI
    obtain ⟨frs', aL, vL, eL, extra, pz, SU, Fs', rfl, hex, hml, hmk, hIp, hIL⟩ := hJ
    have hIs := hI2
    rw [hys] at hIs
    obtain ⟨pz', z, qz, tz, hhs, hIp', rfl⟩ := ints_split hIs
    obtain rfl : pz' = pz := by rw [← hIp'.nums, ← hIp.nums]
    have hzk : z ∈ kept.map (·.1) := by
      have : z ∈ srt (kept.map (·.1)) := by rw [hhs]; simp
      exact srt_mem.mp this
    have hpk : ∀ y ∈ pz', y ∈ kept.map (·.1) := fun y hy => by
      have : y ∈ srt (kept.map (·.1)) := by rw [hhs]; simp [hy]
      exact srt_mem.mp this
    have sL := fold_in sk pz' sr hpk
    have hLl : h.IsList aL vL.toArray := by
      rcases hex with ⟨rfl, rfl, rfl⟩ | rfl
      · exact isList_ext F₁.keep hr
      · exact ⟨_, (N₁ (aL, lobj vL eL) (.tail _ (.tail _ (.head _)))).1, rfl, _, rfl⟩
    obtain ⟨vz, hvz, hiz, kvz, hkvz, hkz⟩ := hkv.at hzk
    have sz : SI' pg (keptAt kept z) := by rw [hkz]; exact sk kvz hkvz
    obtain ⟨az, wz, rfl, hlz, hIz⟩ := hiz
    have hlz' : h.IsList az wz.toArray := isList_ext F₁.keep hlz
    have hm1 : (fun y => if y = Str.ofString "head" then some (Value.int z tz) else m₁ y) (Str.ofString "left") = some (.ref aL) := upd_ne (by decide) hml
    have hm2 : (fun y => if y = Str.ofString "head" then some (Value.int z tz) else m₁ y) (Str.ofString "kept") = some (.ref d) := upd_ne (by decide) hmk
    have hm3 : (fun y => if y = Str.ofString "head" then some (Value.int z tz) else m₁ y) (Str.ofString "head") = some (.int z tz) := upd_self
    generalize (fun y => if y = Str.ofString "head" then some (Value.int z tz) else m₁ y) = m2 at F₁ hm1 hm2 hm3
    have hpre : IntsAre (pre ++ [.int z tz]) (pz' ++ [z]) := hIp.append (.cons z tz .nil)
    refine wpAny_execs_cons (wpAny_If (wpAny_isTrue_Compare1 (lname F₁.ns hm3 rfl rfl (by decide) (lname F₁.ns hm1 rfl rfl (by decide) (in_list_ints hLl hIL (wpAny_truthy_bool ?_))))))
    rw [any_mem]
    by_cases hin : z ∈ pz'.foldl (redStep kept) row
    · rw [if_pos (by simpa using hin)]
      dsimp only
      obtain ⟨oL, hoL⟩ := ns_some F₁.ns
      have N₁' : News hb L h (((I, oI) :: (B, lobj ys eB) :: extra) ++ frs') := N₁
      have hnew : ∀ p ∈ ((I, oI) :: (B, lobj ys eB) :: extra), ∀ es ep, p.2.data ≠ .dict es ep := by
        intro p hp
        rcases List.mem_cons.mp hp with rfl | hp
        · exact hnI
        rcases List.mem_cons.mp hp with rfl | hp
        · intro es ep q; cases q
        · rcases hex with ⟨rfl, _⟩ | rfl
          · cases hp
          · rw [List.mem_singleton.mp hp]; intro es ep q; cases q
      have eg := ext_gone F₁ N₁'
      have lenL := sL.len
      have lenz := sz.len
      refine wpAny_execs_cons (Assign_Tuple ?_)
      refine Call_ ?_
      refine' gname (X.keeps F₁.keep) (T.keeps F₁.keep) ?e1 rfl rfl rfl (by decide) ?_
      case e1 => k_is
      refine' callWith_K (X.keeps F₁.keep) ?e2 ?_
      case e2 => k_is
      refine args_cons (lname F₁.ns hm1 rfl rfl (by decide) ?_)
      refine args_cons (Subscript_Name (lname F₁.ns hm2 rfl rfl (by decide) (lname F₁.ns hm3 rfl rfl (by decide) ⟨"dict", _, slot_dict_getitem.lookup, (hD.keep F₁.keep).typeIs (s := { s with heap := h, toks := tk }), ?_⟩)))
      refine wpAny_getItem_of (knd := intKind _ w) (k := z) (by simp [intKind, Value.isInt]) (hD.keep F₁.keep).mapOf hvz (args_nil ⟨X.keeps F₁.keep, ?_⟩)
      dsimp only
      refine sld_c (s := { s with heap := h, toks := tk + 1 }) (l := _ :: l) (frs := (L, oL) :: frs') (hfr' _) (frs_push F₁ hoL rfl rfl Fs') ?_ (X.keeps eg) (T.keeps eg) (by walk_at "m rm") hLl hlz' hIL hIz sL.1 sz.1 (by omega) (by omega) ?_
      · intro p hp
        rcases List.mem_cons.mp hp with rfl | hp
        · exact hoL
        · exact (N₁' p (List.mem_append_right _ hp)).1
      intro h3 tk3 frs'' a M U vM eM vU eU SU3 Fs3 hat3 g3 fa fM fU ha hM hU iM iU
      obtain ⟨frs3, SU4, Fs4, F3, N3⟩ := backX F₁ N₁' hnew Fs' hoL SU3 hat3 g3
      have fL : ∀ b, h.get? b = none → b ≠ L ∧ hb.get? b = none := fun b fb => ⟨fresh_ne fb hoL, fresh_of_ext F₁.keep fb⟩
      have N4 : News hb L h3 ((a, { cls := .type "tuple", data := .seq #[.ref M, .ref U] }) :: (M, lobj vM eM) :: (U, lobj vU eU) :: (I, oI) :: (B, lobj ys eB) :: (extra ++ frs3)) := by
        intro p hp
        rcases List.mem_cons.mp hp with rfl | hp
        · exact ⟨ha, fL _ fa⟩
        rcases List.mem_cons.mp hp with rfl | hp
        · exact ⟨hM, fL _ fM⟩
        rcases List.mem_cons.mp hp with rfl | hp
        · exact ⟨hU, fL _ fU⟩
        · exact N3 p hp
      dsimp only
      refine unpackN_ F3 N4 ⟨_, ha, rfl, _, rfl⟩ hh rfl rfl fun h4 F4 N4 => ?_
      refine assignInOrder_cons (wpAny_assign_Name (stN F4 N4 fun h5 F5 N5 => ?_))
      refine assignInOrder_cons (wpAny_assign_Name (stN F5 N5 fun h6 F6 N6 => ?_))
      refine assignInOrder_nil ?_
      dsimp only
      have F6' : Fr hb L h6 (upd (upd m2 (Str.ofString "missing") (.ref M)) (Str.ofString "unexpected") (.ref U)) := F6
      have hm5 : upd (upd m2 (Str.ofString "missing") (.ref M)) (Str.ofString "unexpected") (.ref U) (Str.ofString "missing") = some (.ref M) := upd_ne (by decide) upd_self
      have hm6 : upd (upd m2 (Str.ofString "missing") (.ref M)) (Str.ofString "unexpected") (.ref U) (Str.ofString "unexpected") = some (.ref U) := upd_self
      have hm7 : upd (upd m2 (Str.ofString "missing") (.ref M)) (Str.ofString "unexpected") (.ref U) (Str.ofString "kept") = some (.ref d) := upd_ne (by decide) (upd_ne (by decide) hm2)
      clear F6
      generalize upd (upd m2 (Str.ofString "missing") (.ref M)) (Str.ofString "unexpected") (.ref U) = m6 at F6' hm5 hm6 hm7
      have F6 := F6'
      clear F6'
      have lsd : (sdiff (pz'.foldl (redStep kept) row) (keptAt kept z)).1.length + (sdiff (pz'.foldl (redStep kept) row) (keptAt kept z)).2.length ≤ 20 := by
        have := (symd_in sL sz).len
        unfold symd at this
        rw [(srt_perm _).length_eq, List.length_append] at this
        omega
      refine wpAny_execs_cons (wpAny_Assign_Name (Call_ ?_))
      refine' bname (X.keeps F6.keep) (T.keeps F6.keep) ?e1 (v := .builtin "sorted") (by decide +kernel) (by decide) rfl rfl rfl rfl (by decide) ?_
      case e1 => k_is
      refine callWith_builtin1 (args_cons (wpAny_BinOp (lname F6.ns hm5 rfl rfl (by decide) (lname F6.ns hm6 rfl rfl (by decide) ?_))))
      refine addInts_c F6 N6 ⟨_, (N6 _ (.tail _ (.head _))).1, rfl, _, rfl⟩ ⟨_, (N6 _ (.tail _ (.tail _ (.head _)))).1, rfl, _, rfl⟩ iM iU (by omega) fun h7 D F7 N7 l7 hI7 => args_nil ?_
      dsimp only
      refine sorted_c ⟨_, (N7 _ (.head _)).1, rfl, _, rfl⟩ hI7 (by rw [List.length_append]; omega) fun h8 b ws g8 fb hp8 hI8 => ?_
      obtain ⟨eb, hb8⟩ := hp8
      have N8 := newsAdd g8 F7 N7 fb hb8
      have F8 := frExt g8 F7
      dsimp only
      refine stN F8 N8 fun h9 F9 N9 => wpAny_execs_nil (wpAny_execs_nil ?_)
      refine turnEnd (.inl rfl) F9 (news' := (B, lobj ys eB) :: ([(b, lobj ws eb)] ++ frs3)) (fun p hp => N9 p ?_) ?_ ?_ ⟨frs3, b, ws, eb, [(b, lobj ws eb)], pz' ++ [z], SU.trans SU4, Fs4, rfl, .inr rfl, upd_self, upd_ne (by decide) hm7, hpre, ?_⟩
      · rcases List.mem_cons.mp hp with rfl | hp
        · exact .tail _ (.tail _ (.tail _ (.tail _ (.tail _ (.head _)))))
        rcases List.mem_cons.mp hp with rfl | hp
        · exact .tail _ (.tail _ (.tail _ (.tail _ (.tail _ (.tail _ (.head _))))))
        rcases List.mem_cons.mp hp with rfl | hp
        · exact .head _
        · exact .tail _ (.tail _ (.tail _ (.tail _ (.tail _ (.tail _ (.tail _ (List.mem_append_right _ hp)))))))
      · intro p hp
        rcases List.mem_cons.mp hp with rfl | hp
        · exact hlI
        rcases List.mem_cons.mp hp with rfl | hp
        · exact Ne.symm (Nat.ne_of_lt (Nat.lt_of_lt_of_le (Heap.lt_size (N7 (I, oI) (.tail _ (.tail _ (.tail _ (.tail _ (.head _)))))).1) fb))
        · obtain ⟨x, hx, e⟩ := SU4.fwd p hp
          rw [e]
          exact hI x (.tail _ (List.mem_append_right _ hx))
      · intro c hc o q
        rcases List.mem_cons.mp hc with rfl | hc
        · rw [(N₁ _ (.head _)).1] at q
          cases q
          exact (N9 (_, oI) (.tail _ (.tail _ (.tail _ (.tail _ (.tail _ (.head _))))))).1
        · rw [List.mem_singleton] at hc
          subst hc
          rw [(N₁ (c, lobj ys eB) (.tail _ (.head _))).1] at q
          cases q
          exact (N9 (c, lobj ys eB) (.tail _ (.tail _ (.tail _ (.tail _ (.tail _ (.tail _ (.head _)))))))).1
      · rw [List.foldl_append]
        show IntsAre ws (redStep kept _ z)
        rw [redStep_pos hin]
        exact hI8
    · rw [if_neg (by simpa using hin)]
      refine wpAny_execs_nil (wpAny_execs_nil ?_)
      refine turnEnd (.inl rfl) F₁ N₁ hI (fun b hb o q => q) ⟨frs', aL, vL, eL, extra, pz' ++ [z], SU, Fs', rfl, hex, hm1, hm2, hpre, ?_⟩
      rw [List.foldl_append]
      show IntsAre vL (redStep kept _ z)
      rw [redStep_neg hin]
      exact hIL
end Mine

open PySem PySem.W PyProof.Rows
set_option Elab.async false
set_option linter.unusedSimpArgs false
namespace Mine
/-- a store under a head -/
def storedL (kept : List (Int × List Int)) (k : Int) (v : List Int) : List (Int × List Int) :=
  if kept.any (fun kv => kv.1 = k) then kept.map (fun kv => if kv.1 = k then (kv.1, v) else kv) else kept ++ [(k, v)]
def keptStep (kept : List (Int × List Int)) (row : List Int) : List (Int × List Int) :=
  match redL row kept with
  | [] => kept
  | x :: xs => storedL kept x (x :: xs)
def keptL (rows : List (List Int)) : List (Int × List Int) := rows.foldl keptStep []

theorem storedL_mem {kept : List (Int × List Int)} {k : Int} {v : List Int} {q : Int × List Int} (h : q ∈ storedL kept k v) : q ∈ kept ∨ q = (k, v) := by
  unfold storedL at h
  split at h
  · obtain ⟨p, hp, e⟩ := List.mem_map.mp h
    split at e
    · rename_i hk; right; rw [← e, hk]
    · left; rw [← e]; exact hp
  · rcases List.mem_append.mp h with h | h
    · exact .inl h
    · exact .inr (by simpa using h)
theorem storedL_len (kept : List (Int × List Int)) (k : Int) (v : List Int) : (storedL kept k v).length ≤ kept.length + 1 := by
  unfold storedL
  split
  · rw [List.length_map]; omega
  · simp
theorem redL_in {pg row : List Int} {kept : List (Int × List Int)} (hr : SI' pg row) (hk : ∀ kv ∈ kept, SI' pg kv.2) : SI' pg (redL row kept) := fold_in hk _ hr fun z hz => srt_mem.mp hz
theorem keptStep_in {pg row : List Int} {kept : List (Int × List Int)} (hr : SI' pg row) (hk : ∀ kv ∈ kept, SI' pg kv.2) : ∀ kv ∈ keptStep kept row, SI' pg kv.2 := by
  have h := redL_in hr hk
  unfold keptStep
  split
  · exact hk
  · rename_i x xs e
    rw [e] at h
    intro kv hkv
    rcases storedL_mem hkv with h1 | rfl
    · exact hk kv h1
    · exact h
theorem keptStep_len (kept : List (Int × List Int)) (row : List Int) : (keptStep kept row).length ≤ kept.length + 1 := by
  unfold keptStep
  split
  · omega
  · exact storedL_len ..
theorem keptL_snoc (rows : List (List Int)) (row : List Int) : keptL (rows ++ [row]) = keptStep (keptL rows) row := by simp [keptL, List.foldl_append]
theorem foldl_keptStep_in {pg : List Int} : ∀ {rows : List (List Int)} {kept : List (Int × List Int)}, (∀ row ∈ rows, SI' pg row) → (∀ kv ∈ kept, SI' pg kv.2) → ∀ kv ∈ rows.foldl keptStep kept, SI' pg kv.2
  | [], _, _, hk => hk
  | row :: rows, kept, hr, hk => foldl_keptStep_in (rows := rows) (kept := keptStep kept row) (fun r h => hr r (List.mem_cons_of_mem _ h)) (keptStep_in (hr row List.mem_cons_self) hk)
theorem keptL_in {pg : List Int} {rows : List (List Int)} (hr : ∀ row ∈ rows, SI' pg row) : ∀ kv ∈ keptL rows, SI' pg kv.2 := foldl_keptStep_in hr (fun _ h => nomatch h)
theorem foldl_keptStep_len : ∀ (rows : List (List Int)) (kept : List (Int × List Int)), (rows.foldl keptStep kept).length ≤ kept.length + rows.length
  | [], _ => Nat.le_refl _
  | row :: rows, kept => by
    have h1 := foldl_keptStep_len rows (keptStep kept row)
    have h2 := keptStep_len kept row
    simp only [List.foldl_cons, List.length_cons]
    omega
theorem keptL_len (rows : List (List Int)) : (keptL rows).length ≤ rows.length := by have := foldl_keptStep_len rows []; simpa [keptL] using this

/-- a list of ints, in the base or on the ledger -/
def InL (hb : Heap) (zs : List (Addr × Obj)) (v : Value) (xs : List Int) : Prop := ∃ a vs, v = .ref a ∧ IntsAre vs xs ∧ (hb.IsList a vs.toArray ∨ ∃ e, (a, lobj vs e) ∈ zs)
theorem InL.mono {hb : Heap} {zs zs' : List (Addr × Obj)} {v : Value} {xs : List Int} (h : InL hb zs v xs) (hs : ∀ p ∈ zs, p ∈ zs') : InL hb zs' v xs := by
  obtain ⟨a, vs, e, hi, h⟩ := h
  exact ⟨a, vs, e, hi, h.imp id fun ⟨n, hm⟩ => ⟨n, hs _ hm⟩⟩
theorem InL.isInts {hb h : Heap} {zs : List (Addr × Obj)} {v : Value} {xs : List Int} (x : InL hb zs v xs) (g : Ext hb h) (hz : ∀ p ∈ zs, h.get? p.1 = some p.2) : IsInts h v xs := by
  obtain ⟨a, vs, e, hi, x⟩ := x
  refine ⟨a, vs, e, ?_, hi⟩
  rcases x with x | ⟨n, hm⟩
  · exact isList_ext g x
  · exact ⟨_, hz _ hm, rfl, n, rfl⟩
def KVo (hb : Heap) (zs : List (Addr × Obj)) (kvs : List (Int × Value)) (kept : List (Int × List Int)) : Prop := Paired (fun p q => p.1 = q.1 ∧ InL hb zs p.2 q.2) kvs kept
theorem KVo.mono {hb : Heap} {zs zs' : List (Addr × Obj)} {kvs : List (Int × Value)} {kept : List (Int × List Int)} (x : KVo hb zs kvs kept) (hs : ∀ p ∈ zs, p ∈ zs') : KVo hb zs' kvs kept := by
  induction x with
  | nil => exact .nil
  | cons a _ ih => exact .cons ⟨a.1, a.2.mono hs⟩ ih
theorem KVo.kv {hb h : Heap} {zs : List (Addr × Obj)} {kvs : List (Int × Value)} {kept : List (Int × List Int)} (x : KVo hb zs kvs kept) (g : Ext hb h) (hz : ∀ p ∈ zs, h.get? p.1 = some p.2) : KV h kvs kept := by
  induction x with
  | nil => exact .nil
  | cons a _ ih => exact .cons ⟨a.1, a.2.isInts g hz⟩ ih
theorem KVo.any {hb : Heap} {zs : List (Addr × Obj)} {kvs : List (Int × Value)} {kept : List (Int × List Int)} (x : KVo hb zs kvs kept) (k : Int) : kvs.any (fun kv => kv.1 = k) = kept.any (fun kv => kv.1 = k) := by
  induction x with
  | nil => rfl
  | cons a _ ih => simp only [List.any_cons, a.1, ih]
theorem KVo.storedMap {hb : Heap} {zs : List (Addr × Obj)} {kvs : List (Int × Value)} {kept : List (Int × List Int)} (x : KVo hb zs kvs kept) {k : Int} {v : Value} {xs : List Int} (hv : InL hb zs v xs) :
    KVo hb zs (kvs.map fun kv => if kv.1 = k then (kv.1, v) else kv) (kept.map fun kv => if kv.1 = k then (kv.1, xs) else kv) := by
  induction x with
  | nil => exact .nil
  | cons a _ ih =>
    refine .cons ?_ ih
    dsimp only
    rw [a.1]
    split
    · exact ⟨a.1.trans rfl |>.trans rfl |> fun _ => rfl, hv⟩
    · exact a
theorem KVo.stored {hb : Heap} {zs : List (Addr × Obj)} {kvs : List (Int × Value)} {kept : List (Int × List Int)} (x : KVo hb zs kvs kept) {k : Int} {v : Value} {xs : List Int} (hv : InL hb zs v xs) : KVo hb zs (PySem.stored kvs k v) (storedL kept k xs) := by
  unfold PySem.stored storedL
  rw [x.any k]
  split
  · exact x.storedMap hv
  · exact Paired.snoc x ⟨rfl, hv⟩

section
variable {hb h h' : Heap} {L : Addr} {m : Str → Option Value} {new frs' frs'' : List (Addr × Obj)} {oL : Obj}
theorem backY (F : Fr hb L h m) (N : News hb L h (new ++ frs')) (hap : ∀ p ∈ new, ∀ x ∈ frs', x.1 ≠ p.1) {l : List Env} (Fs : TI.Frs l frs') (hoL : h.get? L = some oL) (SU : TI.SameUp ((L, oL) :: frs') frs'') (hat : ∀ p ∈ frs'', h'.get? p.1 = some p.2)
    (g : Ext (TI.gone h (L :: frs'.map (·.1))) h') : ∃ frs3, TI.SameUp frs' frs3 ∧ TI.Frs l frs3 ∧ Fr hb L h' m ∧ News hb L h' (new ++ frs3) := by
  cases frs'' with
  | nil => exact False.elim SU
  | cons q frs3 =>
    obtain ⟨e1, ⟨sl, e2⟩, SU3⟩ := SU
    have e1' : q.1 = L := e1
    have e2' : q.2 = { oL with slots := sl } := e2
    have hL' : h'.get? L = some { oL with slots := sl } := by rw [← e2', ← e1']; exact hat q (.head _)
    obtain ⟨o, es, ep, ho, hd, hr⟩ := F.ns
    rw [hoL] at ho
    cases ho
    refine ⟨frs3, SU3, Fs.up SU3, ⟨⟨_, es, ep, hL', hd, hr⟩, fun b o q => g b o ?_, F.above⟩, fun p hp => ?_⟩
    · exact (TI.gone_get (TI.base_apart F N TI.tail_sub q)).trans (F.keep b o q)
    · rcases List.mem_append.mp hp with hp | hp
      · have q := N p (List.mem_append_left _ hp)
        refine ⟨g _ _ ((TI.gone_get fun hm => ?_).trans q.1), q.2⟩
        rcases List.mem_cons.mp hm with hm | hm
        · exact q.2.1 hm
        · obtain ⟨x, hx, e⟩ := List.mem_map.mp hm
          exact hap p hp x hx e
      · obtain ⟨x, hx, e⟩ := SU3.fwd p hp
        have q := (N x (TI.tail_sub x hx)).2
        exact ⟨hat p (.tail _ hp), by rw [e]; exact q.1, by rw [e]; exact q.2⟩
theorem apart_of {l : List Env} (N : News hb L h (new ++ frs')) (Fs : TI.Frs l frs') {p : Addr × Obj} (hp : p ∈ new) (hd : ∀ es ep, p.2.data ≠ .dict es ep) : ∀ x ∈ frs', x.1 ≠ p.1 := fun x hx e => by
  obtain ⟨es', ep', hd'⟩ := Fs.dict x hx
  have h2 := (N x (TI.tail_sub x hx)).1
  rw [e, (N p (List.mem_append_left _ hp)).1] at h2
  exact hd es' ep' (by rw [Option.some.inj h2]; exact hd')
/-- a ledger entry outside the frames stands in the heap without them -/
theorem gone_new (N : News hb L h (new ++ frs')) {p : Addr × Obj} (hp : p ∈ new) (hap : ∀ x ∈ frs', x.1 ≠ p.1) : (TI.gone h (L :: frs'.map (·.1))).get? p.1 = some p.2 := by
  have q := N p (List.mem_append_left _ hp)
  refine (TI.gone_get fun hm => ?_).trans q.1
  rcases List.mem_cons.mp hm with hm | hm
  · exact q.2.1 hm
  · obtain ⟨x, hx, e⟩ := List.mem_map.mp hm
    exact hap x hx e
end
theorem allInts_split {h : Heap} {pre post : List Value} {v : Value} {rows : List (List Int)} (a : AllInts h (pre ++ v :: post) rows) : ∃ pz z qz, rows = pz ++ z :: qz ∧ AllInts h pre pz ∧ IsInts h v z := by
  induction pre generalizing rows with
  | nil =>
    cases a with
    | cons a _ => exact ⟨[], _, _, rfl, .nil, a⟩
  | cons _ pre ih =>
    cases a with
    | cons a h =>
      obtain ⟨pz, z, qz, rfl, h1, h2⟩ := ih h
      exact ⟨_ :: pz, z, qz, rfl, .cons a h1, h2⟩
theorem AllInts.snoc {h : Heap} {pre : List Value} {v : Value} {pz : List (List Int)} {z : List Int} (a : AllInts h pre pz) (b : IsInts h v z) : AllInts h (pre ++ [v]) (pz ++ [z]) := by
  induction a with
  | nil => exact .cons b .nil
  | cons a _ ih => exact .cons a ih
theorem AllInts.inj {h : Heap} {vs : List Value} {xs ys : List (List Int)} (a : AllInts h vs xs) (b : AllInts h vs ys) : xs = ys := by
  induction a generalizing ys with
  | nil => cases b; rfl
  | cons a _ ih =>
    cases b with
    | cons b q =>
      obtain ⟨a1, v1, e1, l1, i1⟩ := a
      obtain ⟨a2, v2, e2, l2, i2⟩ := b
      rw [e1] at e2
      cases e2
      obtain ⟨o, ho, _, n, hd⟩ := l1
      obtain ⟨o', ho', _, n', hd'⟩ := l2
      rw [ho] at ho'
      cases ho'
      rw [hd] at hd'
      cases hd'
      rw [ih q, ← i1.nums, ← i2.nums]
/-- a list written empty -/
theorem nilList {M : Model} {A : Around} {env : Env} {E : Value → Shared → Prop} {s : Shared} {L : Addr} {hb : Heap} {m : Str → Option Value} {news : List (Addr × Obj)} {pos : Pos} {Q : Value → Shared → Prop} (F : Fr hb L s.heap m) (N : News hb L s.heap news)
    (h : ∀ h' b, Fr hb L h' m → News hb L h' ((b, lobj [] 0) :: news) → (∀ p ∈ news, p.1 < b) → s.heap.objs.size ≤ b → Ext s.heap h' → Q (.ref b) { s with heap := h' }) : wpAny M A (eval (.List [] pos) env) Q E s :=
  List_ (spliced_none (wpAny_newObj_type (h _ _ (F.push _) (N.push F _) (fun p hp => Heap.lt_size (N p hp).1) (Nat.le_refl _) fun _ _ q => Heap.get?_push_of_some _ q) (Nat.zero_le _)))
/-- a store in one cell -/
theorem sameBut_fr {hb h h' : Heap} {L d : Addr} {m : Str → Option Value} {news : List (Addr × Obj)} {od : Obj} (SB : Heap.SameBut d h h') (F : Fr hb L h m) (N : News hb L h news) (hd : (d, od) ∈ news) : Fr hb L h' m ∧ ∀ p ∈ news, p.1 ≠ d → h'.get? p.1 = some p.2 := by
  have q := N _ hd
  refine ⟨⟨F.ns.at' fun o e => (SB.2 _ (Ne.symm q.2.1)).trans e, fun b o e => (SB.2 _ ?_).trans (F.keep b o e), F.above⟩, fun p hp hne => (SB.2 _ hne).trans (N p hp).1⟩
  rintro rfl
  have q2 : hb.get? b = none := q.2.2
  rw [q2] at e
  cases e
/-- where the keeping loop stands -/
def KJ (hb : Heap) (P : Program) (w : World) (l : List Env) (frs : List (Addr × Obj)) (d : Addr) (pre : List Value) (m : Str → Option Value) (news : List (Addr × Obj)) : Prop :=
  ∃ frs' zs kvs od pz, TI.SameUp frs frs' ∧ TI.Frs l frs' ∧ news = (d, od) :: (zs ++ frs') ∧ (∀ p ∈ zs, Lst p) ∧ od.IsDictOf (intKind P w) kvs ∧ m (Str.ofString "kept") = some (.ref d) ∧ AllInts hb pre pz ∧ KVo hb zs kvs (keptL pz)
end Mine

open PySem PySem.W PyProof.Rows
set_option Elab.async false
set_option linter.unusedSimpArgs false
namespace Mine
local macro_rules | `(tactic| walk_at "m rm") => `(tactic| first | exact Rm.le (by assumption) (by decide) | exact Rm.le (Rm.deeper (by assumption)) (by decide))
local macro_rules | `(tactic| walk_at "m back") => `(tactic| (intro h' tk' g'; have F' := frExt g' (by assumption); have N' := newsExt g' (by assumption); clear g'; (try k_sweep); (try dsimp only)))
set_option maxRecDepth 100000 in
set_option maxHeartbeats 4000000 in
theorem kept_c {w : World} {mean : ExcName → Option Value} {mg mb : Str → Option Value} {A : Around} {s : Shared} {Q E : Value → Shared → Prop} {l : List Env} {frs : List (Addr × Obj)}
    {ak : Addr} {vk : List Value} {rows : List (List Int)} {pg : List Int}
    (hfr : A.frames = some l) (Fs : TI.Frs l frs) (hat : ∀ p ∈ frs, s.heap.get? p.1 = some p.2)
    (X : (hd.heap_39 w.params).In (TI.gone s.heap (frs.map (·.1)))) (T : Top hd.view_39 (looseW hd.view_39 []) mean mg mb (TI.gone s.heap (frs.map (·.1)))) (hA : Rm A 3)
    (hk : (TI.gone s.heap (frs.map (·.1))).IsList ak vk.toArray) (hrows : AllInts (TI.gone s.heap (frs.map (·.1))) vk rows)
    (hpg : pg.length ≤ 20) (sr : ∀ row ∈ rows, SI' pg row) (lr : rows.length ≤ 20)
    (hQ : ∀ h' tk' frs' d kvs, TI.SameUp frs frs' → TI.Frs l frs' → (∀ p ∈ frs', h'.get? p.1 = some p.2) → Ext (TI.gone s.heap (frs.map (·.1))) h' →
      s.heap.get? d = none → (d == sysModules) = false → h'.DictOf (intKind Challenge.rw_mj0077_01.row.prog w) d kvs → KV h' kvs (keptL rows) → Q (.ref d) { s with heap := h', toks := tk' }) :
    wpAny (model Challenge.rw_mj0077_01.row.prog w) A (call (.ref 164) [.ref ak]) Q E s := by
  have hsz : ∀ p ∈ frs, p.1 < s.heap.objs.size := fun p hp => Heap.lt_size (hat p hp)
  revert X
  w_top off
  k_fill
  intro X
  refine' enterX (binds := [(Str.ofString "kinds", .ref ak)]) Fs hat X T ?k6 ?k7 ?k8 ?k9 ?kB ?_ ?c2 ?c3 ?c4 ?c5
  ((case k6 => k_is); (case k7 => k_is); (case k8 => exact rmLt (by assumption)); (case k9 => exact BindsTo.of_eq rfl); (case kB => exact locs rfl); (case c2 => exact rfl); (case c3 => exact rfl); (case c4 => exact rfl); (case c5 => decide))
  intro L h₁ tk hLs F N
  generalize hhb : TI.gone s.heap (frs.map (·.1)) = hb at X T F N hk hrows hQ
  have hh : A.handled = none := hA.han
  have hfr' : ∀ env, (A.deeper env).frames = some (env :: l) := fun env => by show A.frames.map _ = _; rw [hfr]; rfl
  repeat' ((fail_if_success (with_reducible show wpAny _ _ (exec (Stmt.For _ _ _ _ _) _) _ _ _)); walk1)
  rename_i d h1 od hl1 lo _ _ hi _ h2 F2 N2
  refine wpAny_For (lname F2.ns (v := .ref ak) rfl rfl rfl (by decide) ?_)
  refine forList (KJ hb Challenge.rw_mj0077_01.row.prog w l frs d) hh rfl rfl F2 N2 (isList_ext F2.keep hk) ⟨frs, [], [], od, [], .refl _, Fs, rfl, (fun _ h => nomatch h), hi, rfl, .nil, .nil⟩ ?turn ?done
  case done =>
    intro m₁ news₁ h tk hJ F₁ N₁
    obtain ⟨frs', zs, kvs, od', pz, SU, Fs', rfl, hzs, hdo, hmk, hpz, hKV⟩ := hJ
    obtain rfl := hpz.inj hrows
    dsimp only
    refine wpAny_execs_cons (wpAny_Return_some (lname F₁.ns hmk rfl rfl (by decide) ?_))
    dsimp only
    have q := N₁ (d, od') (.head _)
    refine hQ h tk frs' d kvs SU Fs' (fun p hp => (N₁ p (.tail _ (List.mem_append_right _ hp))).1) F₁.keep ?_ lo (Heap.dictOf_iff.mpr ⟨od', q.1, hdo⟩) (hKV.kv F₁.keep fun p hp => (N₁ p (.tail _ (List.mem_append_left _ hp))).1)
    have q2 := q.2.2
    rw [← hhb, TI.gone_get (fun hm => ?_)] at q2
    · exact q2
    · obtain ⟨x, hx, e⟩ := List.mem_map.mp hm
      exact Nat.ne_of_lt (hl1 x hx) e
  case turn =>
    intro pre v post m₁ news₁ h tk I oI E' hys hJ F₁ N₁ hI hnI hBl hlI hsI
    obtain ⟨frs', zs, kvs, od', pz, SU, Fs', rfl, hzs, hdo, hmk, hpz, hKV⟩ := hJ
    have hIs := hrows
    rw [hys] at hIs
    obtain ⟨pz', z, qz, erows, hIp', hz⟩ := allInts_split hIs
    obtain rfl := hIp'.inj hpz
    have hzs' : z ∈ rows := by rw [erows]; simp
    have hps' : ∀ r ∈ pz', r ∈ rows := fun r hr => by rw [erows]; simp [hr]
    have lpz : pz'.length ≤ 20 := by have := congrArg List.length erows; simp at this; omega
    have hskp := keptL_in (pg := pg) fun r hr => sr r (hps' r hr)
    have sz := redL_in (sr z hzs') hskp
    obtain ⟨ar, vr, rfl, hlr, hir⟩ := hz
    have hm2 : (fun y => if y = Str.ofString "row" then some (Value.ref ar) else m₁ y) (Str.ofString "kept") = some (.ref d) := upd_ne (by decide) hmk
    have hm3 : (fun y => if y = Str.ofString "row" then some (Value.ref ar) else m₁ y) (Str.ofString "row") = some (.ref ar) := upd_self
    generalize (fun y => if y = Str.ofString "row" then some (Value.ref ar) else m₁ y) = m2 at F₁ hm2 hm3
    obtain ⟨oL, hoL⟩ := ns_some F₁.ns
    have N₁' : News hb L h (((I, oI) :: (d, od') :: zs) ++ frs') := N₁
    have hdf : ∀ x ∈ frs', x.1 ≠ d := fun x hx e => by
      obtain ⟨y, hy, e2⟩ := SU.fwd x hx
      exact Nat.ne_of_lt (hl1 y hy) (e2 ▸ e)
    have hap : ∀ p ∈ ((I, oI) :: (d, od') :: zs), ∀ x ∈ frs', x.1 ≠ p.1 := by
      intro p hp
      rcases List.mem_cons.mp hp with rfl | hp1
      · exact apart_of N₁' Fs' hp hnI
      rcases List.mem_cons.mp hp1 with rfl | hp2
      · exact hdf
      · exact apart_of N₁' Fs' hp (by obtain ⟨vs, n, e⟩ := hzs p hp2; intro es ep q; rw [e] at q; cases q)
    have eg := ext_gone F₁ N₁'
    have hgd := gone_new N₁' (.tail _ (.head _)) hdf
    refine wpAny_execs_cons (wpAny_Assign_Name (Call_ ?_))
    refine' gname (X.keeps F₁.keep) (T.keeps F₁.keep) ?e1 rfl rfl rfl (by decide) ?_
    case e1 => k_is
    refine' callWith_K (X.keeps F₁.keep) ?e2 ?_
    case e2 => k_is
    refine args_cons (lname F₁.ns hm3 rfl rfl (by decide) ?_)
    refine args_cons (lname F₁.ns hm2 rfl rfl (by decide) (args_nil ⟨X.keeps F₁.keep, ?_⟩))
    dsimp only
    refine red_c (s := { s with heap := h, toks := tk }) (l := _ :: l) (frs := (L, oL) :: frs') (pg := pg) (row := z) (kept := keptL pz') (kvs := kvs) (hfr' _) (frs_push F₁ hoL rfl rfl Fs') ?_ (X.keeps eg) (T.keeps eg) (by walk_at "m rm") (isList_ext eg hlr) hir (Heap.dictOf_iff.mpr ⟨od', hgd, hdo⟩) lo (hKV.kv eg fun p hp => gone_new N₁' (.tail _ (.tail _ hp)) (hap p (.tail _ (.tail _ hp)))) hpg (sr z hzs') hskp (Nat.le_trans (keptL_len _) lpz) ?_
    · intro p hp
      rcases List.mem_cons.mp hp with rfl | hp
      · exact hoL
      · exact (N₁' p (List.mem_append_right _ hp)).1
    intro h3 tk3 frs'' a vs e SU3 Fs3 hat3 g3 ha iv
    obtain ⟨frs3, SU4, Fs4, F3, N3⟩ := backY F₁ N₁' hap Fs' hoL SU3 hat3 g3
    have hz1 : ∃ zs1, (∀ p ∈ zs1, Lst p) ∧ (∀ p ∈ zs, p ∈ zs1) ∧ News hb L h3 ((I, oI) :: (d, od') :: (zs1 ++ frs3)) ∧ InL hb zs1 (.ref a) (redL z (keptL pz')) ∧ (∀ p ∈ zs1, p.1 ≠ I) := by
      rcases ha with ⟨rfl, rfl⟩ | ⟨fa, ha⟩
      · exact ⟨zs, hzs, fun _ h => h, N3, ⟨a, vs, rfl, iv, .inl hlr⟩, fun p hp => hI p (.tail _ (List.mem_append_left _ hp))⟩
      · refine ⟨(a, lobj vs e) :: zs, ?_, fun p hp => .tail _ hp, ?_, ⟨a, vs, rfl, iv, .inr ⟨e, .head _⟩⟩, ?_⟩
        · intro p hp
          rcases List.mem_cons.mp hp with rfl | hp
          · exact ⟨_, _, rfl⟩
          · exact hzs p hp
        · intro p hp
          rcases List.mem_cons.mp hp with rfl | hp
          · exact N3 _ (.head _)
          rcases List.mem_cons.mp hp with rfl | hp
          · exact N3 _ (.tail _ (.head _))
          rcases List.mem_cons.mp hp with rfl | hp
          · exact ⟨ha, fresh_ne fa hoL, fresh_of_ext F₁.keep fa⟩
          · exact N3 p (.tail _ (.tail _ hp))
        · intro p hp
          rcases List.mem_cons.mp hp with rfl | hp
          · intro e2
            have q := (N₁ (I, oI) (.head _)).1
            have fa' : h.get? a = none := fa
            have e3 : a = I := e2
            rw [e3] at fa'
            rw [fa'] at q
            cases q
          · exact hI p (.tail _ (List.mem_append_left _ hp))
    obtain ⟨zs1, hzs1, hsub, N4, hInL, hI1⟩ := hz1
    dsimp only
    refine stN F3 N4 fun h4 F4 N4 => ?_
    have hm5 := upd_self (m := m2) (x := Str.ofString "left") (v := .ref a)
    have hm6 := upd_ne (m := m2) (x := Str.ofString "left") (v := .ref a) (y := Str.ofString "kept") (by decide) hm2
    have F4' : Fr hb L h4 (upd m2 (Str.ofString "left") (.ref a)) := F4
    clear F4
    generalize upd m2 (Str.ofString "left") (.ref a) = m4 at F4' hm5 hm6
    have F4 := F4'
    clear F4'
    have hIr : IsInts h4 (.ref a) (redL z (keptL pz')) := hInL.isInts F4.keep fun p hp => (N4 p (.tail _ (.tail _ (List.mem_append_left _ hp)))).1
    obtain ⟨a', vs', ea, hla, hia⟩ := hIr
    cases ea
    have hI4 : ∀ p ∈ zs1 ++ frs3, p.1 ≠ I := by
      intro p hp
      rcases List.mem_append.mp hp with hp | hp
      · exact hI1 p hp
      · obtain ⟨x, hx, e⟩ := SU4.fwd p hp
        rw [e]
        exact hI x (.tail _ (List.mem_append_right _ hx))
    have hdI : d ≠ I := hI _ (.head _)
    have hpre : AllInts hb (pre ++ [.ref ar]) (pz' ++ [z]) := hpz.snoc ⟨ar, vr, rfl, hlr, hir⟩
    refine wpAny_execs_cons (wpAny_If (wpAny_isTrue_Compare1 (lname F4.ns hm5 rfl rfl (by decide) ?_)))
    refine nilList F4 N4 fun h5 b F5 N5 l5 s5 x5 => ?_
    dsimp only
    have hla5 := isList_ext x5 hla
    refine ne_intsK hla5 hia ⟨_, (N5 _ (.head _)).1, rfl, _, rfl⟩ .nil (by have := hA.uni; dsimp only [Around.deeper]; omega) (wpAny_truthy_bool ?_)
    have hfp : ∀ c ∈ [I, ak], ∀ o, h.get? c = some o → h5.get? c = some o := by
      intro c hc o q
      rcases List.mem_cons.mp hc with rfl | hc
      · rw [(N₁ _ (.head _)).1] at q
        cases q
        exact (N5 (_, oI) (.tail _ (.head _))).1
      · rw [List.mem_singleton] at hc
        subst hc
        obtain ⟨o1, ho1, _⟩ := hk
        rw [F₁.keep _ _ ho1] at q
        cases q
        exact F5.keep _ _ ho1
    by_cases hnil : redL z (keptL pz') = []
    · rw [if_neg (by simp [hnil])]
      refine wpAny_execs_nil (wpAny_execs_nil ?_)
      refine turnEnd (.inl rfl) F5 (news' := (d, od') :: (zs1 ++ frs3)) (fun p hp => N5 p (.tail _ hp)) ?_ hfp ⟨frs3, zs1, kvs, od', pz' ++ [z], SU.trans SU4, Fs4, rfl, hzs1, hdo, hm6, hpre, ?_⟩
      · intro p hp
        rcases List.mem_cons.mp hp with rfl | hp
        · exact hdI
        · exact hI4 p hp
      · rw [keptL_snoc]
        unfold keptStep
        rw [hnil]
        exact hKV.mono hsub
    · obtain ⟨x, xs, ex⟩ := List.exists_cons_of_ne_nil hnil
      rw [if_pos (by simp [ex])]
      have hia' := hia
      rw [ex] at hia'
      obtain ⟨t, vt, rfl, hix⟩ : ∃ t vt, vs' = .int x t :: vt ∧ IntsAre vt xs := by cases hia' with | cons _ t h => exact ⟨t, _, rfl, h⟩
      refine wpAny_execs_cons (wpAny_Assign_Subscript (lname F5.ns hm5 rfl rfl (by decide) (lname F5.ns hm6 rfl rfl (by decide) (Subscript_Constant (lname F5.ns hm5 rfl rfl (by decide) ?_)))))
      walk1
      refine ⟨"list", _, slot_list_getitem.lookup, hla5.typeIs, ?_⟩
      refine wpAny_getItem_list hla5 (by decide) (by decide) (x := .int x t) rfl ?_
      have hlkv : kvs.length ≤ sizeLine := by rw [(hKV.kv (h := h5) F5.keep fun p hp => (N5 p (.tail _ (.tail _ (.tail _ (List.mem_append_left _ (hsub p hp)))))).1).length, sizeLine_eq]; have := keptL_len pz'; omega
      refine wpAny_setItem_pairs (knd := intKind _ w) (k := x) (kvs := kvs) (by simp [intKind, Value.isInt]) (Heap.dictOf_iff.mpr ⟨od', (N5 _ (.tail _ (.tail _ (.head _)))).1, hdo⟩) (hsz := hlkv) fun h6 hD6 SB6 => ?_
      obtain ⟨od6, hod6, hdo6⟩ := Heap.dictOf_iff.mp hD6
      obtain ⟨F6, N6⟩ := sameBut_fr SB6 F5 N5 (.tail _ (.tail _ (.head _)))
      have hzd : ∀ p ∈ zs1 ++ frs3, p.1 ≠ d := by
        intro p hp
        rcases List.mem_append.mp hp with hp | hp
        · intro e
          obtain ⟨vs, n, e2⟩ := hzs1 p hp
          obtain ⟨es, ep, _, e3, _⟩ := hdo
          have q1 := (N4 p (.tail _ (.tail _ (List.mem_append_left _ hp)))).1
          have q2 := (N4 (d, od') (.tail _ (.head _))).1
          rw [e, q2] at q1
          have q3 := congrArg Obj.data (Option.some.inj q1)
          rw [e2] at q3
          have q4 : od'.data = _ := e3
          rw [q4] at q3
          cases q3
        · obtain ⟨y, hy, e2⟩ := SU4.fwd p hp
          rw [e2]
          exact hdf y hy
      refine wpAny_execs_nil (wpAny_execs_nil ?_)
      refine turnEnd (.inl rfl) F6 (news' := (d, od6) :: (zs1 ++ frs3)) ?_ ?_ ?_ ⟨frs3, zs1, _, od6, pz' ++ [z], SU.trans SU4, Fs4, rfl, hzs1, hdo6, hm6, hpre, ?_⟩
      · intro p hp
        rcases List.mem_cons.mp hp with rfl | hp
        · exact ⟨N6 _ (.tail _ (.head _)) (Ne.symm hdI), (N5 _ (.tail _ (.head _))).2⟩
        rcases List.mem_cons.mp hp with rfl | hp
        · exact ⟨hod6, (N5 (d, od') (.tail _ (.tail _ (.head _)))).2⟩
        · exact ⟨N6 p (.tail _ (.tail _ (.tail _ hp))) (hzd p hp), (N5 p (.tail _ (.tail _ (.tail _ hp)))).2⟩
      · intro p hp
        rcases List.mem_cons.mp hp with rfl | hp
        · exact hdI
        · exact hI4 p hp
      · intro c hc o q
        have q5 := hfp c hc o q
        refine (SB6.2 c ?_).trans q5
        rcases List.mem_cons.mp hc with rfl | hc
        · exact Ne.symm hdI
        · rw [List.mem_singleton] at hc
          subst hc
          rintro rfl
          obtain ⟨o1, ho1, _⟩ := hk
          rw [(N4 _ (.tail _ (.head _))).2.2] at ho1
          cases ho1
      · rw [keptL_snoc]
        unfold keptStep
        rw [ex]
        refine (hKV.mono hsub).stored ?_
        rw [← ex]
        exact hInL
end Mine

open PySem PySem.W PyProof.Rows
set_option Elab.async false
set_option linter.unusedSimpArgs false
namespace Mine
section
variable {h₀ h : Heap} {L : Addr} {m : Str → Option Value} {news : List (Addr × Obj)}
/-- lists that stand in the heap, laid on the ledger -/
def Pinned (h₀ : Heap) (L : Addr) (h : Heap) (news zs : List (Addr × Obj)) (P : Heap → Prop) : Prop := (∀ p ∈ zs, Lst p) ∧ News h₀ L h (zs ++ news) ∧ ∀ h', Ext h₀ h' → (∀ p ∈ zs, h'.get? p.1 = some p.2) → P h'
theorem pin_list (F : Fr h₀ L h m) (N : News h₀ L h news) {a : Addr} {vs : Array Value} (hl : h.IsList a vs) : ∃ zs, Pinned h₀ L h news zs fun h' => h'.IsList a vs := by
  obtain ⟨o, ho, hc, n, hd⟩ := id hl
  cases e : h₀.get? a with
  | some o' =>
    have := F.keep a o' e
    rw [ho] at this
    cases this
    exact ⟨[], ⟨(fun _ h => nomatch h), N, fun h' g _ => ⟨o, g _ _ e, hc, n, hd⟩⟩⟩
  | none =>
    refine ⟨[(a, o)], ⟨?_, ?_, fun h' _ hz => ⟨o, hz _ (.head _), hc, n, hd⟩⟩⟩
    · intro p hp; rw [List.mem_singleton.mp hp]; exact ⟨_, _, hd⟩
    · intro p hp
      rcases List.mem_cons.mp hp with rfl | hp
      · exact ⟨ho, Ne.symm (ns_ne_list F.ns hl), e⟩
      · exact N p hp
theorem Pinned.and {zs zs' : List (Addr × Obj)} {P P' : Heap → Prop} (x : Pinned h₀ L h news zs P) (y : Pinned h₀ L h news zs' P') : Pinned h₀ L h news (zs ++ zs') fun h => P h ∧ P' h :=
  ⟨fun p hp => (List.mem_append.mp hp).elim (x.1 p) (y.1 p), fun p hp => by
    rcases List.mem_append.mp hp with hp | hp
    · rcases List.mem_append.mp hp with hp | hp
      · exact x.2.1 p (List.mem_append_left _ hp)
      · exact y.2.1 p (List.mem_append_left _ hp)
    · exact x.2.1 p (List.mem_append_right _ hp), fun h' g hz => ⟨x.2.2 h' g fun p hp => hz p (List.mem_append_left _ hp), y.2.2 h' g fun p hp => hz p (List.mem_append_right _ hp)⟩⟩
theorem Pinned.imp {zs : List (Addr × Obj)} {P P' : Heap → Prop} (x : Pinned h₀ L h news zs P) (i : ∀ h, P h → P' h) : Pinned h₀ L h news zs P' := ⟨x.1, x.2.1, fun h' g hz => i _ (x.2.2 h' g hz)⟩
theorem pin_ints (F : Fr h₀ L h m) (N : News h₀ L h news) {v : Value} {xs : List Int} (hl : IsInts h v xs) : ∃ zs, Pinned h₀ L h news zs fun h' => IsInts h' v xs := by
  obtain ⟨a, vs, rfl, hl, hi⟩ := hl
  obtain ⟨zs, x⟩ := pin_list F N hl
  exact ⟨zs, x.imp fun h' q => ⟨a, vs, rfl, q, hi⟩⟩
theorem pin_all (F : Fr h₀ L h m) (N : News h₀ L h news) {vs : List Value} {xss : List (List Int)} (a : AllInts h vs xss) : ∃ zs, Pinned h₀ L h news zs fun h' => AllInts h' vs xss := by
  induction a with
  | nil => exact ⟨[], ⟨(fun _ h => nomatch h), N, fun _ _ _ => .nil⟩⟩
  | cons a _ ih =>
    obtain ⟨zs, x⟩ := pin_ints F N a
    obtain ⟨zs', x'⟩ := ih
    exact ⟨zs ++ zs', (x.and x').imp fun h' q => .cons q.1 q.2⟩
theorem pin_intss (F : Fr h₀ L h m) (N : News h₀ L h news) {v : Value} {xss : List (List Int)} (hl : IsIntss h v xss) : ∃ zs, Pinned h₀ L h news zs fun h' => IsIntss h' v xss := by
  obtain ⟨a, vs, rfl, hl, hi⟩ := hl
  obtain ⟨zs, x⟩ := pin_list F N hl
  obtain ⟨zs', x'⟩ := pin_all F N hi
  exact ⟨zs ++ zs', (x.and x').imp fun h' q => ⟨a, vs, rfl, q.1, q.2⟩⟩
theorem pin_intss2 (F : Fr h₀ L h m) (N : News h₀ L h news) {v : Value} {xss : List (List Int)} (hl : IsIntss h v xss) : ∃ a vs zs, v = .ref a ∧ Pinned h₀ L h news zs fun h' => h'.IsList a vs.toArray ∧ AllInts h' vs xss := by
  obtain ⟨a, vs, rfl, hl, hi⟩ := hl
  obtain ⟨zs, x⟩ := pin_list F N hl
  obtain ⟨zs', x'⟩ := pin_all F N hi
  exact ⟨a, vs, zs ++ zs', rfl, x.and x'⟩
theorem AllInts.get {h : Heap} : ∀ {vs : List Value} {xss : List (List Int)} (k : Nat), AllInts h vs xss → k < xss.length → ∃ v, vs[k]? = some v ∧ IsInts h v (xss.getD k [])
  | _, _, k, .nil, hk => absurd hk (Nat.not_lt_zero _)
  | _, _, 0, .cons a _, _ => ⟨_, rfl, a⟩
  | _, _, k + 1, .cons _ r, hk => by
    obtain ⟨v, h1, h2⟩ := AllInts.get k r (Nat.lt_of_succ_lt_succ hk)
    exact ⟨v, by simpa using h1, by simpa using h2⟩
theorem AllInts.take {h : Heap} : ∀ {vs : List Value} {xss : List (List Int)} (k : Nat), AllInts h vs xss → AllInts h (vs.take k) (xss.take k)
  | _, _, 0, _ => by simpa using AllInts.nil
  | _, _, _ + 1, .nil => .nil
  | _, _, k + 1, .cons a r => .cons a (AllInts.take k r)
theorem AllInts.drop {h : Heap} : ∀ {vs : List Value} {xss : List (List Int)} (k : Nat), AllInts h vs xss → AllInts h (vs.drop k) (xss.drop k)
  | _, _, 0, x => by simpa using x
  | _, _, _ + 1, .nil => .nil
  | _, _, k + 1, .cons _ r => by simpa using AllInts.drop k r
theorem ints_get : ∀ {vs : List Value} {xs : List Int} (k : Nat), IntsAre vs xs → k < xs.length → ∃ t, vs[k]? = some (.int (xs.getD k 0) t)
  | _, _, _, .nil, hk => absurd hk (Nat.not_lt_zero _)
  | _, _, 0, .cons x t _, _ => ⟨t, rfl⟩
  | _, _, k + 1, .cons _ _ r, hk => by
    obtain ⟨t, h1⟩ := ints_get k r (Nat.lt_of_succ_lt_succ hk)
    exact ⟨t, by simpa using h1⟩
theorem ints_take : ∀ {vs : List Value} {xs : List Int} (k : Nat), IntsAre vs xs → IntsAre (vs.take k) (xs.take k)
  | _, _, 0, _ => by simpa using IntsAre.nil
  | _, _, _ + 1, .nil => .nil
  | _, _, k + 1, .cons x t r => .cons x t (ints_take k r)
end
section
variable {prog : Program} {w : World} {A : Around} {E : Value → Shared → Prop} {s : Shared} {env : Env} {h₀ : Heap} {L : Addr} {m : Str → Option Value} {news : List (Addr × Obj)}
/-- a slice of a list, its ends written as constants -/
theorem sliceTo_c {value : Expr} {b kc : Nat} {p pc pos : Pos} {l : Addr} {vs : List Value} {Q : Value → Shared → Prop} (F : Fr h₀ L s.heap m) (N : News h₀ L s.heap news)
    (hv : ∀ Q' : Value → Shared → Prop, Q' (.ref l) s → wpAny (model prog w) A (eval value env) Q' E s) (hl : s.heap.IsList l vs.toArray) (hn : vs.length ≤ 1000)
    (h : ∀ h' tk D, Fr h₀ L h' m → News h₀ L h' ((D, lobj (vs.take b) 0) :: news) → (∀ p ∈ news, p.1 < D) → s.heap.objs.size ≤ D → Ext s.heap h' → Q (.ref D) { s with heap := h', toks := tk })
    (ht : ∀ o r, letTemporaryGo value o r = pure () := by intro _ _; rfl) :
    wpAny (model prog w) A (eval (.Subscript value (.Slice none (some (.Constant (.int (b : Int)) kc pc)) none p) pos) env) Q E s := by
  refine wpAny_Subscript_list_slice (hv _ ?_) ht
  rw [evalPart_none, evalPart_some]
  refine wpAny_pure (wpAny_Constant_int ⟨l, _, none, some (b : Int), rfl, hl, by rw [List.size_toArray, sizeLine_eq]; omega, .none, .int _ _, ?_⟩)
  rw [slicePick_upto']
  have k0 : ∀ o1 o2, Ext s.heap ((s.heap.push o1).push o2) := fun o1 o2 b o q => Heap.get?_push_of_some _ (Heap.get?_push_of_some _ q)
  have hsz : s.heap.objs.size ≤ s.heap.objs.size + 1 := Nat.le_succ _
  refine h _ _ _ (frExt (k0 _ _) F) (newsAdd (k0 _ _) F N hsz ?_) (newsLt N hsz) hsz (k0 _ _)
  rw [← Heap.size_push s.heap { cls := .type "slice", data := .fields #[.none, .int (b : Int) s.toks, .none] }]
  exact Heap.get?_push_size _ rfl
theorem sliceMid_c {value : Expr} {a b kc kc' : Nat} {p pc pc' pos : Pos} {l : Addr} {vs : List Value} {Q : Value → Shared → Prop} (F : Fr h₀ L s.heap m) (N : News h₀ L s.heap news)
    (hv : ∀ Q' : Value → Shared → Prop, Q' (.ref l) s → wpAny (model prog w) A (eval value env) Q' E s) (hl : s.heap.IsList l vs.toArray) (hn : vs.length ≤ 1000) (hab : a ≤ b) (hb : b ≤ vs.length)
    (h : ∀ h' tk D, Fr h₀ L h' m → News h₀ L h' ((D, lobj ((vs.drop a).take (b - a)) 0) :: news) → (∀ p ∈ news, p.1 < D) → s.heap.objs.size ≤ D → Ext s.heap h' → Q (.ref D) { s with heap := h', toks := tk })
    (ht : ∀ o r, letTemporaryGo value o r = pure () := by intro _ _; rfl) :
    wpAny (model prog w) A (eval (.Subscript value (.Slice (some (.Constant (.int (a : Int)) kc' pc')) (some (.Constant (.int (b : Int)) kc pc)) none p) pos) env) Q E s := by
  refine wpAny_Subscript_list_slice (hv _ ?_) ht
  rw [evalPart_some, evalPart_some]
  refine wpAny_Constant_int (wpAny_Constant_int ⟨l, _, some (a : Int), some (b : Int), rfl, hl, by rw [List.size_toArray, sizeLine_eq]; omega, .int _ _, .int _ _, ?_⟩)
  rw [slicePick_run _ _ _ (by simpa using hb) hab]
  have k0 : ∀ o1 o2, Ext s.heap ((s.heap.push o1).push o2) := fun o1 o2 b o q => Heap.get?_push_of_some _ (Heap.get?_push_of_some _ q)
  have hsz : s.heap.objs.size ≤ s.heap.objs.size + 1 := Nat.le_succ _
  refine h _ _ _ (frExt (k0 _ _) F) (newsAdd (k0 _ _) F N hsz ?_) (newsLt N hsz) hsz (k0 _ _)
  rw [← Heap.size_push s.heap { cls := .type "slice", data := .fields #[.int (a : Int) s.toks, .int (b : Int) (s.toks + 1), .none] }]
  exact Heap.get?_push_size _ rfl
end
end Mine

open PySem PySem.W PyProof.Rows
set_option Elab.async false
set_option linter.unusedSimpArgs false
namespace Mine
local macro_rules | `(tactic| walk_at "m rm") => `(tactic| first | exact Rm.le (by assumption) (by decide) | exact Rm.le (Rm.deeper (by assumption)) (by decide))
local macro_rules | `(tactic| walk_at "m back") => `(tactic| (intro h' tk' g'; have F' := frExt g' (by assumption); have N' := newsExt g' (by assumption); clear g'; (try k_sweep); (try dsimp only)))
/-- one number's code is laid on its part -/
def stepP (P : List (List Int)) (n : Int) : List (List Int) :=
  if (stretchesL.getD (n.fmod 13).toNat []).getD ((n.fdiv 13).fmod ((stretchesL.getD (n.fmod 13).toNat []).length : Int)).toNat 0 ∈ P.getD (n.fmod 13).toNat [] then P
  else P.set (n.fmod 13).toNat (P.getD (n.fmod 13).toNat [] ++ [(stretchesL.getD (n.fmod 13).toNat []).getD ((n.fdiv 13).fmod ((stretchesL.getD (n.fmod 13).toNat []).length : Int)).toNat 0])
def initP : List (List Int) := [[], [], [], [], [], [], [], [], [], [103], [], [], []]
def partsL (xs : List Int) : List (List Int) := ((xs.take 12).foldl stepP initP).map srt
theorem stepP_len (P : List (List Int)) (n : Int) : (stepP P n).length = P.length := by unfold stepP; split <;> simp
theorem foldP_len (xs : List Int) (P : List (List Int)) : (xs.foldl stepP P).length = P.length := by
  induction xs generalizing P with
  | nil => rfl
  | cons x xs ih => rw [List.foldl_cons, ih, stepP_len]
def PartIs (p : Addr × Obj) (xs : List Int) : Prop := ∃ us e, p.2 = lobj us e ∧ IntsAre us xs
theorem paired_at : ∀ {ps : List (Addr × Obj)} {P : List (List Int)} (k : Nat), Paired PartIs ps P → k < P.length →
    ∃ p1 b us e p2, ps = p1 ++ (b, lobj us e) :: p2 ∧ IntsAre us (P.getD k []) ∧ (ps.map (·.1))[k]? = some b ∧ ∀ us' e' xs', IntsAre us' xs' → Paired PartIs (p1 ++ (b, lobj us' e') :: p2) (P.set k xs')
  | _, _, _, .nil, h => absurd h (Nat.not_lt_zero _)
  | p :: ps, x :: P, 0, .cons a r, _ => by
    obtain ⟨us, e, e1, hi⟩ := a
    refine ⟨[], p.1, us, e, ps, ?_, hi, rfl, fun us' e' xs' h => .cons ⟨us', e', rfl, h⟩ r⟩
    rw [← e1]; rfl
  | p :: ps, x :: P, k + 1, .cons a r, h => by
    obtain ⟨p1, b, us, e, p2, rfl, hi, hb, hset⟩ := paired_at k r (Nat.lt_of_succ_lt_succ h)
    exact ⟨p :: p1, b, us, e, p2, rfl, by simpa using hi, by simpa using hb, fun us' e' xs' h => .cons a (hset us' e' xs' h)⟩
theorem stretch_ne : ∀ k, k < 13 → 0 < (stretchesL.getD k []).length := by decide
theorem stretch_le : ∀ k, k < 13 → (stretchesL.getD k []).length ≤ 100 := by decide
theorem fmod13 (n : Int) : 0 ≤ n.fmod 13 ∧ n.fmod 13 < 13 := by
  rw [Int.fmod_eq_emod_of_nonneg _ (by decide)]
  omega
/-- where the laying loop stands -/
def PJ (vs12 : List Value) (B D : Addr) (ads : List Addr) (eD : Nat) (zs : List (Addr × Obj)) (v2 : Value) (pre : List Value) (m : Str → Option Value) (news : List (Addr × Obj)) : Prop :=
  ∃ ps pz, news = (B, lobj vs12 0) :: (D, lobj (ads.map Value.ref) eD) :: (ps ++ zs) ∧ ps.map (·.1) = ads ∧ IntsAre pre pz ∧ Paired PartIs ps (pz.foldl stepP initP) ∧ m (Str.ofString "stretches") = some v2 ∧ m (Str.ofString "parts") = some (.ref D)
section
variable {prog : Program} {w : World} {A : Around} {E : Value → Shared → Prop} {s : Shared} {env : Env} {hb : Heap} {L : Addr} {m : Str → Option Value}
/-- an append to a list that an expression tells -/
theorem appendAt {pl : Sem Bool} {oe arg : Expr} {p2 p4 pos : Pos} {D : Addr} {vs : List Value} {e : Nat} (R : Value → Prop) {pre post : List (Addr × Obj)} {Q : Flow → Shared → Prop} (F : Fr hb L s.heap m)
    (N : News hb L s.heap (pre ++ (D, lobj vs e) :: post)) (h1 : ∀ p ∈ pre, p.1 ≠ D) (h2 : ∀ p ∈ post, p.1 ≠ D) (hz : vs.length ≤ 1000)
    (ho : ∀ Q' : Value → Shared → Prop, (∀ tk, Q' (.ref D) { s with toks := tk }) → wpAny (model prog w) A (eval oe env) Q' E s)
    (ha : ∀ tk (Q' : Value → Shared → Prop), (∀ v tk, R v → Q' v { s with toks := tk }) → wpAny (model prog w) A (eval arg env) Q' E { s with toks := tk })
    (h : ∀ v e' h' tk, R v → Fr hb L h' m → News hb L h' (pre ++ (D, lobj (vs ++ [v]) e') :: post) → Q .next { s with heap := h', toks := tk })
    (hi : interactive env = false := by rfl) (hs : swapsWith (.Call (.Attribute oe (Str.ofString "append") p2) [arg] [] p4) none pos.line env = pure false := by rfl)
    (hst : starEach [arg] env = (false, eval arg env) :: starEach [] env := by rfl)
    (he : eval (.Call (.Attribute oe (Str.ofString "append") p2) [arg] [] p4) env = (do
      let ov ← eval oe env
      standAt p2.atName
      let (f, first) ← holding [ov] (getMethod ov (Str.ofString "append") pl)
      callWith p4 f first (backTo p4 (starEach [arg] env)) []) := by rfl) :
    wpAny (model prog w) A (exec (.Expr (.Call (.Attribute oe (Str.ofString "append") p2) [arg] [] p4) pos) env) Q E s := by
  have hD := N (D, lobj vs e) (List.mem_append.mpr (.inr (.head _)))
  refine wpAny_Expr_any (MethodCall_ (ho _ fun tk => ?_) he) hi hs
  refine listMethod_K (s := { s with toks := tk }) N (List.mem_append.mpr (.inr (.head _))) PySem.F.slot_list_append PySem.F.type_list_append ?_
  rw [hst]
  refine Calls.callWith_builtin (by rfl) (Calls.evalArgs_plain (Calls.spliced_cons (ha _ _ fun v tk2 hv => args_nil ?_)))
  refine wpAny_list_append_plain (s := { s with toks := tk2 }) (hsz := by rw [List.size_toArray, sizeLine_eq]; omega) ⟨e, hD.1⟩ fun h' hp hsb => ?_
  obtain ⟨e', he'⟩ := hp
  exact h v e' h' tk2 hv (F.change hsb hD.2.1 hD.2.2) (news_set N h1 h2 hsb (by rw [he']; simp))
end
theorem paired_flip {vs : List Value} {ps : List (Addr × Obj)} (q : Paired (fun _ p => PartIs (0, p.2) []) vs ps) : Paired PartIs ps (List.replicate vs.length []) := by
  induction q with
  | nil => exact .nil
  | cons a _ ih => exact .cons a ih
theorem nodup_mid {b : Addr} {o : Obj} : ∀ {p1 p2 : List (Addr × Obj)}, ((p1 ++ (b, o) :: p2).map (·.1)).Nodup → ∀ p ∈ p1 ++ p2, p.1 ≠ b := by
  intro p1 p2 h p hp e
  rw [List.map_append, List.map_cons] at h
  rw [List.nodup_append] at h
  obtain ⟨_, h2, h3⟩ := h
  rw [List.nodup_cons] at h2
  rcases List.mem_append.mp hp with hp | hp
  · exact h3 p.1 (List.mem_map_of_mem hp) b (.head _) e
  · exact h2.1 (List.mem_map.mpr ⟨p, hp, e⟩)
theorem parts_all {h : Heap} {ps : List (Addr × Obj)} {P : List (List Int)} (q : Paired PartIs ps P) (hp : ∀ p ∈ ps, h.get? p.1 = some p.2) : AllInts h (ps.map (Value.ref ∘ (·.1))) P := by
  induction q with
  | nil => exact .nil
  | @cons p _ ps _ a _ ih =>
    obtain ⟨us, e, e1, hi⟩ := a
    exact .cons ⟨p.1, us, rfl, ⟨_, hp p (.head _), by rw [e1], e, by rw [e1]⟩, hi⟩ (ih fun p h => hp p (.tail _ h))
theorem AllInts.of_mem {h : Heap} {vs : List Value} {xss : List (List Int)} {v : Value} (a : AllInts h vs xss) (hv : v ∈ vs) : ∃ xs, IsInts h v xs ∧ xs ∈ xss := by
  induction a with
  | nil => exact nomatch hv
  | cons a _ ih =>
    rcases List.mem_cons.mp hv with rfl | hv
    · exact ⟨_, a, .head _⟩
    · obtain ⟨xs, h1, h2⟩ := ih hv
      exact ⟨xs, h1, .tail _ h2⟩
theorem IsInts.inj {h : Heap} {v : Value} {xs ys : List Int} (a : IsInts h v xs) (b : IsInts h v ys) : xs = ys := by
  have := AllInts.inj (.cons a .nil) (.cons b .nil)
  simpa using this
theorem mapped_all {h h' : Heap} (f : List Int → List Int) {vs : List Value} {P : List (List Int)} {ps : List (Addr × Obj)} (a : AllInts h vs P) (q : Paired (fun v (p : Addr × Obj) => ∃ zs, IsInts h v zs ∧ PartIs (0, p.2) (f zs)) vs ps) (hp : ∀ p ∈ ps, h'.get? p.1 = some p.2) : AllInts h' (ps.map fun p : Addr × Obj => Value.ref p.1) (P.map f) := by
  induction a generalizing ps with
  | nil => cases q; exact .nil
  | cons a _ ih =>
    cases q with
    | @cons _ p _ ps b q =>
      obtain ⟨zs, hz, us, e, e1, hi⟩ := b
      have e1' : p.2 = lobj us e := e1
      obtain rfl := a.inj hz
      exact .cons ⟨p.1, us, rfl, ⟨_, hp p (.head _), by rw [e1'], e, by rw [e1']⟩, hi⟩ (ih q fun p h => hp p (.tail _ h))
theorem sorted_all {h h' : Heap} {vs : List Value} {P : List (List Int)} {ps : List (Addr × Obj)} (a : AllInts h vs P) (q : Paired (fun v (p : Addr × Obj) => ∃ zs, IsInts h v zs ∧ PartIs (0, p.2) (srt zs)) vs ps) (hp : ∀ p ∈ ps, h'.get? p.1 = some p.2) : AllInts h' (ps.map fun p : Addr × Obj => Value.ref p.1) (P.map srt) := mapped_all srt a q hp
theorem stepP_small {P : List (List Int)} {n : Int} {k : Nat} (h : ∀ x ∈ P, x.length ≤ k) : ∀ x ∈ stepP P n, x.length ≤ k + 1 := by
  unfold stepP
  split
  · exact fun x hx => Nat.le_succ_of_le (h x hx)
  · intro x hx
    rcases List.mem_or_eq_of_mem_set hx with hx | rfl
    · exact Nat.le_succ_of_le (h x hx)
    · rw [List.length_append, List.length_singleton]
      refine Nat.succ_le_succ ?_
      rw [List.getD_eq_getElem?_getD]
      cases e : P[(n.fmod 13).toNat]? with
      | none => exact Nat.zero_le _
      | some y => exact h y (List.mem_of_getElem? e)
theorem foldP_le : ∀ (xs : List Int) (P : List (List Int)) (k : Nat), (∀ x ∈ P, x.length ≤ k) → ∀ x ∈ xs.foldl stepP P, x.length ≤ k + xs.length
  | [], _, _, h => h
  | n :: xs, P, k, h => by
    intro x hx
    have := foldP_le xs (stepP P n) (k + 1) (stepP_small h) x hx
    simp only [List.length_cons]
    omega
theorem foldP_small (xs : List Int) (x : List Int) (h : x ∈ (xs.take 12).foldl stepP initP) : x.length < 64 := by
  have h1 := foldP_le (xs.take 12) initP 1 (by decide) x h
  have h2 : (xs.take 12).length ≤ 12 := by rw [List.length_take]; omega
  omega
theorem sorted_plain {h h' : Heap} {vs : List Value} {ps : List (Addr × Obj)} (q : Paired (fun v (p : Addr × Obj) => ∃ zs, IsInts h v zs ∧ PartIs (0, p.2) (srt zs)) vs ps) (hp : ∀ p ∈ ps, h'.get? p.1 = some p.2) : ∀ x ∈ ps.map fun p : Addr × Obj => Value.ref p.1, ∃ b us e, x = .ref b ∧ h'.get? b = some (lobj us e) := by
  induction q with
  | nil => exact fun _ h => nomatch h
  | @cons _ p _ ps b _ ih =>
    obtain ⟨zs, hz, us, e, e1, hi⟩ := b
    have e1' : p.2 = lobj us e := e1
    intro x hx
    rcases List.mem_cons.mp hx with rfl | hx
    · exact ⟨p.1, us, e, rfl, e1' ▸ hp p (.head _)⟩
    · exact ih (fun p h => hp p (.tail _ h)) x hx
/-- a list of plain lists of ints -/
def IsParts (h : Heap) (v : Value) (xss : List (List Int)) : Prop := ∃ a vs, v = .ref a ∧ h.IsList a vs.toArray ∧ AllInts h vs xss ∧ ∀ x ∈ vs, ∃ b us e, x = .ref b ∧ h.get? b = some (lobj us e)
set_option maxRecDepth 100000 in
set_option maxHeartbeats 4000000 in
theorem parts_c {w : World} {mean : ExcName → Option Value} {mg mb : Str → Option Value} {A : Around} {s : Shared} {Q E : Value → Shared → Prop} {a : Addr} {vs : List Value} {xs : List Int}
    (X : (hd.heap_39 w.params).In s.heap) (T : Top hd.view_39 (looseW hd.view_39 []) mean mg mb s.heap) (hA : Rm A 2) (hl : s.heap.IsList a vs.toArray) (hi : IntsAre vs xs) (hn : xs.length ≤ 63)
    (hQ : ∀ h' tk' v, Ext s.heap h' → IsParts h' v (partsL xs) → Q v { s with heap := h', toks := tk' }) : wpAny (model Challenge.rw_mj0077_01.row.prog w) A (call (.ref 145) [.ref a]) Q E s := by
  revert X
  w_top off
  k_fill
  intro X
  refine' enter (binds := [(Str.ofString "script", .ref a)]) X T ?k6 ?k7 ?k8 ?k9 ?kB ?_ ?c2 ?c3 ?c4 ?c5
  ((case k6 => k_is); (case k7 => k_is); (case k8 => exact rmLt (by assumption)); (case k9 => exact BindsTo.of_eq rfl); (case kB => exact locs rfl); (case c2 => exact rfl); (case c3 => exact rfl); (case c4 => exact rfl); (case c5 => decide))
  intro L h₁ tk _ F N
  have hh : A.handled = none := hA.han
  have hh2 : ∀ env, (A.deeper env).handled = none := fun _ => hh
  refine wpAny_execs_cons (wpAny_Assign_Name (Call_ ?_))
  refine' gname (X.keeps F.keep) (T.keeps F.keep) ?e1 rfl rfl rfl (by decide) ?_
  case e1 => k_is
  refine' callWith_K0 (X.keeps F.keep) ?e2 ?_
  case e2 => k_is
  dsimp only [List.append_nil]
  refine stretches_c (X.keeps F.keep) (T.keeps F.keep) (by walk_at "m rm") fun h2 tk2 v2 g2 hv2 => ?_
  have F2 := frExt g2 F
  obtain ⟨aS, vS, zs, rfl, hzl, N2, hpin⟩ := pin_intss2 F2 (newsExt g2 N) hv2
  rw [List.append_nil] at N2
  refine stN F2 N2 fun h3 F3 N3 => ?_
  dsimp only
  refine' wpAny_execs_cons (ALC_inv (cl := []) (by with_unfolding_all rfl) ?hclos ?hcell rfl ?hnames rfl rfl rfl ?_ ?hs)
  case hclos => with_unfolding_all rfl
  case hcell => decide
  case hnames => decide
  case hs => intro _; rfl
  repeat' ((fail_if_success (with_reducible show wpAny _ _ (pyIter _) _ _ _)); walk1)
  rename_i h4 tk4 t4 u4 w4 hr4 F4 N4 g4
  dsimp only
  obtain ⟨oL, hoL⟩ := ns_some F4.ns
  have hLlt := Heap.lt_size hoL
  refine wpAny_pyIter_range hr4 (by decide) ?_
  rw [show Builtin.Range.rangeSize 0 13 1 = ((13 : Nat) : Int) by decide]
  refine srcListsA (h₀ := s.heap) (news := zs) (Walks.range (hh2 _) h4.objs.size 0 1 13) (fun _ o => PartIs (0, o) []) ?an ?a0 ?a1 ?a2 ?a3 (F4.push _) (fun p hp => ⟨Heap.get?_push_of_some _ (N4 p hp).1, (N4 p hp).2⟩) ?a4 ?a5 ?a6 ?a7 ?a8
  case an => decide
  case a0 => simpa using Heap.get?_push_size _ rfl
  case a1 => intro b hb; rw [List.mem_singleton.mp hb]; dsimp only; rw [Heap.size_push]; exact Nat.lt_succ_self _
  case a2 => intro i h st; exact ⟨_, st⟩
  case a3 => intro i h st; dsimp only; rw [Heap.size_push]; exact Heap.lt_size st
  case a4 => exact fresh_of_ext F4.keep (fresh_le (Nat.le_refl _))
  case a5 => exact Nat.ne_of_lt hLlt
  case a6 => intro p hp; exact Nat.ne_of_lt (Heap.lt_size (N4 p hp).1)
  case a7 =>
    intro C i v s₃ m₃ E' _ _ _ _ _ _
    exact List_ (spliced_none (wpAny_newObj_type ⟨⟨_, _, rfl, fun b o q => Heap.get?_push_of_some _ q⟩, _, _, rfl, Nat.le_refl _, Heap.get?_push_size _ rfl, ⟨[], 0, rfl, .nil⟩⟩ (Nat.zero_le _)))
  intro D eD ps h5 tk5 vs5 F5 N5 hzD hps hnd hlen _ hPair
  dsimp only
  have hpl : ps.length = 13 := by rw [← hPair.length, hlen]
  have hP0 := paired_flip hPair
  rw [hlen] at hP0
  obtain ⟨p1, b9, us9, e9, p2, eps, hi9, hb9, hset9⟩ := paired_at 9 hP0 (by decide)
  obtain rfl := hi9.nil_inv
  subst eps
  have hm5 : (fun z => if z = Str.ofString "parts" then some (Value.ref D) else if z = Str.ofString "stretches" then some (Value.ref aS) else List.lookup z [(Str.ofString "script", Value.ref a)].reverse) (Str.ofString "parts") = some (.ref D) := rfl
  obtain ⟨ads, hads⟩ : ∃ ads, (p1 ++ (b9, lobj [] e9) :: p2).map (·.1) = ads := ⟨_, rfl⟩
  have hadr : ((p1 ++ (b9, lobj [] e9) :: p2).map fun p : Addr × Obj => Value.ref p.1) = ads.map Value.ref := by rw [← hads, List.map_map]; rfl
  have hap : ∀ p ∈ (D, lobj ((p1 ++ (b9, lobj [] e9) :: p2).map fun p : Addr × Obj => Value.ref p.1) eD) :: (p1 ++ p2), p.1 ≠ b9 := by
    intro p hp
    rcases List.mem_cons.mp hp with rfl | hp
    · exact Ne.symm (hps (b9, lobj [] e9) (List.mem_append_right _ (.head _))).1
    · exact nodup_mid hnd p hp
  have hzb : ∀ x ∈ (p1 ++ (b9, lobj [] e9) :: p2), ∀ q ∈ zs, q.1 ≠ x.1 := fun x hx q hq => Nat.ne_of_lt ((hps x hx).2 q hq)
  refine wpAny_execs_cons (appendAt (D := b9) (vs := []) (e := e9) (fun v => ∃ t, v = .int 103 t) (pre := (D, lobj ((p1 ++ (b9, lobj [] e9) :: p2).map fun p : Addr × Obj => Value.ref p.1) eD) :: p1) (post := p2 ++ zs) F5 (by simpa using N5) ?b1 ?b2 (by decide) ?b3 ?b4 ?_)
  case b1 => exact fun p hp => hap p (by simp at hp ⊢; rcases hp with h | h; exact .inl h; exact .inr (.inl h))
  case b2 => intro p hp; rcases List.mem_append.mp hp with h | h; exact hap p (by simp [h]); exact hzb (b9, lobj [] e9) (by simp) p h
  case b3 =>
    intro Q' hq
    refine Subscript_Constant (lname F5.ns rfl rfl rfl (by decide) (wpAny_Constant_int ?_))
    have hDl : h5.IsList D ((p1 ++ (b9, lobj [] e9) :: p2).map fun p : Addr × Obj => Value.ref p.1).toArray := ⟨_, (N5 _ (.head _)).1, rfl, _, rfl⟩
    exact ⟨"list", _, slot_list_getitem.lookup, hDl.typeIs, wpAny_getItem_list hDl (by decide) (by decide) (x := .ref b9) (by rw [List.getElem?_toArray, hadr, List.getElem?_map]; show Option.map Value.ref (ads[9]?) = _; rw [← hads, hb9]; rfl) (hq _)⟩
  case b4 => intro tk Q' hq; exact wpAny_Constant_int (hq _ _ ⟨_, rfl⟩)
  intro v103 e103 h6 tk6 hv F6 N6
  obtain ⟨t103, rfl⟩ := hv
  dsimp only
  rw [hadr] at N6
  have N6' : News s.heap L h6 ((D, lobj (ads.map Value.ref) eD) :: ((p1 ++ (b9, lobj [.int 103 t103] e103) :: p2) ++ zs)) := fun p hp => N6 p (by simpa using hp)
  have hlv : vs.length = xs.length := hi.length
  refine wpAny_execs_cons (wpAny_For (sliceTo_c (b := 12) F6 N6' (fun Q' hq => lname F6.ns rfl rfl rfl (by decide) hq) (isList_ext F6.keep hl) (by omega) fun h7 tk7 B F7 N7 l7 _ _ => ?_))
  dsimp only
  refine forList (PJ (vs.take 12) B D ads eD zs (.ref aS)) hh rfl rfl F7 N7 ⟨_, (N7 _ (.head _)).1, rfl, _, rfl⟩ ⟨_, [], rfl, ?i1, .nil, ?i2, rfl, rfl⟩ ?turn ?done
  case i1 => rw [← hads]; simp
  case i2 => exact hset9 [.int 103 t103] e103 [103] (.cons _ _ .nil)
  case done =>
    intro m₁ news₁ h tk hJ F₁ N₁
    obtain ⟨ps, pz, rfl, hpa, hpz, hPd, _, hmp⟩ := hJ
    obtain rfl : pz = xs.take 12 := by rw [← hpz.nums, ← (hi.take 12).nums]
    dsimp only
    have hDl : h.IsList D (ads.map Value.ref).toArray := ⟨_, (N₁ _ (.tail _ (.head _))).1, rfl, _, rfl⟩
    have hAll : AllInts h (ads.map Value.ref) ((xs.take 12).foldl stepP initP) := by
      rw [← hpa, List.map_map]
      exact parts_all hPd fun p hp => (N₁ p (.tail _ (.tail _ (List.mem_append_left _ hp)))).1
    have hPl : ((xs.take 12).foldl stepP initP).length = 13 := foldP_len _ _
    refine wpAny_execs_cons (wpAny_Return_some ?_)
    refine' LC_inv (cl := []) ?hclos ?hcell rfl ?hnames rfl ?_ ?hs
    case hclos => with_unfolding_all rfl
    case hcell => decide
    case hnames => decide
    case hs => intro _; rfl
    refine lname F₁.ns hmp rfl rfl (by decide) ?_
    refine srcLists (fun v o => ∃ zs, IsInts h v zs ∧ PartIs (0, o) (srt zs)) hh hDl (by rw [hAll.length, hPl]; decide) ?g1 ?g2
    case g1 =>
      intro C v s₃ m₃ E' _ hv hns hm g
      obtain ⟨zs', hz, hzl⟩ := hAll.of_mem hv
      obtain ⟨av, vv, rfl, hlv, hiv⟩ := hz
      have g' := Ext.trans F₁.keep g
      refine Call_ ?_
      refine' bname (X.keeps g') (T.keeps g') ?e1 (v := .builtin "sorted") (by decide +kernel) (by decide) rfl rfl rfl (by with_unfolding_all rfl) (by decide) ?_
      case e1 => k_is
      refine callWith_builtin1 (args_cons (lname hns hm rfl (by with_unfolding_all rfl) (by decide) (args_nil ?_)))
      refine sorted_c (isList_ext g hlv) hiv ?_ fun h8 b ws g8 fb hp8 hI8 => ?_
      · exact foldP_small _ _ hzl
      · obtain ⟨eb, hb8⟩ := hp8
        exact ⟨⟨_, _, rfl, g8⟩, _, _, rfl, fb, hb8, zs', ⟨av, vv, rfl, hlv, hiv⟩, ws, eb, rfl, hI8⟩
    case g2 =>
      intro D' ps' h' tk' g' _ hpl' hps' _ hpair
      obtain ⟨e', he'⟩ := hpl'
      dsimp only
      refine hQ _ _ _ (Ext.trans F₁.keep g') ⟨D', _, rfl, ⟨_, he', rfl, _, rfl⟩, ?_, ?_⟩
      · exact sorted_all hAll hpair fun p hp => (hps' p hp).1
      · exact sorted_plain hpair fun p hp => (hps' p hp).1
  case turn =>
    intro pre v post m₁ news₁ h tk I oI E' hys hJ F₁ N₁ hI hnI hBl hlI hsI
    obtain ⟨ps, pz, rfl, hpa, hpz, hPd, hms, hmp⟩ := hJ
    have hIs := hi.take 12
    rw [hys] at hIs
    obtain ⟨pz', n, qz, t, hhs, hIp', rfl⟩ := ints_split hIs
    obtain rfl : pz' = pz := by rw [← hIp'.nums, ← hpz.nums]
    have hpre : IntsAre (pre ++ [.int n t]) (pz' ++ [n]) := hpz.append (.cons n t .nil)
    have hk := fmod13 n
    have hk13 : (n.fmod 13).toNat < 13 := by omega
    have hm1 : (fun y => if y = Str.ofString "n" then some (Value.int n t) else m₁ y) (Str.ofString "n") = some (.int n t) := upd_self
    have hm2 : (fun y => if y = Str.ofString "n" then some (Value.int n t) else m₁ y) (Str.ofString "stretches") = some (.ref aS) := upd_ne (by decide) hms
    have hm3 : (fun y => if y = Str.ofString "n" then some (Value.int n t) else m₁ y) (Str.ofString "parts") = some (.ref D) := upd_ne (by decide) hmp
    generalize (fun y => if y = Str.ofString "n" then some (Value.int n t) else m₁ y) = m2 at F₁ hm1 hm2 hm3
    obtain ⟨hlS, hiS⟩ := hpin h F₁.keep fun p hp => (N₁ p (.tail _ (.tail _ (.tail _ (List.mem_append_right _ hp))))).1
    obtain ⟨vrow, hvrow, hrow⟩ := hiS.get (n.fmod 13).toNat (by exact hk13)
    obtain ⟨arow, _, rfl, _, _⟩ := id hrow
    have hlp := stretch_ne _ hk13
    have hle := stretch_le _ hk13
    obtain ⟨row, hrw⟩ : ∃ row, stretchesL.getD (n.fmod 13).toNat [] = row := ⟨_, rfl⟩
    rw [hrw] at hlp hle hrow
    have hnz : (row.length : Int) ≠ 0 := by omega
    have hj0 := Int.fmod_nonneg_of_pos (n.fdiv 13) (b := (row.length : Int)) (by omega)
    have hjl := Int.fmod_lt_of_pos (n.fdiv 13) (b := (row.length : Int)) (by omega)
    have hPlen : (pz'.foldl stepP initP).length = 13 := foldP_len _ _
    obtain ⟨p1', b, us, e, p2', rfl, hib, hbk, hset⟩ := paired_at (n.fmod 13).toNat hPd (by omega)
    have hst : ((pz'.foldl stepP initP).getD (n.fmod 13).toNat []).length ≤ 100 := by
      have h1 := foldP_le pz' initP 1 (by decide)
      have h2 : pz'.length ≤ 12 := by have := congrArg List.length hhs; simp at this; omega
      rw [List.getD_eq_getElem?_getD]
      cases e : (pz'.foldl stepP initP)[(n.fmod 13).toNat]? with
      | none => exact Nat.zero_le _
      | some y => have := h1 y (List.mem_of_getElem? e); show y.length ≤ 100; omega
    have hP' : ∀ code, row.getD ((n.fdiv 13).fmod (row.length : Int)).toNat 0 = code → stepP (pz'.foldl stepP initP) n = if code ∈ (pz'.foldl stepP initP).getD (n.fmod 13).toNat [] then pz'.foldl stepP initP else (pz'.foldl stepP initP).set (n.fmod 13).toNat ((pz'.foldl stepP initP).getD (n.fmod 13).toNat [] ++ [code]) := fun code e => by rw [← e]; unfold stepP; rw [hrw]
    generalize hP : pz'.foldl stepP initP = P at *
    -- stretch = stretches[n % 13]
    refine wpAny_execs_cons (wpAny_Assign_Name (Subscript_BinOp (lname F₁.ns hm2 rfl rfl (by decide) (wpAny_BinOp (lname F₁.ns hm1 rfl rfl (by decide) (wpAny_Constant_int (mod_int (by decide) ?_)))))))
    refine ⟨"list", _, slot_list_getitem.lookup, hlS.typeIs, wpAny_getItem_list hlS hk.1 (by omega) (x := .ref arow) (by rw [List.getElem?_toArray]; exact hvrow) ?_⟩
    refine stN F₁ N₁ fun h2 F2 N2 => ?_
    have hm5 := upd_self (m := m2) (x := Str.ofString "stretch") (v := .ref arow)
    have hm6 := upd_ne (m := m2) (x := Str.ofString "stretch") (v := .ref arow) (y := Str.ofString "n") (by decide) hm1
    have hm7 := upd_ne (m := m2) (x := Str.ofString "stretch") (v := .ref arow) (y := Str.ofString "stretches") (by decide) hm2
    have hm8 := upd_ne (m := m2) (x := Str.ofString "stretch") (v := .ref arow) (y := Str.ofString "parts") (by decide) hm3
    have F2' : Fr s.heap L h2 (upd m2 (Str.ofString "stretch") (.ref arow)) := F2
    clear F2
    generalize upd m2 (Str.ofString "stretch") (.ref arow) = m4 at F2' hm5 hm6 hm7 hm8
    obtain ⟨hlS2, hiS2⟩ := hpin h2 F2'.keep fun p hp => (N2 p (.tail _ (.tail _ (.tail _ (List.mem_append_right _ hp))))).1
    obtain ⟨vrow2, hvrow2, hrow2⟩ := hiS2.get (n.fmod 13).toNat (by exact hk13)
    rw [hvrow] at hvrow2
    rw [hrw] at hrow2
    cases hvrow2
    obtain ⟨_, vr, e1, hlrow, hirow⟩ := hrow2
    cases e1
    have ei : vr.toArray.size = row.length := by rw [List.size_toArray, hirow.length]
    obtain ⟨tc, hcode⟩ := ints_get ((n.fdiv 13).fmod (row.length : Int)).toNat hirow (by omega)
    -- code = stretch[n // 13 % len(stretch)]
    refine wpAny_execs_cons (wpAny_Assign_Name (Subscript_BinOp (lname F2'.ns hm5 rfl rfl (by decide) (wpAny_BinOp (wpAny_BinOp (lname F2'.ns hm6 rfl rfl (by decide) (wpAny_Constant_int (floordiv_int (by decide) ?_ (.inl (PyProof.noPylong_small (by decide)))))))))))
    refine Call_ ?_
    refine' bname (X.keeps F2'.keep) (T.keeps F2'.keep) ?e1 (v := .builtin "len") (by decide +kernel) (by decide) rfl rfl rfl rfl (by decide) ?_
    case e1 => k_is
    refine callWith_builtin1 (args_cons (lname F2'.ns hm5 rfl rfl (by decide) (args_nil ?_)))
    refine len_list hlrow (by omega) ?_
    rw [ei]
    refine mod_int hnz ?_
    refine ⟨"list", _, slot_list_getitem.lookup, hlrow.typeIs, wpAny_getItem_list hlrow hj0 (by omega) (by rw [List.getElem?_toArray]; exact hcode) ?_⟩
    generalize hcd : row.getD ((n.fdiv 13).fmod (row.length : Int)).toNat 0 = code
    refine stN F2' N2 fun h3 F3 N3 => ?_
    have hm9 := upd_self (m := m4) (x := Str.ofString "code") (v := .int code tc)
    have hm10 := upd_ne (m := m4) (x := Str.ofString "code") (v := .int code tc) (y := Str.ofString "n") (by decide) hm6
    have hm11 := upd_ne (m := m4) (x := Str.ofString "code") (v := .int code tc) (y := Str.ofString "stretches") (by decide) hm7
    have hm12 := upd_ne (m := m4) (x := Str.ofString "code") (v := .int code tc) (y := Str.ofString "parts") (by decide) hm8
    have F3' : Fr s.heap L h3 (upd m4 (Str.ofString "code") (.int code tc)) := F3
    clear F3
    generalize upd m4 (Str.ofString "code") (.int code tc) = m5 at F3' hm9 hm10 hm11 hm12
    have hDl : h3.IsList D (ads.map Value.ref).toArray := ⟨_, (N3 _ (.tail _ (.tail _ (.head _)))).1, rfl, _, rfl⟩
    have hbl : h3.IsList b us.toArray := ⟨_, (N3 (b, lobj us e) (.tail _ (.tail _ (.tail _ (List.mem_append_left _ (List.mem_append_right _ (.head _))))))).1, rfl, _, rfl⟩
    have hbk' : (ads.map Value.ref).toArray[(n.fmod 13).toNat]? = some (.ref b) := by rw [List.getElem?_toArray, List.getElem?_map, ← hpa, hbk]; rfl
    -- if code not in parts[n % 13]
    refine wpAny_execs_cons (wpAny_If (wpAny_isTrue_Compare1 (lname F3'.ns hm9 rfl rfl (by decide) (Subscript_BinOp (lname F3'.ns hm12 rfl rfl (by decide) (wpAny_BinOp (lname F3'.ns hm10 rfl rfl (by decide) (wpAny_Constant_int (mod_int (by decide) ?_)))))))))
    refine ⟨"list", _, slot_list_getitem.lookup, hDl.typeIs, wpAny_getItem_list hDl hk.1 (by omega) hbk' ?_⟩
    refine notin_list_ints hbl hib (wpAny_truthy_bool ?_)
    have hIn : ∀ p ∈ (p1' ++ (b, lobj us e) :: p2') ++ zs, p.1 ≠ I := fun p hp => hI p (.tail _ (.tail _ hp))
    have hfp : ∀ c ∈ [I, B], ∀ o, h.get? c = some o → h3.get? c = some o := by
      intro c hc o q
      rcases List.mem_cons.mp hc with rfl | hc
      · rw [(N₁ _ (.head _)).1] at q
        cases q
        exact (N3 _ (.head _)).1
      · rw [List.mem_singleton] at hc
        subst hc
        rw [(N₁ (c, lobj (vs.take 12) 0) (.tail _ (.head _))).1] at q
        cases q
        exact (N3 (c, lobj (vs.take 12) 0) (.tail _ (.head _))).1
    by_cases hin : code ∈ P.getD (n.fmod 13).toNat []
    · rw [if_neg (by rw [any_mem]; simpa using hin)]
      refine wpAny_execs_nil (wpAny_execs_nil ?_)
      refine turnEnd (.inl rfl) F3' N3 hI hfp ⟨_, pz' ++ [n], rfl, hpa, hpre, ?_, hm11, hm12⟩
      rw [List.foldl_append]
      show Paired PartIs _ (stepP (pz'.foldl stepP initP) n)
      rw [hP, hP' code hcd, if_pos hin]
      exact hPd
    · rw [if_pos (by rw [any_mem]; simpa using hin)]
      have hadb : b ∈ ads := by rw [← hpa]; simp
      have hnd' : ((p1' ++ (b, lobj us e) :: p2').map (·.1)).Nodup := by rw [hpa, ← hads]; exact hnd
      have hbz : ∀ q ∈ zs, q.1 ≠ b := by
        rw [← hads] at hadb
        obtain ⟨x, hx, ex⟩ := List.mem_map.mp hadb
        intro q hq
        rw [← ex]
        exact hzb x hx q hq
      have hbD : D ≠ b := by
        rw [← hads] at hadb
        obtain ⟨x, hx, ex⟩ := List.mem_map.mp hadb
        rw [← ex]
        exact Ne.symm (hps x hx).1
      have hbB : B ≠ b := by
        rw [← hads] at hadb
        obtain ⟨x, hx, ex⟩ := List.mem_map.mp hadb
        rw [← ex]
        have hx' : ∃ o, (x.1, o) ∈ (p1 ++ (b9, lobj [.int 103 t103] e103) :: p2) := by
          rcases List.mem_append.mp hx with hx | hx
          · exact ⟨x.2, List.mem_append_left _ hx⟩
          rcases List.mem_cons.mp hx with rfl | hx
          · exact ⟨_, List.mem_append_right _ (.head _)⟩
          · exact ⟨x.2, List.mem_append_right _ (.tail _ hx)⟩
        obtain ⟨o, ho⟩ := hx'
        exact Nat.ne_of_gt (l7 (x.1, o) (.tail _ (List.mem_append_left _ ho)))
      have hbI : b ≠ I := hIn (b, lobj us e) (by simp)
      have lus : us.length ≤ 1000 := by rw [hib.length]; omega
      refine wpAny_execs_cons (appendAt (D := b) (vs := us) (e := e) (fun v => v = .int code tc) (pre := (I, oI) :: (B, lobj (vs.take 12) 0) :: (D, lobj (ads.map Value.ref) eD) :: p1') (post := p2' ++ zs) F3' (fun p hp => N3 p (by simpa using hp)) ?c1 ?c2 lus ?c3 ?c4 ?_)
      case c1 =>
        intro p hp
        rcases List.mem_cons.mp hp with rfl | hp
        · exact Ne.symm hbI
        rcases List.mem_cons.mp hp with rfl | hp
        · exact hbB
        rcases List.mem_cons.mp hp with rfl | hp
        · exact hbD
        · exact nodup_mid hnd' p (List.mem_append_left _ hp)
      case c2 =>
        intro p hp
        rcases List.mem_append.mp hp with hp | hp
        · exact nodup_mid hnd' p (List.mem_append_right _ hp)
        · exact hbz p hp
      case c3 =>
        intro Q' hq
        refine Subscript_BinOp (lname F3'.ns hm12 rfl rfl (by decide) (wpAny_BinOp (lname F3'.ns hm10 rfl rfl (by decide) (wpAny_Constant_int (mod_int (by decide) ?_)))))
        exact ⟨"list", _, slot_list_getitem.lookup, hDl.typeIs, wpAny_getItem_list hDl hk.1 (by omega) hbk' (hq _)⟩
      case c4 => intro tk Q' hq; exact lname F3'.ns hm9 rfl rfl (by decide) (hq _ _ rfl)
      rintro _ e' h4 tk4 rfl F4 N4
      refine wpAny_execs_nil (wpAny_execs_nil ?_)
      refine turnEnd (.inl rfl) F4 (news' := (B, lobj (vs.take 12) 0) :: (D, lobj (ads.map Value.ref) eD) :: ((p1' ++ (b, lobj (us ++ [.int code tc]) e') :: p2') ++ zs)) (fun p hp => N4 p (by simpa using hp)) ?_ ?_ ⟨_, pz' ++ [n], rfl, by rw [← hpa]; simp, hpre, ?_, hm11, hm12⟩
      · intro p hp
        rcases List.mem_cons.mp hp with rfl | hp
        · exact hlI
        rcases List.mem_cons.mp hp with rfl | hp
        · exact hI _ (.tail _ (.head _))
        rcases List.mem_append.mp hp with hp | hp
        · rcases List.mem_append.mp hp with hp | hp
          · exact hIn p (by simp [hp])
          rcases List.mem_cons.mp hp with rfl | hp
          · exact hbI
          · exact hIn p (by simp [hp])
        · exact hIn p (by simp [hp])
      · intro c hc o q
        rcases List.mem_cons.mp hc with rfl | hc
        · rw [(N₁ _ (.head _)).1] at q
          cases q
          exact (N4 _ (.head _)).1
        · rw [List.mem_singleton] at hc
          subst hc
          rw [(N₁ (c, lobj (vs.take 12) 0) (.tail _ (.head _))).1] at q
          cases q
          exact (N4 (c, lobj (vs.take 12) 0) (.tail _ (.head _))).1
      · rw [List.foldl_append]
        show Paired PartIs _ (stepP (pz'.foldl stepP initP) n)
        rw [hP, hP' code hcd, if_neg hin]
        exact hset _ _ _ (hib.append (.cons _ _ .nil))
end Mine

open PySem PySem.W PyProof.Rows
set_option Elab.async false
set_option linter.unusedSimpArgs false
namespace Mine
/-- a def with cells is entered -/
theorem enterC {w : World} {A : Around} {s : Shared} {Q E : Value → Shared → Prop} {K : Frag} {p : Program} {loose : List Str} {mean : ExcName → Option Value} {mg mb : Str → Option Value}
    {name qual : Str} {params : Arguments} {body : List Stmt} {scope : Scope} {dV kV doc pm cdv ct oc : Value} {an od : Option Addr} {osl : Array (Option Value)} {f : Addr} {args : List Value} {binds : List (Str × Value)}
    (X : K.In s.heap) (T : Top p loose mean mg mb s.heap)
    (ho : K.lookup f = some ⟨oc, od, .func (fnOf name qual params body scope dV kV doc pm an cdv ct), osl⟩) (hcd : codeIn K cdv qual = true) (hroom : A.depth < recursionLimit)
    (hbind : BindsTo s (fnOf name qual params body scope dV kV doc pm an cdv ct) ⟨args, []⟩ binds) (hkind : (binds.all fun y => scope.names.lookup y.1 == some .local || scope.names.lookup y.1 == some .cell) = true)
    (hnd : ((cellsFrom 0 scope.names []).map (·.1)).Nodup)
    (h : ∀ L h₁ tk cells, L = s.heap.objs.size → Fr s.heap L h₁ (bindL (envOfC qual scope L f cdv).kindOf binds fun _ => none) → News s.heap L h₁ cells →
      CellsAre (bindC (envOfC qual scope L f cdv).kindOf binds fun _ => none) (cellsFrom (L + 1) scope.names []) cells →
      wpAny (model P0 w) (A.deeper (envOfC qual scope L f cdv)) (execs body (envOfC qual scope L f cdv))
        (fun fl s' => Q (match fl with | .ret v => v | _ => .none) s') (fun _ _ => False)
        { s with heap := h₁, toks := tk })
    (hco : scope.isCoroutine = false) (hgen : scope.isGenerator = false) (hk : scope.kind = .function) : wpAny (model P0 w) A (call (.ref f) args) Q E s := by
  refine wpAny_call (codeAny_call_function (fd := fnOf name qual params body scope dV kV doc pm an cdv ct) hroom (X _ _ ho) rfl hco hgen rfl (codeRec_of X hcd) (hbind _ _ _ _ ?_))
  refine wpAny_newFunctionEnv_cells hk (kindsX hkind _) fun env' he s' x => ?_
  subst he
  refine ⟨T.nolimit.keeps x.toInCall.keep, codeAny_func ?_⟩
  obtain ⟨h₁, tk, rfl, _⟩ := x.done
  have hk₁ := x.toInCall.keep
  obtain ⟨cells, NC, Y⟩ := Cl.news (h₀ := s.heap) (Nat.le_refl _) fun n c hm => ⟨x.cell n c (lookup_of_mem_nodup (cellsFrom_names scope.names 0 (s.heap.objs.size + 1) [] [] rfl ▸ hnd) hm), x.above n c hm⟩
  exact wpAny_mono (h _ h₁ tk cells rfl ⟨x.toInCall.ns, hk₁, Nat.le_refl _⟩ NC Y) (fun fl s' x => x) (fun _ _ x => x.elim)
section
variable {M : Model} {A : Around} {env : Env} {s : Shared} {E : Value → Shared → Prop} {x : Str} {pos : Pos} {c : Addr} {v : Value} {Q : Value → Shared → Prop}
/-- a name that lies in a cell -/
theorem cname (hv : s.heap.IsCell c (some v)) (hc : env.cells.lookup x = some c) (hk : env.scope.kind = .function) (hx : env.kindOf x = some .cell) (hd : (x == ("__debug__" : Str)) = false) (h : Q v s) : wpAny M A (eval (.Name x pos) env) Q E s :=
  wpAny_Name (wpAny_loadName_cell hk hx hc hv h) hd
/-- a captured name -/
theorem fname (hv : s.heap.IsCell c (some v)) (hc : env.cells.lookup x = some c) (hk : env.scope.kind = .function) (hx : env.kindOf x = some .free) (hd : (x == ("__debug__" : Str)) = false) (h : Q v s) (hn : (x == ("__classdict__" : Str)) = false := by decide) : wpAny M A (eval (.Name x pos) env) Q E s :=
  wpAny_Name (wpAny_loadName_free hk hx hc hv h hn) hd
/-- a store in a cell of the ledger -/
theorem stCell {hb : Heap} {L : Addr} {m : Str → Option Value} {pre post : List (Addr × Obj)} {o : Obj} {v₀ : Option Value} {Q : Unit → Shared → Prop} (F : Fr hb L s.heap m) (N : News hb L s.heap (pre ++ (c, o) :: post)) (ho : o.data = .cell v₀)
    (h1 : ∀ p ∈ pre, p.1 ≠ c) (h2 : ∀ p ∈ post, p.1 ≠ c) (hc : env.cells.lookup x = some c) (hk : env.scope.kind = .function) (hx : env.kindOf x = some .cell)
    (h : ∀ h' o', o'.data = .cell (some v) → Fr hb L h' m → News hb L h' (pre ++ (c, o') :: post) → Q () { s with heap := h' }) : wpAny M A (storeName env x v) Q E s := by
  have hm := N (c, o) (List.mem_append_right _ (.head _))
  refine wpAny_storeName_cell hk hx hc ⟨o, hm.1, ho⟩ fun h' hv SB => ?_
  obtain ⟨o', ho', hd'⟩ := hv
  obtain ⟨F', _⟩ := sameBut_fr SB F N (List.mem_append_right _ (.head _))
  exact h h' o' hd' F' (news_set N h1 h2 SB ho')
end
end Mine

open PySem PySem.W PyProof.Rows
set_option Elab.async false
set_option linter.unusedSimpArgs false
namespace Mine
local macro_rules | `(tactic| walk_at "m rm") => `(tactic| first | exact Rm.le (by assumption) (by decide) | exact Rm.le (Rm.deeper (by assumption)) (by decide))
local macro_rules | `(tactic| walk_at "m back") => `(tactic| (intro h' tk' g'; have F' := frExt g' (by assumption); have N' := newsExt g' (by assumption); clear g'; (try k_sweep); (try dsimp only)))
/-- what the marked parts hold -/
def takenL (b : Nat → Bool) : Nat → List (List Int) → List Int
  | _, [] => []
  | k, p :: ps => (if b k then p else []) ++ takenL b (k + 1) ps
theorem takenL_snoc (b : Nat → Bool) : ∀ (k : Nat) (ps : List (List Int)) (p : List Int), takenL b k (ps ++ [p]) = takenL b k ps ++ (if b (k + ps.length) then p else [])
  | k, [], p => by simp [takenL]
  | k, q :: ps, p => by
    simp only [List.cons_append, takenL, takenL_snoc b (k + 1) ps p, List.append_assoc, List.length_cons]
    rw [show k + 1 + ps.length = k + (ps.length + 1) by omega]
theorem takenL_len (b : Nat → Bool) : ∀ (k : Nat) (ps : List (List Int)), (takenL b k ps).length ≤ ps.flatten.length
  | _, [] => Nat.le_refl _
  | k, q :: ps => by
    have := takenL_len b (k + 1) ps
    simp only [takenL, List.flatten_cons, List.length_append]
    split
    · omega
    · simp only [List.length_nil]; omega
def bitOf (n : Int) (k : Nat) : Bool := decide (((n.fdiv 13).fdiv (2 ^ k)).fmod 2 = 1)
def wishL (n : Int) (parts : List (List Int)) (page : List Int) : List Int :=
  if n.fmod 3 ≠ 0 then srt (takenL (bitOf n) 0 parts)
  else page.filter fun c => decide (c ∈ takenL (bitOf n) 0 parts) != decide (c = page.getD ((n.fdiv 3).fmod (page.length : Int)).toNat 0)
section
variable {prog : Program} {w : World} {A : Around} {E : Value → Shared → Prop} {s : Shared} {env : Env} {hb : Heap} {L : Addr} {m : Str → Option Value}
/-- an extend of a list that an expression tells -/
theorem extendAt {pl : Sem Bool} {oe arg : Expr} {p2 p4 pos : Pos} {D b : Addr} {vs us : List Value} {e eb : Nat} {pre post : List (Addr × Obj)} {Q : Flow → Shared → Prop} (F : Fr hb L s.heap m)
    (N : News hb L s.heap (pre ++ (D, lobj vs e) :: post)) (h1 : ∀ p ∈ pre, p.1 ≠ D) (h2 : ∀ p ∈ post, p.1 ≠ D) (hbo : s.heap.get? b = some (lobj us eb)) (hz : vs.length + us.length ≤ 900)
    (ho : ∀ Q' : Value → Shared → Prop, (∀ tk, Q' (.ref D) { s with toks := tk }) → wpAny (model prog w) A (eval oe env) Q' E s)
    (ha : ∀ tk (Q' : Value → Shared → Prop), (∀ tk, Q' (.ref b) { s with toks := tk }) → wpAny (model prog w) A (eval arg env) Q' E { s with toks := tk })
    (h : ∀ e' h' tk, Fr hb L h' m → News hb L h' (pre ++ (D, lobj (vs ++ us) e') :: post) → Q .next { s with heap := h', toks := tk })
    (hi : interactive env = false := by rfl) (hs : swapsWith (.Call (.Attribute oe (Str.ofString "extend") p2) [arg] [] p4) none pos.line env = pure false := by rfl)
    (hst : starEach [arg] env = (false, eval arg env) :: starEach [] env := by rfl)
    (he : eval (.Call (.Attribute oe (Str.ofString "extend") p2) [arg] [] p4) env = (do
      let ov ← eval oe env
      standAt p2.atName
      let (f, first) ← holding [ov] (getMethod ov (Str.ofString "extend") pl)
      callWith p4 f first (backTo p4 (starEach [arg] env)) []) := by rfl) :
    wpAny (model prog w) A (exec (.Expr (.Call (.Attribute oe (Str.ofString "extend") p2) [arg] [] p4) pos) env) Q E s := by
  have hD := N (D, lobj vs e) (List.mem_append.mpr (.inr (.head _)))
  refine wpAny_Expr_any (MethodCall_ (ho _ fun tk => ?_) he) hi hs
  refine kl_method (s := { s with toks := tk }) N (List.mem_append.mpr (.inr (.head _))) PySem.F.slot_list_extend PySem.F.type_list_extend ?_
  rw [hst]
  refine Calls.callWith_builtin (by rfl) (Calls.evalArgs_plain (Calls.spliced_cons (ha _ _ fun tk2 => args_nil ?_)))
  refine extend_c (s := { s with toks := tk2 }) (its := vs.toArray) (its2 := us.toArray) ⟨e, hD.1⟩ ⟨eb, hbo⟩ (by simp only [List.size_toArray]; omega) fun h' hp hsb => ?_
  obtain ⟨e', he'⟩ := hp
  exact h e' h' tk2 (F.change hsb hD.2.1 hD.2.2) (news_set N h1 h2 hsb (by rw [he']; simp))
end
/-- where the taking loop stands -/
def WJ (cT cO Tk : Addr) (oO : Obj) (n : Int) (tn : Tok) (ap ag : Addr) (parts : List (List Int)) (k : Nat) (m : Str → Option Value) (news : List (Addr × Obj)) : Prop :=
  ∃ oT us e, news = (Tk, lobj us e) :: (cO, oO) :: (cT, oT) :: [] ∧ oT.data = .cell (some (.ref Tk)) ∧ IntsAre us (takenL (bitOf n) 0 (parts.take k)) ∧ m (Str.ofString "n") = some (.int n tn) ∧ m (Str.ofString "parts") = some (.ref ap) ∧ m (Str.ofString "page") = some (.ref ag)
theorem two_pow_small {i : Nat} (h : i < 13) : (2 : Int) ^ i ≠ 0 ∧ ((2 : Int) ^ i).natAbs < 1073741824 := by
  have h1 : (2 : Nat) ^ i ≤ 2 ^ 12 := Nat.pow_le_pow_right (by decide) (by omega)
  have h2 : (0 : Nat) < 2 ^ i := Nat.pow_pos (by decide)
  have e : (2 : Int) ^ i = ((2 ^ i : Nat) : Int) := by simp
  rw [e]
  omega
theorem take_succ_getD (xs : List (List Int)) {i : Nat} (h : i < xs.length) : xs.take (i + 1) = xs.take i ++ [xs.getD i []] := by
  rw [List.take_add_one, List.getD_eq_getElem?_getD, List.getElem?_eq_getElem h]
  rfl
set_option maxRecDepth 100000 in
set_option maxHeartbeats 4000000 in
theorem wish_c {w : World} {mean : ExcName → Option Value} {mg mb : Str → Option Value} {A : Around} {s : Shared} {Q E : Value → Shared → Prop} {n : Int} {tn : Tok} {ap ag : Addr} {vp vg : List Value} {parts : List (List Int)} {page : List Int}
    (X : (hd.heap_39 w.params).In s.heap) (T : Top hd.view_39 (looseW hd.view_39 []) mean mg mb s.heap) (hA : Rm A 2)
    (hlp : s.heap.IsList ap vp.toArray) (hip : AllInts s.heap vp parts) (hpl : ∀ x ∈ vp, ∃ b us e, x = .ref b ∧ s.heap.get? b = some (lobj us e)) (h13 : parts.length = 13) (hsm : parts.flatten.length < 64)
    (hlg : s.heap.IsList ag vg.toArray) (hig : IntsAre vg page) (hg1 : 0 < page.length) (hg2 : page.length < 64)
    (hQ : ∀ h' tk' b us e, Ext s.heap h' → s.heap.objs.size ≤ b → h'.get? b = some (lobj us e) → IntsAre us (wishL n parts page) → Q (.ref b) { s with heap := h', toks := tk' }) : wpAny (model Challenge.rw_mj0077_01.row.prog w) A (call (.ref 169) [.int n tn, .ref ap, .ref ag]) Q E s := by
  revert X
  w_top off
  k_fill
  intro X
  refine' enterC (binds := [(Str.ofString "n", .int n tn), (Str.ofString "parts", .ref ap), (Str.ofString "page", .ref ag)]) X T ?k6 ?k7 ?k8 ?k9 ?kB ?kD ?_ ?c2 ?c3 ?c4
  case k6 => k_is
  case k7 => k_is
  case k8 => have := hA.dep; omega
  case k9 => exact BindsTo.of_eq rfl
  case kB => exact rfl
  case kD => decide +kernel
  case c2 => rfl
  case c3 => rfl
  case c4 => rfl
  intro L h₁ tk cells hL F N Y
  obtain ⟨oO, oT, rfl, dO, dT⟩ := CellsAre.two Y
  have hh : A.handled = none := hA.han
  have dO' : oO.data = .cell none := dO
  have dT' : oT.data = .cell none := dT
  clear dO dT Y
  obtain ⟨m0, F0, hm1, hm2, hm3⟩ : ∃ m0, Fr s.heap L h₁ m0 ∧ m0 (Str.ofString "n") = some (.int n tn) ∧ m0 (Str.ofString "parts") = some (.ref ap) ∧ m0 (Str.ofString "page") = some (.ref ag) := ⟨_, F, rfl, rfl, rfl⟩
  clear F
  refine wpAny_execs_cons (wpAny_Assign_Name (nilList F0 N fun h2 Tk F2 N2 l2 _ _ => ?_))
  have hT1 : L + 1 < Tk := l2 (L + 1, oT) (by simp)
  have hT2 : L + 1 + 1 < Tk := l2 (L + 1 + 1, oO) (by simp)
  refine stCell (pre := [(Tk, lobj [] 0), (L + 1 + 1, oO)]) (post := []) F2 N2 dT' ?_ (fun _ h => nomatch h) rfl rfl rfl fun h3 oT3 dT3 F3 N3 => ?_
  · intro p hp
    rcases List.mem_cons.mp hp with rfl | hp
    · exact Nat.ne_of_gt hT1
    · rw [List.mem_singleton.mp hp]; exact Nat.ne_of_gt (Nat.lt_succ_self _)
  dsimp only
  refine wpAny_execs_cons (wpAny_For ?_)
  repeat' ((fail_if_success (with_reducible show wpAny _ _ (pyIter _) _ _ _)); walk1)
  rename_i h4 tk4 t4 u4 v4 hr4 F4 N4 g4
  dsimp only
  refine forRange 13 (WJ (L + 1) (L + 1 + 1) Tk oO n tn ap ag parts) hh rfl rfl F4 N4 hr4 (by decide) (by decide) ⟨oT3, [], 0, rfl, dT3, .nil, hm1, hm2, hm3⟩ ?turn ?done
  case turn =>
    intro i t m₁ news₁ h tk I oI E' hi13 hJ F₁ N₁ hI hnI hsI
    obtain ⟨oT', us, e, rfl, dT', hus, hmn, hmp, hmg⟩ := hJ
    rw [show (0 : Int) + (i : Int) = (i : Int) by omega] at F₁
    have hx1 : (fun y => if y = Str.ofString "k" then some (Value.int (i : Int) t) else m₁ y) (Str.ofString "k") = some (.int (i : Int) t) := upd_self
    have hx2 : (fun y => if y = Str.ofString "k" then some (Value.int (i : Int) t) else m₁ y) (Str.ofString "n") = some (.int n tn) := upd_ne (by decide) hmn
    have hx3 : (fun y => if y = Str.ofString "k" then some (Value.int (i : Int) t) else m₁ y) (Str.ofString "parts") = some (.ref ap) := upd_ne (by decide) hmp
    have hx4 : (fun y => if y = Str.ofString "k" then some (Value.int (i : Int) t) else m₁ y) (Str.ofString "page") = some (.ref ag) := upd_ne (by decide) hmg
    generalize (fun y => if y = Str.ofString "k" then some (Value.int (i : Int) t) else m₁ y) = m2 at F₁ hx1 hx2 hx3 hx4
    obtain ⟨p0, ps⟩ := two_pow_small hi13
    have htk : takenL (bitOf n) 0 (parts.take (i + 1)) = takenL (bitOf n) 0 (parts.take i) ++ (if bitOf n i then parts.getD i [] else []) := by
      rw [take_succ_getD parts (by omega), takenL_snoc, List.length_take, Nat.min_eq_left (by omega), Nat.zero_add]
    have lT : (takenL (bitOf n) 0 (parts.take (i + 1))).length < 64 := by
      have h1 := takenL_len (bitOf n) 0 (parts.take (i + 1))
      have h2 : (parts.take (i + 1)).flatten.length ≤ parts.flatten.length := by
        conv => rhs; rw [← List.take_append_drop (i + 1) parts, List.flatten_append, List.length_append]
        omega
      omega
    refine wpAny_execs_cons (wpAny_If (wpAny_isTrue_Compare1 (wpAny_BinOp (wpAny_BinOp (wpAny_BinOp (lname F₁.ns hx2 rfl rfl (by decide) (wpAny_Constant_int (floordiv_int (by decide) ?_ (.inl (PyProof.noPylong_small (by decide)))))))))))
    refine wpAny_BinOp (wpAny_Constant_int (lname F₁.ns hx1 rfl rfl (by decide) (pow_int (by omega) ?_ ?_)))
    · rw [show Builtin.Int.intBits 2 = 2 by decide]; omega
    rw [Int.toNat_natCast]
    refine floordiv_int p0 (wpAny_Constant_int (mod_int (by decide) (wpAny_Constant_int (eq_int (wpAny_truthy_bool ?_))))) (.inl (PyProof.noPylong_small ps))
    have hbit : ((((n.fdiv 13).fdiv (2 ^ i)).fmod 2 == 1) = true) = (bitOf n i = true) := by unfold bitOf; simp
    have hfp : ∀ b ∈ [I], ∀ o, h.get? b = some o → h.get? b = some o := fun b _ o q => q
    by_cases hb : bitOf n i = true
    · rw [if_pos (hbit ▸ hb)]
      obtain ⟨v, hv, hvi⟩ := hip.get i (by omega)
      obtain ⟨b, bs, eb, rfl, hbo⟩ := hpl v (List.mem_of_getElem? hv)
      have hbl : IntsAre bs (parts.getD i []) := by
        obtain ⟨_, vs', e1, hl', hi'⟩ := hvi
        cases e1
        obtain ⟨o1, ho1, _, n1, hd1⟩ := hl'
        rw [hbo] at ho1
        cases ho1
        have e3 : bs.toArray = vs'.toArray := by cases hd1; rfl
        rw [show bs = vs' by simpa using e3]
        exact hi'
      rw [if_pos hb] at htk
      have lsum : us.length + bs.length ≤ 900 := by rw [hus.length, hbl.length, ← List.length_append, ← htk]; omega
      refine wpAny_execs_cons (extendAt (D := Tk) (b := b) (vs := us) (us := bs) (e := e) (eb := eb) (pre := [(I, oI)]) (post := [(L + 1 + 1, oO), (L + 1, oT')]) F₁ N₁ ?c1 ?c2 (F₁.keep _ _ hbo) lsum ?c3 ?c4 ?_)
      case c1 => intro p hp; rw [List.mem_singleton.mp hp]; exact Ne.symm (hI (Tk, lobj us e) (.head _))
      case c2 =>
        intro p hp
        rcases List.mem_cons.mp hp with rfl | hp
        · exact Nat.ne_of_lt hT2
        · rw [List.mem_singleton.mp hp]; exact Nat.ne_of_lt hT1
      case c3 => intro Q' hq; exact cname (c := L + 1) ⟨_, (N₁ (L + 1, oT') (by simp)).1, dT'⟩ rfl rfl rfl (by decide) (hq _)
      case c4 =>
        intro tk Q' hq
        have hlp' := isList_ext F₁.keep hlp
        refine Subscript_Name (lname F₁.ns hx3 rfl rfl (by decide) (lname F₁.ns hx1 rfl rfl (by decide) ⟨"list", _, slot_list_getitem.lookup, hlp'.typeIs, ?_⟩))
        exact wpAny_getItem_list hlp' (by omega) (by omega) (by rw [Int.toNat_natCast, List.getElem?_toArray]; exact hv) (hq _)
      intro e' h5 tk5 F5 N5
      refine wpAny_execs_nil (wpAny_execs_nil ?_)
      refine turnEnd (.inl rfl) F5 (news' := [(Tk, lobj (us ++ bs) e'), (L + 1 + 1, oO), (L + 1, oT')]) N5 ?_ ?_ ⟨oT', us ++ bs, e', rfl, dT', ?_, hx2, hx3, hx4⟩
      · intro p hp
        rcases List.mem_cons.mp hp with rfl | hp
        · exact hI (Tk, lobj us e) (.head _)
        · exact hI p (.tail _ hp)
      · intro c hc o q
        rw [List.mem_singleton] at hc
        subst hc
        rw [(N₁ _ (.head _)).1] at q
        cases q
        exact (N5 _ (.head _)).1
      · rw [htk]; exact hus.append hbl
    · rw [if_neg (hbit ▸ hb)]
      refine wpAny_execs_nil (wpAny_execs_nil ?_)
      refine turnEnd (.inl rfl) F₁ N₁ hI hfp ⟨oT', us, e, rfl, dT', ?_, hx2, hx3, hx4⟩
      rw [htk, if_neg hb, List.append_nil]; exact hus
  case done =>
    intro m₁ news₁ h tk hJ F₁ N₁
    obtain ⟨oT', us, e, rfl, dT', hus, hmn, hmp, hmg⟩ := hJ
    rw [List.take_of_length_le (by omega)] at hus
    have lT : (takenL (bitOf n) 0 parts).length < 64 := by have h1 := takenL_len (bitOf n) 0 parts; omega
    have hTl : h.IsList Tk us.toArray := ⟨_, (N₁ (Tk, lobj us e) (.head _)).1, rfl, _, rfl⟩
    have hcT : h.IsCell (L + 1) (some (.ref Tk)) := ⟨_, (N₁ (L + 1, oT') (by simp)).1, dT'⟩
    dsimp only
    refine wpAny_execs_cons (wpAny_If (wpAny_isTrue_Compare1 (wpAny_BinOp (lname F₁.ns hmn rfl rfl (by decide) (wpAny_Constant_int (mod_int (by decide) (wpAny_Constant_int (ne_int (wpAny_truthy_bool ?_)))))))))
    by_cases h3 : n.fmod 3 = 0
    · rw [if_neg (by simp [h3])]
      refine wpAny_execs_nil ?_
      have hlg' := isList_ext F₁.keep hlg
      have ei : vg.toArray.size = page.length := by rw [List.size_toArray, hig.length]
      have hj0 := Int.fmod_nonneg_of_pos (n.fdiv 3) (b := (page.length : Int)) (by omega)
      have hjl := Int.fmod_lt_of_pos (n.fdiv 3) (b := (page.length : Int)) (by omega)
      obtain ⟨tc, hcode⟩ := ints_get ((n.fdiv 3).fmod (page.length : Int)).toNat hig (by omega)
      refine wpAny_execs_cons (wpAny_Assign_Name (Subscript_BinOp (lname F₁.ns hmg rfl rfl (by decide) (wpAny_BinOp (wpAny_BinOp (lname F₁.ns hmn rfl rfl (by decide) (wpAny_Constant_int (floordiv_int (by decide) ?_ (.inl (PyProof.noPylong_small (by decide)))))))))))
      refine Call_ ?_
      refine' bname (X.keeps F₁.keep) (T.keeps F₁.keep) ?e1 (v := .builtin "len") (by decide +kernel) (by decide) rfl rfl rfl rfl (by decide) ?_
      case e1 => k_is
      refine callWith_builtin1 (args_cons (lname F₁.ns hmg rfl rfl (by decide) (args_nil ?_)))
      refine len_list hlg' (by omega) ?_
      rw [ei]
      refine mod_int (by omega) ?_
      refine ⟨"list", _, slot_list_getitem.lookup, hlg'.typeIs, wpAny_getItem_list hlg' hj0 (by omega) (by rw [List.getElem?_toArray]; exact hcode) ?_⟩
      generalize hoth : page.getD ((n.fdiv 3).fmod (page.length : Int)).toNat 0 = other
      refine stCell (pre := [(Tk, lobj us e)]) (post := [(L + 1, oT')]) F₁ N₁ dO' ?_ ?_ rfl rfl rfl fun h5 oO5 dO5 F5 N5 => ?_
      · intro p hp; rw [List.mem_singleton.mp hp]; exact Nat.ne_of_gt hT2
      · intro p hp; rw [List.mem_singleton.mp hp]; exact Nat.ne_of_lt (Nat.lt_succ_self _)
      dsimp only
      have hTl5 : h5.IsList Tk us.toArray := ⟨_, (N5 (Tk, lobj us e) (.head _)).1, rfl, _, rfl⟩
      have hcT5 : h5.IsCell (L + 1) (some (.ref Tk)) := ⟨_, (N5 (L + 1, oT') (by simp)).1, dT'⟩
      have hcO5 : h5.IsCell (L + 1 + 1) (some (.int other tc)) := ⟨_, (N5 (L + 1 + 1, oO5) (by simp)).1, dO5⟩
      refine wpAny_execs_cons (wpAny_Return_some ?_)
      refine' LC_inv ?hclos ?hcell rfl ?hnames rfl ?_ ?hs
      case hclos => with_unfolding_all rfl
      case hcell => decide
      case hnames => decide
      case hs => intro _; rfl
      refine lname F5.ns hmg rfl rfl (by decide) ?_
      refine srcFilter (fun c => decide (c ∈ takenL (bitOf n) 0 parts) != decide (c = other)) hh (isList_ext F5.keep hlg) hig (by omega) rfl rfl (by decide) ?g1 ?g2
      case g1 =>
        intro C z t s₃ m₃ E' _ _ hns hm g
        refine wpAny_isTrue_Compare1 (wpAny_Compare1 (lname hns hm rfl (by with_unfolding_all rfl) (by decide) (cname (hcT5.keeps g) (by with_unfolding_all rfl) rfl (by with_unfolding_all rfl) (by decide) ?_)))
        refine in_list_ints (isList_ext g hTl5) hus ?_
        refine wpAny_Compare1 (lname hns hm rfl (by with_unfolding_all rfl) (by decide) (cname (hcO5.keeps g) (by with_unfolding_all rfl) rfl (by with_unfolding_all rfl) (by decide) ?_))
        refine eq_int (ne_bool (wpAny_truthy_bool ⟨⟨_, _, rfl, fun _ _ q => q⟩, ?_⟩))
        rw [any_mem]
        rfl
      case g2 =>
        intro D ys h' tk' g' fD hp' hI'
        obtain ⟨eD, hp'⟩ := hp'
        have hs5 : s.heap.objs.size ≤ h5.objs.size := by obtain ⟨oL, hoL⟩ := ns_some F5.ns; have := Heap.lt_size hoL; have : L < h5.objs.size := this; omega
        refine hQ _ _ D ys eD (Ext.trans F5.keep g') (Nat.le_trans hs5 fD) hp' ?_
        unfold wishL
        rw [if_neg (by simp [h3]), hoth]
        exact hI'
    · rw [if_pos (by simpa using h3)]
      refine wpAny_execs_cons (wpAny_Return_some (Call_ ?_))
      refine' bname (X.keeps F₁.keep) (T.keeps F₁.keep) ?e1 (v := .builtin "sorted") (by decide +kernel) (by decide) rfl rfl rfl rfl (by decide) ?_
      case e1 => k_is
      refine callWith_builtin1 (args_cons (cname hcT rfl rfl rfl (by decide) (args_nil ?_)))
      refine sorted_c hTl hus lT fun h8 b ws g8 fb hp8 hI8 => ?_
      obtain ⟨e8, hp8⟩ := hp8
      have hs5 : s.heap.objs.size ≤ h.objs.size := by obtain ⟨oL, hoL⟩ := ns_some F₁.ns; have := Heap.lt_size hoL; have : L < h.objs.size := this; omega
      refine hQ _ _ b ws e8 (Ext.trans F₁.keep g8) (Nat.le_trans hs5 fb) hp8 ?_
      unfold wishL
      rw [if_pos h3]
      exact hI8
end Mine

open PySem PySem.W PyProof.Rows
set_option Elab.async false
set_option linter.unusedSimpArgs false
namespace Mine
local macro_rules | `(tactic| walk_at "m rm") => `(tactic| first | exact Rm.le (by assumption) (by decide) | exact Rm.le (Rm.deeper (by assumption)) (by decide))
local macro_rules | `(tactic| walk_at "m back") => `(tactic| (intro h' tk' g'; have F' := frExt g' (by assumption); have N' := newsExt g' (by assumption); clear g'; (try k_sweep); (try dsimp only)))
section
variable {prog : Program} {w : World} {A : Around} {E : Value → Shared → Prop} {env : Env} {s : Shared}
theorem filt_comp {x : Str} {px' : Pos} {test : Expr} {scope : Scope} {cl : List (Str × Addr)} {l : Addr} {vs : List Value} (pv : Value → Bool)
    (hk : scope.kind = .function) (hx : scope.names.lookup x = some .local) (hd : (x == ("__debug__" : Str)) = false)
    (g1 : ∀ C v s₃ m₃ E', s.heap.objs.size ≤ C → v ∈ vs → s₃.heap.Ns C m₃ → m₃ x = some v → Ext s.heap s₃.heap →
      wpAny (model prog w) A (isTrue test (compEnvC scope cl C env) (eval test (compEnvC scope cl C env))) (fun ok s₄ => Keeps s₃ s₄ ∧ ok = pv v) E' s₃) {St : Nat → Heap → Prop} :
    CompBy prog w A env scope cl x [test] (.Name x px') [s.heap.objs.size] vs.toArray.size (fun i v => vs.toArray[i]? = some v) St
      (fun _ _ ws ys _ => ys = ws.filter pv) { s with heap := s.heap.push { cls := .type "list_iterator", data := .fields #[.ref l, .int 0 0] } } := by
  have up : ∀ (h' : Heap), (∀ b o', b ∉ [s.heap.objs.size] → (s.heap.push { cls := .type "list_iterator", data := .fields #[.ref l, .int 0 0] }).get? b = some o' → h'.get? b = some o') → Ext s.heap h' :=
    fun h' hk b o' e => hk b o' (not_iter_of_old e) (Heap.get?_push_of_some _ e)
  have dn : ∀ b, (s.heap.push { cls := .type "list_iterator", data := .fields #[.ref l, .int 0 0] }).objs.size ≤ b → s.heap.objs.size ≤ b := fun b hb => by rw [Heap.size_push] at hb; exact Nat.le_of_succ_le hb
  refine ⟨fun _ _ _ _ _ _ h _ => h, fun _ _ _ _ _ _ => rfl, ?_⟩
  intro D C ws ys v s₃ m₃ E' hD hC hDC hP hlt' hI hS hpl hns hm hkp
  have hv : vs[ws.length]? = some v := by simpa using hP
  have hmem : v ∈ vs := List.mem_of_getElem? hv
  show wpAny _ _ ((isTrue test (compEnvC scope cl C env) (eval test (compEnvC scope cl C env)) >>= fun ok => pure (ForInStep.yield ok)) >>= _) _ _ _
  refine wpAny_bind (wpAny_bind (wpAny_mono (g1 C v s₃ m₃ E' (dn C hC) hmem hns hm (up _ hkp)) (fun ok s₄ h₄ => wpAny_pure (wpAny_pure ?_)) fun _ _ e => e))
  obtain ⟨⟨h₄, tk₄, rfl, hk₄⟩, rfl⟩ := h₄
  refine ⟨⟨h₄, tk₄, rfl, hk₄⟩, fun hp => ?_, fun hp => ?_⟩
  · refine wpAny_Name (wpAny_loadName_local (by simp [compEnvC, relabel, hk]) (lookup_relabel_local hx) (hns.keeps hk₄) hm ?_) hd
    exact ⟨⟨h₄, tk₄, rfl, fun _ _ e => e⟩, by rw [hI, List.filter_append]; simp [hp]⟩
  · rw [hI, List.filter_append]; simp [hp]
/-- a filter over a list of values -/
theorem srcFiltV {x : Str} {px' : Pos} {test : Expr} {scope : Scope} {cl : List (Str × Addr)} {Q : Value → Shared → Prop} {l : Addr} {vs : List Value} (pv : Value → Bool)
    (hh : A.handled = none) (hl : s.heap.IsList l vs.toArray) (hn : vs.length ≤ 1000)
    (hk : scope.kind = .function) (hx : scope.names.lookup x = some .local) (hd : (x == ("__debug__" : Str)) = false)
    (g1 : ∀ C v s₃ m₃ E', s.heap.objs.size ≤ C → v ∈ vs → s₃.heap.Ns C m₃ → m₃ x = some v → Ext s.heap s₃.heap →
      wpAny (model prog w) A (isTrue test (compEnvC scope cl C env) (eval test (compEnvC scope cl C env))) (fun ok s₄ => Keeps s₃ s₄ ∧ ok = pv v) E' s₃)
    (g2 : ∀ D h' tk, Ext s.heap h' → s.heap.objs.size ≤ D → h'.PlainList D (vs.filter pv).toArray → Q (.ref D) { s with heap := h', toks := tk }) :
    wpAny (model prog w) A (pyIter (.ref l)) (SrcBy prog w A env scope cl x [test] (.Name x px') Q) E s := by
  have hlt : l < s.heap.objs.size := by obtain ⟨_, e, _⟩ := hl; exact Heap.lt_size e
  refine iterList hl ?_
  refine ⟨s.heap.objs.size, [s.heap.objs.size, l], [s.heap.objs.size], vs.toArray.size, _, _, _, rfl, Walks.list hh _ l (Nat.ne_of_lt hlt) vs.toArray, (by rw [List.size_toArray, sizeLine_eq]; omega),
    ⟨⟨_, Heap.get?_push_size _ rfl, rfl, rfl⟩, hl.at fun o e => Heap.get?_push_of_some _ e⟩, ?_, filt_comp pv hk hx hd g1, ?_⟩
  · intro b hb
    show b < (s.heap.push _).objs.size
    rw [Heap.size_push]
    rcases List.mem_cons.mp hb with rfl | hb
    · exact Nat.lt_succ_self _
    · rw [List.mem_singleton.mp hb]; exact Nat.lt_succ_of_lt hlt
  · intro D C h' tk ys ws hD hC hDC hpl hlen hP hI hkp
    obtain ⟨h'', rfl, _⟩ := hI
    have e' : ws = vs := by simpa using walked_is hlen hP
    subst e'
    rw [Heap.size_push] at hD
    exact g2 D h' tk (fun b o' e => hkp b o' (not_iter_of_old e) (Heap.get?_push_of_some _ e)) (Nat.le_of_succ_le hD) hpl
/-- the same, stored under a name at once -/
theorem srcFiltVA {x y : Str} {px' : Pos} {test : Expr} {scope : Scope} {cl : List (Str × Addr)} {Q : Flow → Shared → Prop} {l : Addr} {vs : List Value} {h₀ : Heap} {m : Str → Option Value} {news : List (Addr × Obj)} (pv : Value → Bool)
    (hh : A.handled = none) (hl : s.heap.IsList l vs.toArray) (hn : vs.length ≤ 1000) (F : Fr h₀ env.locals s.heap m) (N : News h₀ env.locals s.heap news)
    (hk : scope.kind = .function) (hx : scope.names.lookup x = some .local) (hd : (x == ("__debug__" : Str)) = false)
    (g1 : ∀ C v s₃ m₃ E', s.heap.objs.size ≤ C → v ∈ vs → s₃.heap.Ns C m₃ → m₃ x = some v → Ext s.heap s₃.heap →
      wpAny (model prog w) A (isTrue test (compEnvC scope cl C env) (eval test (compEnvC scope cl C env))) (fun ok s₄ => Keeps s₃ s₄ ∧ ok = pv v) E' s₃)
    (g2 : ∀ D e h' tk, Fr h₀ env.locals h' (fun z => if z = y then some (.ref D) else m z) → News h₀ env.locals h' ((D, lobj (vs.filter pv) e) :: news) → (∀ p ∈ news, p.1 < D) → Q .next { s with heap := h', toks := tk }) :
    wpAny (model prog w) A (pyIter (.ref l)) (SrcByA prog w A env scope cl x y [test] (.Name x px') Q) E s := by
  have hlt : l < s.heap.objs.size := by obtain ⟨_, e, _⟩ := hl; exact Heap.lt_size e
  obtain ⟨oL, hoL⟩ := ns_some F.ns
  have hL := Heap.lt_size hoL
  refine iterList hl ?_
  refine ⟨s.heap.objs.size, [s.heap.objs.size, l], [s.heap.objs.size], vs.toArray.size, _, _, _, m, rfl, Walks.list hh _ l (Nat.ne_of_lt hlt) vs.toArray, (by rw [List.size_toArray, sizeLine_eq]; omega),
    ⟨⟨_, Heap.get?_push_size _ rfl, rfl, rfl⟩, hl.at fun o e => Heap.get?_push_of_some _ e⟩, ?_, ?_, F.ns.keeps (fun _ _ e => Heap.get?_push_of_some _ e), filt_comp pv hk hx hd g1, ?_⟩
  · intro b hb
    show b < (s.heap.push _).objs.size
    rw [Heap.size_push]
    rcases List.mem_cons.mp hb with rfl | hb
    · exact Nat.lt_succ_self _
    · rw [List.mem_singleton.mp hb]; exact Nat.lt_succ_of_lt hlt
  · intro hm; exact Nat.ne_of_lt hL (List.mem_singleton.mp hm)
  · intro D C h' tk ys ws hD hC hDC hpl hlen hP hI hns hkp
    obtain ⟨h1, h2, rfl, _⟩ := hI
    have e' : ws = vs := by simpa using walked_is hlen hP
    subst e'
    obtain ⟨e, he⟩ := hpl
    rw [Heap.size_push] at hD
    have hD' : s.heap.objs.size ≤ D := Nat.le_of_succ_le hD
    have keepO : ∀ b o, b ≠ env.locals → s.heap.get? b = some o → h'.get? b = some o := fun b o hb q => hkp b o hb (not_iter_of_old q) (Heap.get?_push_of_some _ q)
    refine g2 D e h' tk ⟨hns, fun b o q => keepO b o (Nat.ne_of_lt (Nat.lt_of_lt_of_le (Heap.lt_size q) F.above)) (F.keep b o q), F.above⟩ ?_ (newsLt N hD')
    intro p hp
    rcases List.mem_cons.mp hp with rfl | hp
    · exact ⟨by simpa using he, Nat.ne_of_gt (Nat.lt_of_lt_of_le hL hD'), fresh_of_ext F.keep (fresh_le hD')⟩
    · exact ⟨keepO _ _ (N p hp).2.1 (N p hp).1, (N p hp).2⟩
end
theorem reads_all {h : Heap} {vs : List Value} {xss : List (List Int)} (a : AllInts h vs xss) : ∃ as, ReadsAll h vs (xss.map fun xs => PyData.list (xs.map PyData.int)) as := by
  induction a with
  | nil => exact ⟨[], .nil⟩
  | cons a _ ih =>
    obtain ⟨b, us, rfl, hl, hi⟩ := a
    obtain ⟨as, r'⟩ := ih
    exact ⟨[b] ++ as, .cons (reads_of_ints hl hi) r'⟩
theorem canLayAll0_lists : ∀ xss : List (List Int), PyData.canLayAll0 (xss.map fun xs => PyData.list (xs.map PyData.int)) = true
  | [] => by simp [PyData.canLayAll0]
  | xs :: r => by simp only [List.map_cons, PyData.canLayAll0, PyData.canLay0, canLayAll0_ints, canLayAll0_lists r, Bool.and_self]
/-- is the empty list among these? -/
theorem nil_in {prog : Program} {w : World} {A : Around} {E : Value → Shared → Prop} {s : Shared} {l b : Addr} {vs : List Value} {xss : List (List Int)} {Q : Value → Shared → Prop} (hl : s.heap.IsList l vs.toArray) (ha : AllInts s.heap vs xss) (hb : s.heap.IsList b ([] : List Value).toArray) (hu : A.units + 64 < cLine)
    (h : Q (.bool (decide ([] ∈ xss))) s) : wpAny (model prog w) A (compareOp .In (.ref b) (.ref l)) Q E s := by
  obtain ⟨as, ra⟩ := reads_all ha
  obtain ⟨o, ho, hc, n, hd⟩ := hl
  refine PySem.SeqAt.in_list_reads (d := .list []) (bs := [b]) (Reads.list ho hc hd (by simpa using ra)) (reads_of_ints (ns := []) hb .nil) (canLayAll0_lists _) (by simp [PyData.canLay0, PyData.canLayAll0]) ?_ ?_
  · have h2 := Nat.min_le_right (PyData.depthAll (xss.map fun xs => PyData.list (xs.map PyData.int))) (PyData.depth (.list []))
    have : PyData.depth (.list []) ≤ 2 := by decide
    omega
  · have e : (xss.map fun xs => PyData.list (xs.map PyData.int)).any (fun y => PyData.eqv y (.list [])) = decide ([] ∈ xss) := by
      clear h ra ha
      induction xss with
      | nil => simp
      | cons x r ih =>
        rw [List.map_cons, List.any_cons, ih]
        cases x with
        | nil => simp [PyData.eqv, PyData.eqvAll]
        | cons y ys => simp [PyData.eqv, PyData.eqvAll]
    rw [e]
    exact h
def takenOf (wish : List Int) (parts : List (List Int)) : List (List Int) := parts.map fun p => p.filter fun c => decide (c ∈ wish)
abbrev badAt (wish : List Int) (parts : List (List Int)) (k : Nat) : Prop := (takenOf wish parts).getD k [] ≠ [] ∧ (k = 12 ∨ (takenOf wish parts).getD k [] ≠ parts.getD k [])
def reachL (wish : List Int) (parts : List (List Int)) : Bool :=
  if (List.range 13).any (fun k => decide (badAt wish parts k)) then false
  else decide ([] ∈ (parts.drop 6).take 4) || (((((takenOf wish parts).drop 6).take 4).filter fun p => decide (p ≠ [])).length % 2 == 0)
/-- where the looking loop stands -/
def IJ (cW ap D : Addr) (oW oD : Obj) (ps : List (Addr × Obj)) (wish : List Int) (parts : List (List Int)) (k : Nat) (m : Str → Option Value) (news : List (Addr × Obj)) : Prop :=
  news = (D, oD) :: (ps ++ [(cW, oW)]) ∧ m (Str.ofString "taken") = some (.ref D) ∧ m (Str.ofString "parts") = some (.ref ap) ∧ ∀ j, j < k → ¬ badAt wish parts j
theorem not_any_bad {wish : List Int} {parts : List (List Int)} (h : ∀ j, j < 13 → ¬ badAt wish parts j) : (List.range 13).any (fun k => decide (badAt wish parts k)) = false := by
  rw [List.any_eq_false]
  intro k hk
  simpa using h k (List.mem_range.mp hk)
theorem any_bad {wish : List Int} {parts : List (List Int)} {k : Nat} (hk : k < 13) (h : badAt wish parts k) : (List.range 13).any (fun k => decide (badAt wish parts k)) = true :=
  List.any_eq_true.mpr ⟨k, List.mem_range.mpr hk, decide_eq_true h⟩
/-- the lists of a list that are not empty -/
theorem filt_ne {h : Heap} (pv : Value → Bool) {vs : List Value} {xss : List (List Int)} (a : AllInts h vs xss) (hp : ∀ v zs, v ∈ vs → IsInts h v zs → pv v = decide (zs ≠ [])) : (vs.filter pv).length = (xss.filter fun p => decide (p ≠ [])).length := by
  induction a with
  | nil => rfl
  | @cons v _ x _ a _ ih =>
    have ih := ih fun v zs hv => hp v zs (.tail _ hv)
    have e := hp v x (.head _) a
    rw [List.filter_cons, List.filter_cons, e]
    split
    · rw [List.length_cons, List.length_cons, ih]
    · exact ih
open Classical in
noncomputable def neIn (h : Heap) (v : Value) : Bool := decide (∃ zs, IsInts h v zs ∧ zs ≠ [])
theorem neIn_eq {h : Heap} {v : Value} {zs : List Int} (x : IsInts h v zs) : neIn h v = decide (zs ≠ []) := by
  unfold neIn
  refine decide_eq_decide.mpr ⟨fun ⟨ys, h1, h2⟩ => (h1.inj x) ▸ h2, fun h => ⟨zs, x, h⟩⟩
/-- a list against the empty list -/
theorem ne_nil_test {prog : Program} {w : World} {A : Around} {E : Value → Shared → Prop} {env : Env} {s : Shared} {x : Str} {p1 p2 p3 : Pos} {m : Str → Option Value} {v : Value} {zs : List Int} {whole : Sem Value}
    (hn : s.heap.Ns env.locals m) (hm : m x = some v) (hv : IsInts s.heap v zs) (hu : A.units + 64 < cLine) (hk : env.scope.kind = .function) (hx : env.kindOf x = some .local) (hd : (x == ("__debug__" : Str)) = false) :
    wpAny (model prog w) A (isTrue (.Compare (.Name x p1) [.NotEq] [.List [] p2] p3) env whole) (fun ok s₄ => Keeps s s₄ ∧ ok = decide (zs ≠ [])) E s := by
  obtain ⟨a, us, rfl, hl, hi⟩ := hv
  refine wpAny_isTrue_Compare1 (lname hn hm hk hx hd (List_ (spliced_none (wpAny_newObj_type ?_ (Nat.zero_le _)))))
  have g : ∀ o, Ext s.heap (s.heap.push o) := fun o b o' q => Heap.get?_push_of_some _ q
  refine ne_intsK (us := []) (isList_ext (g _) hl) hi ⟨_, Heap.get?_push_size _ rfl, rfl, _, rfl⟩ .nil hu (wpAny_truthy_bool ⟨⟨_, _, rfl, g _⟩, ?_⟩)
  by_cases h : zs = [] <;> simp [h]
set_option maxRecDepth 100000 in
set_option maxHeartbeats 4000000 in
theorem reach_c {w : World} {mean : ExcName → Option Value} {mg mb : Str → Option Value} {A : Around} {s : Shared} {Q E : Value → Shared → Prop} {aw ap : Addr} {vw vp : List Value} {wish : List Int} {parts : List (List Int)}
    (X : (hd.heap_39 w.params).In s.heap) (T : Top hd.view_39 (looseW hd.view_39 []) mean mg mb s.heap) (hA : Rm A 2)
    (hlw : s.heap.IsList aw vw.toArray) (hiw : IntsAre vw wish)
    (hlp : s.heap.IsList ap vp.toArray) (hip : AllInts s.heap vp parts) (h13 : parts.length = 13) (hsm : ∀ p ∈ parts, p.length ≤ 100)
    (hQ : ∀ h' tk', Ext s.heap h' → Q (.bool (reachL wish parts)) { s with heap := h', toks := tk' }) : wpAny (model Challenge.rw_mj0077_01.row.prog w) A (call (.ref 174) [.ref aw, .ref ap]) Q E s := by
  revert X
  w_top off
  k_fill
  intro X
  refine' enterC (binds := [(Str.ofString "wish", .ref aw), (Str.ofString "parts", .ref ap)]) X T ?k6 ?k7 ?k8 ?k9 ?kB ?kD ?_ ?c2 ?c3 ?c4
  case k6 => k_is
  case k7 => k_is
  case k8 => have := hA.dep; omega
  case k9 => exact BindsTo.of_eq rfl
  case kB => exact rfl
  case kD => decide +kernel
  case c2 => rfl
  case c3 => rfl
  case c4 => rfl
  intro L h₁ tk cells hL F N Y
  obtain ⟨oW, rfl, dW⟩ := CellsAre.one Y
  have dW' : oW.data = .cell (some (.ref aw)) := dW
  clear dW Y
  have hh : A.handled = none := hA.han
  have hh2 : ∀ env, (A.deeper env).handled = none := fun _ => hh
  have hu : ∀ env, (A.deeper env).units + 64 < cLine := fun env => by have := hA.uni; dsimp only [Around.deeper]; omega
  obtain ⟨m0, F0, hm1⟩ : ∃ m0, Fr s.heap L h₁ m0 ∧ m0 (Str.ofString "parts") = some (.ref ap) := ⟨_, F, rfl⟩
  clear F
  have hvl : vp.length = 13 := by rw [hip.length, h13]
  refine' wpAny_execs_cons (ALC_inv (cl := [(Str.ofString "wish", L + 1)]) (by with_unfolding_all rfl) ?hclos ?hcell rfl ?hnames rfl rfl rfl ?_ ?hs)
  case hclos => with_unfolding_all rfl
  case hcell => decide
  case hnames => decide
  case hs => intro _; rfl
  refine lname F0.ns hm1 rfl rfl (by decide) ?_
  have hlp0 := isList_ext F0.keep hlp
  refine iterList hlp0 ?_
  obtain ⟨oL, hoL⟩ := ns_some F0.ns
  have hLlt := Heap.lt_size hoL
  have hplt : ap < h₁.objs.size := by obtain ⟨o, ho, _⟩ := hlp0; exact Heap.lt_size ho
  have hk0 : ∀ o, Ext h₁ (h₁.push o) := fun o b o' q => Heap.get?_push_of_some _ q
  refine srcListsA (h₀ := s.heap) (news := [(L + 1, oW)]) (Walks.list (hh2 _) h₁.objs.size ap (Nat.ne_of_lt hplt) vp.toArray) (fun v o => ∃ zs, IsInts s.heap v zs ∧ PartIs (0, o) (zs.filter fun c => decide (c ∈ wish))) ?an ?a0 ?a1 ?a2 ?a3 (F0.push _) (fun p hp => ⟨Heap.get?_push_of_some _ (N p hp).1, (N p hp).2⟩) ?a4 ?a5 ?a6 ?a7 ?_
  case an => rw [List.size_toArray]; omega
  case a0 => exact ⟨⟨_, Heap.get?_push_size _ rfl, rfl, rfl⟩, hlp0.at fun o e => Heap.get?_push_of_some _ e⟩
  case a1 =>
    intro b hb
    show b < (h₁.push _).objs.size
    rw [Heap.size_push]
    rcases List.mem_cons.mp hb with rfl | hb
    · exact Nat.lt_succ_self _
    · rw [List.mem_singleton.mp hb]; exact Nat.lt_succ_of_lt hplt
  case a2 => intro i h st; obtain ⟨⟨o, ho, _⟩, _⟩ := st; exact ⟨o, ho⟩
  case a3 => intro i h st; obtain ⟨⟨o, ho, _⟩, _⟩ := st; dsimp only; rw [Heap.size_push]; exact Heap.lt_size ho
  case a4 => exact fresh_of_ext F0.keep (fresh_le (Nat.le_refl _))
  case a5 => exact Nat.ne_of_lt hLlt
  case a6 => intro p hp; exact Nat.ne_of_lt (Heap.lt_size (N p hp).1)
  case a7 =>
    intro C i v s₃ m₃ E' hC hv _ hns hm hkp
    have hv' : v ∈ vp := List.mem_of_getElem? (by simpa using hv)
    obtain ⟨zs, hz, hzm⟩ := hip.of_mem hv'
    obtain ⟨av, vv, rfl, hlv, hiv⟩ := id hz
    have hE : Ext s.heap s₃.heap := fun b o q => hkp b o (by rintro rfl; have := F0.keep _ _ q; rw [fresh_le (Nat.le_refl _)] at this; cases this) (Heap.get?_push_of_some _ (F0.keep b o q))
    have hcW : s₃.heap.IsCell (L + 1) (some (.ref aw)) := ⟨oW, hkp _ _ (Nat.ne_of_lt (Heap.lt_size (N (L + 1, oW) (.head _)).1)) (Heap.get?_push_of_some _ (N (L + 1, oW) (.head _)).1), dW'⟩
    refine' LC_inv (cl := [(Str.ofString "wish", L + 1)]) ?hclos ?hcell rfl ?hnames rfl ?_ ?hs
    case hclos => with_unfolding_all rfl
    case hcell => decide
    case hnames => decide
    case hs => intro _; rfl
    refine lname hns hm rfl (by with_unfolding_all rfl) (by decide) ?_
    refine srcFilter (fun c => decide (c ∈ wish)) hh (isList_ext hE hlv) hiv (by have := hsm zs hzm; omega) rfl rfl (by decide) ?g1 ?g2
    case g1 =>
      intro C2 z t s₄ m₄ E4 _ _ hns4 hm4 g4
      refine wpAny_isTrue_Compare1 (lname hns4 hm4 rfl (by with_unfolding_all rfl) (by decide) (cname (hcW.keeps g4) (by with_unfolding_all rfl) rfl (by with_unfolding_all rfl) (by decide) ?_))
      refine in_list_ints (isList_ext (Ext.trans hE g4) hlw) hiw (wpAny_truthy_bool ⟨⟨_, _, rfl, fun _ _ q => q⟩, ?_⟩)
      rw [any_mem]
    case g2 =>
      intro D ys h' tk' g' fD hp' hI'
      obtain ⟨e', he'⟩ := hp'
      exact ⟨⟨_, _, rfl, g'⟩, D, _, rfl, fD, he', zs, hz, ys, e', rfl, hI'⟩
  intro D eD ps h5 tk5 vs5 F5 N5 hzD hps hnd hlen hP5 hPair
  have e5 : vs5 = vp := by simpa using walked_is hlen hP5
  subst e5
  dsimp only
  obtain ⟨oD, hoD⟩ : ∃ oD, oD = lobj (ps.map fun p : Addr × Obj => Value.ref p.1) eD := ⟨_, rfl⟩
  rw [← hoD] at N5
  have hTk : ∀ h : Heap, (∀ p ∈ ps, h.get? p.1 = some p.2) → AllInts h (ps.map fun p : Addr × Obj => Value.ref p.1) (takenOf wish parts) := fun h hp => mapped_all (fun zs => zs.filter fun c => decide (c ∈ wish)) hip hPair hp
  have hDl : ∀ h : Heap, h.get? D = some oD → h.IsList D (ps.map fun p : Addr × Obj => Value.ref p.1).toArray := fun h q => ⟨oD, q, by rw [hoD], eD, by rw [hoD]⟩
  have hpsl : ps.length = 13 := by rw [← hPair.length, hvl]
  have htl : (takenOf wish parts).length = 13 := by unfold takenOf; rw [List.length_map, h13]
  refine wpAny_execs_cons (wpAny_For ?_)
  repeat' ((fail_if_success (with_reducible show wpAny _ _ (pyIter _) _ _ _)); walk1)
  rename_i h6 tk6 t6 u6 v6 hr6 F6 N6 g6
  dsimp only
  refine forRange 13 (IJ (L + 1) ap D oW oD ps wish parts) hh rfl rfl F6 N6 hr6 (by decide) (by decide) ⟨rfl, rfl, (upd_ne (by decide) hm1), fun j hj => absurd hj (Nat.not_lt_zero _)⟩ ?turn ?done
  case turn =>
    intro i t m₁ news₁ h tk I oI E' hi13 hJ F₁ N₁ hI hnI hsI
    obtain ⟨rfl, hmt, hmp, hnb⟩ := hJ
    rw [show (0 : Int) + (i : Int) = (i : Int) by omega] at F₁
    have hx1 : (fun y => if y = Str.ofString "k" then some (Value.int (i : Int) t) else m₁ y) (Str.ofString "k") = some (.int (i : Int) t) := upd_self
    have hx2 : (fun y => if y = Str.ofString "k" then some (Value.int (i : Int) t) else m₁ y) (Str.ofString "taken") = some (.ref D) := upd_ne (by decide) hmt
    have hx3 : (fun y => if y = Str.ofString "k" then some (Value.int (i : Int) t) else m₁ y) (Str.ofString "parts") = some (.ref ap) := upd_ne (by decide) hmp
    generalize (fun y => if y = Str.ofString "k" then some (Value.int (i : Int) t) else m₁ y) = m2 at F₁ hx1 hx2 hx3
    have hDl1 := hDl h (N₁ (D, oD) (.tail _ (.head _))).1
    have hTk1 := hTk h fun p hp => (N₁ p (.tail _ (.tail _ (List.mem_append_left _ hp)))).1
    obtain ⟨vt, hvt, hit⟩ := hTk1.get i (by omega)
    obtain ⟨vq, hvq, hiq⟩ := hip.get i (by omega)
    obtain ⟨aq, uq, rfl, hlq, hiq⟩ := hiq
    obtain ⟨at', ut, rfl, hlt, hit⟩ := hit
    have hlp1 := isList_ext F₁.keep hlp
    have hlq1 := isList_ext F₁.keep hlq
    have hfp : ∀ b ∈ [I], ∀ o, h.get? b = some o → h.get? b = some o := fun b _ o q => q
    generalize hA1 : (takenOf wish parts).getD i [] = ti at *
    generalize hA2 : parts.getD i [] = pi at *
    have hbad : badAt wish parts i ↔ (ti ≠ [] ∧ (i = 12 ∨ ti ≠ pi)) := by unfold badAt; rw [hA1, hA2]
    refine wpAny_execs_cons (wpAny_If (isTrue_and (wpAny_isTrue_Compare1 (Subscript_Name (lname F₁.ns hx2 rfl rfl (by decide) (lname F₁.ns hx1 rfl rfl (by decide) ⟨"list", _, slot_list_getitem.lookup, hDl1.typeIs, ?_⟩))))))
    refine wpAny_getItem_list hDl1 (by omega) (by omega) (x := .ref at') (by rw [Int.toNat_natCast, List.getElem?_toArray]; exact hvt) ?_
    refine nilList F₁ N₁ fun h2 b2 F2 N2 l2 _ x2 => ?_
    have hlt2 := isList_ext x2 hlt
    refine ne_intsK hlt2 hit ⟨_, (N2 _ (.head _)).1, rfl, _, rfl⟩ .nil (hu _) (wpAny_truthy_bool ?_)
    have hIn : ∀ p ∈ (D, oD) :: (ps ++ [(L + 1, oW)]), p.1 ≠ I := hI
    have hext : ∀ h' : Heap, Ext h h' → ∀ b ∈ [I], ∀ o, h.get? b = some o → h'.get? b = some o := fun h' g b _ o q => g b o q
    have hnb' : ¬ badAt wish parts i → ∀ j, j < i + 1 → ¬ badAt wish parts j := fun hb j hj => by
      rcases Nat.lt_succ_iff_lt_or_eq.mp hj with h | rfl
      · exact hnb j h
      · exact hb
    by_cases h1 : ti = []
    · rw [if_neg (by simp [h1])]
      refine wpAny_execs_nil (wpAny_execs_nil ?_)
      exact turnEnd (.inl rfl) F2 (news' := (D, oD) :: (ps ++ [(L + 1, oW)])) (fun p hp => N2 p (.tail _ hp)) hIn (hext h2 x2) ⟨rfl, hx2, hx3, hnb' fun hb => (hbad.mp hb).1 h1⟩
    · rw [if_pos (by simpa using h1)]
      refine isTrue_and (isTrue_or (wpAny_isTrue_Compare1 (lname F2.ns hx1 rfl rfl (by decide) (wpAny_Constant_int (eq_int (wpAny_truthy_bool ?_))))))
      have ret : ∀ h' tk', Ext s.heap h' → badAt wish parts i → Q (.bool false) { s with heap := h', toks := tk' } := fun h' tk' g hb => by
        have := hQ h' tk' g
        unfold reachL at this
        rw [any_bad hi13 hb, if_pos rfl] at this
        exact this
      by_cases h12 : i = 12
      · rw [if_pos (by simp [h12])]
        rw [if_pos rfl]
        refine isTrue_and_nil ?_
        rw [if_pos rfl]
        refine wpAny_execs_cons (wpAny_Return_some (Constant_bool ?_))
        exact ret _ _ F2.keep (hbad.mpr ⟨h1, .inl h12⟩)
      · rw [if_neg (by simp; omega)]
        have hDl2 := hDl h2 (N2 (D, oD) (.tail _ (.tail _ (.head _)))).1
        have hlp2 := isList_ext F2.keep hlp
        refine isTrue_or (wpAny_isTrue_Compare1 (Subscript_Name (lname F2.ns hx2 rfl rfl (by decide) (lname F2.ns hx1 rfl rfl (by decide) ⟨"list", _, slot_list_getitem.lookup, hDl2.typeIs, ?_⟩))))
        refine wpAny_getItem_list hDl2 (by omega) (by omega) (x := .ref at') (by rw [Int.toNat_natCast, List.getElem?_toArray]; exact hvt) ?_
        refine Subscript_Name (lname F2.ns hx3 rfl rfl (by decide) (lname F2.ns hx1 rfl rfl (by decide) ⟨"list", _, slot_list_getitem.lookup, hlp2.typeIs, ?_⟩))
        refine wpAny_getItem_list hlp2 (by omega) (by omega) (x := .ref aq) (by rw [Int.toNat_natCast, List.getElem?_toArray]; exact hvq) ?_
        refine ne_intsK hlt2 hit (isList_ext F2.keep hlq) hiq (hu _) (wpAny_truthy_bool ?_)
        by_cases h3 : ti = pi
        · rw [if_neg (by simp [h3])]
          refine isTrue_or_nil ?_
          rw [if_neg (by decide), if_neg (by decide)]
          refine wpAny_execs_nil (wpAny_execs_nil ?_)
          exact turnEnd (.inl rfl) F2 (news' := (D, oD) :: (ps ++ [(L + 1, oW)])) (fun p hp => N2 p (.tail _ hp)) hIn (hext h2 x2) ⟨rfl, hx2, hx3, hnb' fun hb => (hbad.mp hb).2.elim h12 fun q => q h3⟩
        · rw [if_pos (by simpa using h3)]
          rw [if_pos rfl]
          refine isTrue_and_nil ?_
          rw [if_pos rfl]
          refine wpAny_execs_cons (wpAny_Return_some (Constant_bool ?_))
          exact ret _ _ F2.keep (hbad.mpr ⟨h1, .inr h3⟩)
  case done =>
    intro m₁ news₁ h tk hJ F₁ N₁
    obtain ⟨rfl, hmt, hmp, hnb⟩ := hJ
    have hret : ∀ h' tk' b, Ext s.heap h' → b = (decide ([] ∈ (parts.drop 6).take 4) || (((((takenOf wish parts).drop 6).take 4).filter fun p => decide (p ≠ [])).length % 2 == 0)) → Q (.bool b) { s with heap := h', toks := tk' } := fun h' tk' b g e => by
      have := hQ h' tk' g
      unfold reachL at this
      rw [not_any_bad hnb, if_neg (by decide)] at this
      rw [e]
      exact this
    have hDl1 := hDl h (N₁ (D, oD) (.head _)).1
    dsimp only
    refine' wpAny_execs_cons (ALC_inv (cl := []) (by with_unfolding_all rfl) ?hclos ?hcell rfl ?hnames rfl rfl rfl ?_ ?hs)
    case hclos => with_unfolding_all rfl
    case hcell => decide
    case hnames => decide
    case hs => intro _; rfl
    refine sliceMid_c (a := 6) (b := 10) F₁ N₁ (fun Q' hq => lname F₁.ns hmt rfl rfl (by decide) hq) hDl1 (by rw [List.length_map, hpsl]; decide) (by decide) (by rw [List.length_map, hpsl]; decide) fun h2 tk2 B2 F2 N2 l2 _ x2 => ?_
    have hTk2 : AllInts h2 (((ps.map fun p : Addr × Obj => Value.ref p.1).drop 6).take 4) (((takenOf wish parts).drop 6).take 4) := ((hTk h2 fun p hp => (N2 p (.tail _ (.tail _ (List.mem_append_left _ hp)))).1).drop 6).take 4
    generalize hvt : ((ps.map fun p : Addr × Obj => Value.ref p.1).drop 6).take (10 - 6) = vt at *
    dsimp only
    refine srcFiltVA (neIn h2) hh ⟨_, (N2 _ (.head _)).1, rfl, _, rfl⟩ (by rw [hTk2.length, List.length_take]; omega) F2 N2 rfl rfl (by decide) ?g1 ?g2
    case g1 =>
      intro C v s₃ m₃ E' _ hv hns hm g
      obtain ⟨zs, hz, _⟩ := hTk2.of_mem hv
      rw [neIn_eq hz]
      exact ne_nil_test hns hm (hz.ext g) (hu _) rfl (by with_unfolding_all rfl) (by decide)
    intro D3 e3 h3 tk3 F3 N3 l3
    have hlen3 := filt_ne (neIn h2) hTk2 fun v zs _ hz => neIn_eq hz
    dsimp only
    refine wpAny_execs_cons (wpAny_Return_some (BoolOp_or (wpAny_Compare1 (nilList F3 N3 fun h4 b4 F4 N4 l4 _ x4 => ?_))))
    refine sliceMid_c (a := 6) (b := 10) F4 N4 (fun Q' hq => lname F4.ns (v := .ref ap) (upd_ne (by decide) hmp) rfl rfl (by decide) hq) (isList_ext F4.keep hlp) (by omega) (by decide) (by omega) fun h5 tk5 B5 F5 N5 l5 _ x5 => ?_
    refine nil_in (xss := (parts.drop 6).take 4) ⟨_, (N5 _ (.head _)).1, rfl, _, rfl⟩ (((hip.ext F5.keep).drop 6).take 4) ⟨_, (N5 _ (.tail _ (.head _))).1, rfl, _, rfl⟩ (hu _) (wpAny_truthy_bool ?_)
    by_cases hin : [] ∈ (parts.drop 6).take 4
    · rw [if_pos (by simpa using hin)]
      exact hret _ _ _ F5.keep (by simp [hin])
    · rw [if_neg (by simpa using hin)]
      refine BoolOp_one (wpAny_Compare1 (wpAny_BinOp (Call_ ?_)))
      refine' bname (X.keeps F5.keep) (T.keeps F5.keep) ?e1 (v := .builtin "len") (by decide +kernel) (by decide) rfl rfl rfl rfl (by decide) ?_
      case e1 => k_is
      refine callWith_builtin1 (args_cons (lname F5.ns (v := .ref D3) rfl rfl rfl (by decide) (args_nil ?_)))
      have hl5 : h5.IsList D3 (vt.filter (neIn h2)).toArray := ⟨_, (N5 (D3, lobj (vt.filter (neIn h2)) e3) (.tail _ (.tail _ (.head _)))).1, rfl, _, rfl⟩
      have l4' : (vt.filter (neIn h2)).length ≤ 4 := by
        refine Nat.le_trans (List.length_filter_le _ _) ?_
        rw [hTk2.length, List.length_take]; omega
      refine len_list hl5 (by rw [List.size_toArray]; omega) (wpAny_Constant_int (mod_int (by decide) (wpAny_Constant_int (eq_int ?_))))
      refine hret _ _ _ F5.keep ?_
      rw [decide_eq_false hin, Bool.false_or, ← hlen3, List.size_toArray]
      generalize (vt.filter (neIn h2)).length = q at *
      rw [Int.fmod_eq_emod_of_nonneg _ (by decide)]
      rw [Bool.eq_iff_iff, beq_iff_eq, beq_iff_eq]
      omega
end Mine

open PySem PySem.W PyProof.Rows
set_option Elab.async false
set_option linter.unusedSimpArgs false
namespace Mine
section
variable {prog : Program} {w : World} {A : Around} {E : Value → Shared → Prop} {R : Result → Shared → Prop} {s : Shared}
/-- a comprehension of two clauses: the items of the items -/
abbrev flatE (c x : Str) (pe pc px px2 : Pos) (iter : Expr) (scope : Scope) (pos : Pos) : Expr := .ListComp (.Name c pe) [⟨.Name x px, iter, [], 0⟩, ⟨.Name c pc, .Name x px2, [], 0⟩] scope pos
theorem turn1 (c x : Str) (pe pc px px2 : Pos) (iter : Expr) (scope : Scope) (pos : Pos) (it acc : Value) (env : Env) :
    compTurn (flatE c x pe pc px px2 iter scope pos) 1 it acc env = (standAt px2 >>= fun _ => pyNext it >>= fun r => match r with
      | none => pure (.done .next)
      | some v => letOwnedTupleGo (.Name c pc) it v >>= fun _ => assign (.Name c pc) env v >>= fun _ =>
        (eval (.Name c pe) env >>= fun y => call (.builtin "list.append") [acc, y] >>= fun _ => pure ()) >>= fun _ =>
          again (.compLoop (flatE c x pe pc px px2 iter scope pos) 1 it acc env)) := by rfl
theorem turn0 (c x : Str) (pe pc px px2 : Pos) (iter : Expr) (scope : Scope) (pos : Pos) (it acc : Value) (env : Env) :
    compTurn (flatE c x pe pc px px2 iter scope pos) 0 it acc env = (standAt iter.pos >>= fun _ => pyNext it >>= fun r => match r with
      | none => pure (.done .next)
      | some v => letOwnedTupleGo (.Name x px) it v >>= fun _ => assign (.Name x px) env v >>= fun _ =>
        eval (.Name x px2) env >>= fun y => standAt px2 >>= fun _ => foldedSetIterable (.Name x px2) env y >>= fun y => holding [y] (pyIter y) >>= fun it2 => runOwn (.compStart (flatE c x pe pc px px2 iter scope pos) 1 it2 acc env) env >>= fun _ =>
          again (.compLoop (flatE c x pe pc px px2 iter scope pos) 0 it acc env)) := by rfl
theorem paired_get {α β : Type} {F : α → β → Prop} {l₁ : List α} {l₂ : List β} {j : Nat} {a : α} (q : Paired F l₁ l₂) (h : l₁[j]? = some a) : ∃ b, l₂[j]? = some b ∧ F a b := by
  induction q generalizing j with
  | nil => exact absurd h nofun
  | cons f _ ih =>
    cases j with
    | zero => cases h; exact ⟨_, rfl, f⟩
    | succ j =>
      obtain ⟨b, h1, h2⟩ := ih (j := j) (by simpa using h)
      exact ⟨b, by simpa using h1, h2⟩
theorem loop1 {c x : Str} {pe pc px px2 : Pos} {iter : Expr} {scope : Scope} {pos : Pos} {I l D : Addr} {cenv : Env} {m : Str → Option Value} {vs ys : List Value} (hh : A.handled = none)
    (hk : cenv.scope.kind = .function) (hc : cenv.kindOf c = some .local) (hcd : (c == ("__debug__" : Str)) = false) (hDC : D ≠ cenv.locals) (hDI : D ≠ I) (hDl : D ≠ l) (hCI : cenv.locals ≠ I) (hCl : cenv.locals ≠ l) (hlI : l ≠ I)
    (hit : s.heap.IsListIter I l 0) (hl : s.heap.IsList l vs.toArray) (hD : s.heap.PlainList D ys.toArray) (hn : s.heap.Ns cenv.locals m) (hsz : ys.length + vs.length ≤ 1000)
    (hR : ∀ h' tk m', h'.PlainList D (ys ++ vs).toArray → h'.Ns cenv.locals m' → (∀ b o, b ≠ cenv.locals → b ≠ D → b ≠ I → s.heap.get? b = some o → h'.get? b = some o) → R (.ok .next) { s with heap := h', toks := tk }) :
    codeAny (model prog w) A (.compLoop (flatE c x pe pc px px2 iter scope pos) 1 (.ref I) (.ref D) cenv) R s := by
  have W := Walks.list (prog := prog) (w := w) hh I l hlI vs.toArray
  refine codeAny_loop rfl
    (fun k s' => ∃ h' tk m' j, s' = { s with heap := h', toks := tk } ∧ h'.IsListIter I l j ∧ h'.IsList l vs.toArray ∧ h'.PlainList D (ys ++ vs.take j).toArray ∧ h'.Ns cenv.locals m' ∧ j ≤ vs.length ∧ k = vs.length + 1 - j ∧
      ∀ b o, b ≠ cenv.locals → b ≠ D → b ≠ I → s.heap.get? b = some o → h'.get? b = some o) ?_ (vs.length + 1)
    ⟨s.heap, s.toks, m, 0, rfl, hit, hl, by simpa using hD, hn, Nat.zero_le _, rfl, fun _ _ _ _ _ q => q⟩
  rintro k s' ⟨h, tk, m', j, rfl, hit', hl', hD', hn', hj, rfl, hkp⟩
  show wpAny _ A ((compTurn (flatE c x pe pc px px2 iter scope pos) 1 (.ref I) (.ref D) cenv).onRaise (fun x => do noteFrame x cenv; theTreesLotGoes x)) _ _ _
  refine wpAny_noted ?_
  rw [turn1]
  refine wpAny_bind (wpAny_standAt (wpAny_bind ?_))
  have hDp : ∀ h2 : Heap, (∀ b o, b ≠ I → h.get? b = some o → h2.get? b = some o) → h2.PlainList D (ys ++ vs.take j).toArray := fun h2 g => hD'.at fun o q => g D o hDI q
  by_cases hlt : j < vs.length
  · refine W.item j _ _ _ (by simpa using hlt) ⟨hit', hl'⟩ fun v h₁ tk₁ hPv hst₁ hk₁ => ?_
    have hk1 : ∀ b o, b ≠ I → h.get? b = some o → h₁.get? b = some o := fun b o hb q => hk₁ b o (by simpa using hb) q
    have hv : vs[j]? = some v := by simpa using hPv
    refine wpAny_bind (wpAny_pure (wpAny_bind ?_))
    refine wpAny_assign_Name (wpAny_storeName_local hc (hn'.at' fun o e => hk1 _ o hCI e) (fun h₂ hn₂ hs₂ => ?_) (by rw [hk]; rfl))
    refine wpAny_bind (wpAny_bind ?_)
    refine lname hn₂ (v := v) (by simp) hk hc hcd ?_
    have hD2 : h₂.PlainList D (ys ++ vs.take j).toArray := (hDp h₁ hk1).at fun o q => hs₂.extBut D o hDC q
    have hsz2 : (ys ++ vs.take j).toArray.size ≤ sizeLine := by rw [List.size_toArray, List.length_append, List.length_take, sizeLine_eq]; omega
    refine wpAny_bind (wpAny_list_append_plain (hsz := hsz2) hD2 fun h₅ hl₅ hs₅ => ?_)
    refine wpAny_pure (wpAny_pure ⟨rfl, vs.length + 1 - (j + 1), by omega, h₅, _, _, j + 1, rfl, ?_, ?_, ?_, hn₂.sameBut hs₅ (Ne.symm hDC), hlt, rfl, ?_⟩)
    · obtain ⟨o, ho, r⟩ := hst₁.1
      exact ⟨o, hs₅.extBut _ _ (Ne.symm hDI) (hs₂.extBut _ _ (Ne.symm hCI) ho), r⟩
    · exact (hst₁.2.at fun o q => hs₅.extBut _ _ (Ne.symm hDl) (hs₂.extBut _ _ (Ne.symm hCl) q))
    · rw [List.take_add_one, hv, ← List.append_assoc]
      simpa using hl₅
    · exact fun b o h1 h2 h3 q => hs₅.extBut b o h2 (hs₂.extBut b o h1 (hk1 b o h3 (hkp b o h1 h2 h3 q)))
  · have hjn : j = vs.length := by omega
    subst hjn
    refine W.done _ _ _ ⟨by simpa using hit', hl'⟩ fun h₁ tk₁ hk₁ => ?_
    have hk1 : ∀ b o, b ≠ I → h.get? b = some o → h₁.get? b = some o := fun b o hb q => hk₁ b o (by simpa using hb) q
    refine wpAny_pure (hR h₁ tk₁ m' ?_ (hn'.at' fun o e => hk1 _ o hCI e) fun b o h1 h2 h3 q => hk1 b o h3 (hkp b o h1 h2 h3 q))
    have := hDp h₁ hk1
    rwa [List.take_length] at this
theorem start1 {c x : Str} {pe pc px px2 : Pos} {iter : Expr} {scope : Scope} {pos : Pos} {it acc : Value} {env : Env}
    (h0 : codeAny (model prog w) A (.compLoop (flatE c x pe pc px px2 iter scope pos) 1 it acc env) R s)
    (h : wpAny (model prog w) A (pyIter it) (fun it' s' => codeAny (model prog w) A (.compLoop (flatE c x pe pc px px2 iter scope pos) 1 it' acc env) R s') (notedBy (model prog w) A env fun x s' => R (.error x) s') s) :
    codeAny (model prog w) A (.compStart (flatE c x pe pc px px2 iter scope pos) 1 it acc env) R s := by
  refine codeAny_of_tree ?_
  show wpAny _ _ ((compStart (flatE c x pe pc px px2 iter scope pos) 1 it acc env).onRaise (fun x => do noteFrame x env; standAt theWindowsPlace)) _ _ s
  refine wpAny_notedAt ?_
  unfold compStart
  show wpAny _ _ (ask >>= _) _ _ s
  refine wpAny_bind (wpAny_askSetting (wpAny_ite ?_))
  split
  · first
      | exact wpAny_bind (wpAny_pure (wpAny_pure (And.intro rfl h0)))
      | exact wpAny_pure (And.intro rfl h0)
  · refine wpAny_bind (wpAny_rule ?_)
    show wpAny _ _ (standAt px2 >>= _) _ _ s
    exact wpAny_bind (wpAny_standAt (wpAny_bind (wpAny_mono h (fun it' s' h' => wpAny_pure (And.intro rfl h')) fun _ _ x => x)))
theorem loop0 {c x : Str} {pe pc px px2 : Pos} {iter : Expr} {scope : Scope} {pos : Pos} {I l D : Addr} {cenv : Env} {m : Str → Option Value} {vs : List Value} (uss : List (List Value)) (hh : A.handled = none)
    (hk : cenv.scope.kind = .function) (hc : cenv.kindOf c = some .local) (hcd : (c == ("__debug__" : Str)) = false) (hx : cenv.kindOf x = some .local) (hxd : (x == ("__debug__" : Str)) = false)
    (hDC : D ≠ cenv.locals) (hDI : D ≠ I) (hDl : D ≠ l) (hCI : cenv.locals ≠ I) (hCl : cenv.locals ≠ l) (hlI : l ≠ I)
    (hit : s.heap.IsListIter I l 0) (hl : s.heap.IsList l vs.toArray) (hD : s.heap.PlainList D #[]) (hn : s.heap.Ns cenv.locals m)
    (hus : Paired (fun v us => ∃ b, v = .ref b ∧ s.heap.IsList b (List.toArray us) ∧ b ≠ D ∧ b ≠ cenv.locals ∧ b ≠ I) vs uss) (hsz : uss.flatten.length ≤ 1000)
    (hR : ∀ h' tk m', h'.PlainList D uss.flatten.toArray → h'.Ns cenv.locals m' → (∀ b o, b ≠ cenv.locals → b ≠ D → b ≠ I → s.heap.get? b = some o → h'.get? b = some o) → R (.ok .next) { s with heap := h', toks := tk }) :
    codeAny (model prog w) A (.compLoop (flatE c x pe pc px px2 iter scope pos) 0 (.ref I) (.ref D) cenv) R s := by
  have W := Walks.list (prog := prog) (w := w) hh I l hlI vs.toArray
  have hlen : vs.length = uss.length := hus.length
  refine codeAny_loop rfl
    (fun k s' => ∃ h' tk m' j, s' = { s with heap := h', toks := tk } ∧ h'.IsListIter I l j ∧ h'.IsList l vs.toArray ∧ h'.PlainList D (uss.take j).flatten.toArray ∧ h'.Ns cenv.locals m' ∧ j ≤ vs.length ∧ k = vs.length + 1 - j ∧
      ∀ b o, b ≠ cenv.locals → b ≠ D → b ≠ I → s.heap.get? b = some o → h'.get? b = some o) ?_ (vs.length + 1)
    ⟨s.heap, s.toks, m, 0, rfl, hit, hl, by simpa using hD, hn, Nat.zero_le _, rfl, fun _ _ _ _ _ q => q⟩
  rintro k s' ⟨h, tk, m', j, rfl, hit', hl', hD', hn', hj, rfl, hkp⟩
  show wpAny _ A ((compTurn (flatE c x pe pc px px2 iter scope pos) 0 (.ref I) (.ref D) cenv).onRaise (fun x => do noteFrame x cenv; theTreesLotGoes x)) _ _ _
  refine wpAny_noted ?_
  rw [turn0]
  refine wpAny_bind (wpAny_standAt (wpAny_bind ?_))
  by_cases hlt : j < vs.length
  · refine W.item j _ _ _ (by simpa using hlt) ⟨hit', hl'⟩ fun v h₁ tk₁ hPv hst₁ hk₁ => ?_
    have hk1 : ∀ b o, b ≠ I → h.get? b = some o → h₁.get? b = some o := fun b o hb q => hk₁ b o (by simpa using hb) q
    have hv : vs[j]? = some v := by simpa using hPv
    obtain ⟨us, hu, b, rfl, hbl, hbD, hbC, hbI⟩ := paired_get hus hv
    refine wpAny_bind (wpAny_pure (wpAny_bind ?_))
    refine wpAny_assign_Name (wpAny_storeName_local hx (hn'.at' fun o e => hk1 _ o hCI e) (fun h₂ hn₂ hs₂ => ?_) (by rw [hk]; rfl))
    refine wpAny_bind (lname hn₂ (v := .ref b) (by simp) hk hx hxd (wpAny_bind (wpAny_standAt (wpAny_bind (wpAny_pure (wpAny_bind (wpAny_holding ?_)))))))
    have hbl2 : h₂.IsList b us.toArray := hbl.at fun o q => hs₂.extBut _ _ hbC (hk1 _ _ hbI (hkp b o hbC hbD hbI q))
    have hD2 : h₂.PlainList D (uss.take j).flatten.toArray := hD'.at fun o q => hs₂.extBut D o hDC (hk1 D o hDI q)
    refine iterList hbl2 (wpAny_bind (wpAny_runOwn ?_))
    have hblt : b < h₂.objs.size := by obtain ⟨o, ho, _⟩ := hbl2; exact Heap.lt_size ho
    have hClt : cenv.locals < h₂.objs.size := by obtain ⟨o, ho⟩ := ns_some hn₂; exact Heap.lt_size ho
    have hDlt : D < h₂.objs.size := by obtain ⟨e, he⟩ := hD2; exact Heap.lt_size he
    have hIlt : I < h₂.objs.size := by obtain ⟨o, ho, _⟩ := hst₁.1; exact Heap.lt_size (hs₂.extBut _ _ (Ne.symm hCI) ho)
    have hllt : l < h₂.objs.size := by obtain ⟨o, ho, _⟩ := hst₁.2; exact Heap.lt_size (hs₂.extBut _ _ (Ne.symm hCl) ho)
    have up : ∀ o, Ext h₂ (h₂.push o) := fun o b o' q => Heap.get?_push_of_some _ q
    have hfl : (uss.take (j + 1)).flatten = (uss.take j).flatten ++ us := by
      rw [List.take_add_one, hu, List.flatten_append]; simp
    have hsz' : (uss.take j).flatten.length + us.length ≤ 1000 := by
      rw [← List.length_append, ← hfl]
      refine Nat.le_trans ?_ hsz
      conv => rhs; rw [← List.take_append_drop (j + 1) uss, List.flatten_append, List.length_append]
      omega
    have inner : codeAny (model prog w) A (.compLoop (flatE c x pe pc px px2 iter scope pos) 1 (.ref h₂.objs.size) (.ref D) cenv)
        (fun r s' => match r with
          | .ok f => wpAny (model prog w) A (again (.compLoop (flatE c x pe pc px px2 iter scope pos) 0 (.ref I) (.ref D) cenv)) (fun fin s' => match fin with
            | .done f => R (.ok f) s'
            | .again c' => c' = .compLoop (flatE c x pe pc px px2 iter scope pos) 0 (.ref I) (.ref D) cenv ∧ ∃ m_1, m_1 < vs.length + 1 - j ∧ ∃ h' tk m' j, s' = { s with heap := h', toks := tk } ∧ h'.IsListIter I l j ∧ h'.IsList l vs.toArray ∧ h'.PlainList D (uss.take j).flatten.toArray ∧ h'.Ns cenv.locals m' ∧ j ≤ vs.length ∧ m_1 = vs.length + 1 - j ∧
      ∀ b o, b ≠ cenv.locals → b ≠ D → b ≠ I → s.heap.get? b = some o → h'.get? b = some o) (notedBy (model prog w) A cenv fun e s' => R (.error e) s') s'
          | .error e => cameBackBy (model prog w) A cenv (notedBy (model prog w) A cenv fun e s' => R (.error e) s') e s')
        { s with heap := h₂.push { cls := .type "list_iterator", data := .fields #[.ref b, .int 0 0] }, toks := tk₁ + 1 } := by
      refine loop1 (ys := (uss.take j).flatten) (vs := us) (l := b) hh hk hc hcd hDC (Nat.ne_of_lt hDlt) (Ne.symm hbD) (Nat.ne_of_lt hClt) (Ne.symm hbC) (Nat.ne_of_lt hblt) ⟨_, Heap.get?_push_size _ rfl, rfl, rfl⟩ (isList_ext (up _) hbl2) (hD2.at fun o q => up _ _ _ q) (hn₂.keeps (up _)) hsz' ?_
      intro h₅ tk₅ m₅ hD₅ hn₅ hkp₅
      have kk : ∀ b o, b ≠ cenv.locals → b ≠ D → h₂.get? b = some o → h₅.get? b = some o := fun b o h1 h2 q => hkp₅ b o h1 h2 (Nat.ne_of_lt (Heap.lt_size q)) (up _ _ _ q)
      refine wpAny_pure ⟨rfl, vs.length + 1 - (j + 1), by omega, h₅, tk₅, m₅, j + 1, rfl, ?_, ?_, by rw [hfl]; exact hD₅, hn₅, hlt, rfl, ?_⟩
      · obtain ⟨o, ho, r⟩ := hst₁.1
        exact ⟨o, kk _ _ (Ne.symm hCI) (Ne.symm hDI) (hs₂.extBut _ _ (Ne.symm hCI) ho), r⟩
      · exact hst₁.2.at fun o q => kk _ _ (Ne.symm hCl) (Ne.symm hDl) (hs₂.extBut _ _ (Ne.symm hCl) q)
      · exact fun b o h1 h2 h3 q => kk b o h1 h2 (hs₂.extBut b o h1 (hk1 b o h3 (hkp b o h1 h2 h3 q)))
    refine start1 inner ?_
    exact wpAny_pyIter_listiter ⟨_, Heap.get?_push_size _ rfl, rfl, rfl⟩ inner
  · have hjn : j = vs.length := by omega
    subst hjn
    refine W.done _ _ _ ⟨by simpa using hit', hl'⟩ fun h₁ tk₁ hk₁ => ?_
    have hk1 : ∀ b o, b ≠ I → h.get? b = some o → h₁.get? b = some o := fun b o hb q => hk₁ b o (by simpa using hb) q
    refine wpAny_pure (hR h₁ tk₁ m' ?_ (hn'.at' fun o e => hk1 _ o hCI e) fun b o h1 h2 h3 q => hk1 b o h3 (hkp b o h1 h2 h3 q))
    have := hD'.at (h' := h₁) fun o q => hk1 D o hDI q
    rwa [hlen, List.take_length] at this
theorem flat_c {env : Env} {c x : Str} {pe pc px px2 : Pos} {iter : Expr} {scope : Scope} {cl : List (Str × Addr)} {pos : Pos} {Q : Value → Shared → Prop} {l : Addr} {vs : List Value} (uss : List (List Value)) (hh : A.handled = none)
    (hclos : closureFor scope env = pure cl) (hcell : ∀ y ∈ scope.names, y.2 ≠ .cell) (hkind : scope.kind = .function)
    (hnames : ∀ y ∈ scope.names, y.2 = .local → scope.names.lookup y.1 = some .local) (hx : scope.names.lookup x = some .local) (hc : scope.names.lookup c = some .local)
    (hcd : (c == ("__debug__" : Str)) = false) (hxd : (x == ("__debug__" : Str)) = false)
    (hv : ∀ Q' : Value → Shared → Prop, Q' (.ref l) s → wpAny (model prog w) A (eval iter env) Q' E s) (hl : s.heap.IsList l vs.toArray)
    (hus : Paired (fun v us => ∃ b, v = .ref b ∧ s.heap.IsList b (List.toArray us)) vs uss) (hsz : uss.flatten.length ≤ 1000)
    (h : ∀ D h' tk, Ext s.heap h' → s.heap.objs.size ≤ D → h'.PlainList D uss.flatten.toArray → Q (.ref D) { s with heap := h', toks := tk })
    (hs : ∀ x, foldedSetIterable iter env x = pure x := by intro _; rfl) :
    wpAny (model prog w) A (eval (flatE c x pe pc px px2 iter scope pos) env) Q E s := by
  rw [eval_ListComp]
  refine wpAny_comprehension_free (use := none) rfl hs hclos hkind hnames (hv _ (iterList hl ?_))
  refine wpAny_newObj_type (wpAny_newFunctionEnv hcell (by intro y hy; simp at hy) (fun h₁ hns₁ hsb₁ => ?_) hkind)
  dsimp only at hns₁ hsb₁ ⊢
  generalize hH1 : s.heap.push { cls := .type "list_iterator", data := .fields #[.ref l, .int 0 0] } = H1 at hns₁ hsb₁ ⊢
  have hH1s : H1.objs.size = s.heap.objs.size + 1 := by rw [← hH1, Heap.size_push]
  generalize hH2 : H1.push { cls := .type "list", dict := none, data := .seq ([] : List Value).toArray } = H2 at hns₁ hsb₁ ⊢
  have hC : H2.objs.size = H1.objs.size + 1 := by rw [← hH2, Heap.size_push]
  have s1 : ∀ b : Nat, b < s.heap.objs.size → b < H1.objs.size := fun b hb => by rw [hH1s]; exact Nat.lt_succ_of_lt hb
  have s2 : ∀ b : Nat, b < s.heap.objs.size → b < H2.objs.size := fun b hb => by rw [hC]; exact Nat.lt_succ_of_lt (s1 b hb)
  have s3 : s.heap.objs.size < H2.objs.size := by rw [hC, hH1s]; exact Nat.lt_succ_of_lt (Nat.lt_succ_self _)
  have old : ∀ b o, s.heap.get? b = some o → h₁.get? b = some o := fun b o e => by
    exact hsb₁.extBut b o (Nat.ne_of_lt (s2 _ (Heap.lt_size e))) (Heap.get?_push_of_some _ (hH2 ▸ Heap.get?_push_of_some _ (hH1 ▸ Heap.get?_push_of_some _ e)))
  have hIs : H1.get? s.heap.objs.size = some { cls := .type "list_iterator", data := .fields #[.ref l, .int 0 0] } := by rw [← hH1]; exact Heap.get?_push_size _ rfl
  have hI1 : h₁.IsListIter s.heap.objs.size l 0 := ⟨_, hsb₁.extBut _ _ (Nat.ne_of_lt s3) (Heap.get?_push_of_some _ (hH2 ▸ Heap.get?_push_of_some _ hIs)), rfl, rfl⟩
  have hD1 : h₁.PlainList H1.objs.size #[] := ⟨_, hsb₁.extBut _ _ (Nat.ne_of_lt (by rw [hC]; exact Nat.lt_succ_self _)) (Heap.get?_push_of_some _ (hH2 ▸ Heap.get?_push_size _ rfl))⟩
  have hllt : l < s.heap.objs.size := by obtain ⟨_, e, _⟩ := hl; exact Heap.lt_size e
  have loop : ∀ s₃ : Shared, s₃ = { s with heap := h₁, toks := s.toks + ([] : List (Str × Value)).length } →
      codeAny (model prog w) A (.compLoop (flatE c x pe pc px px2 iter scope pos) 0 (.ref s.heap.objs.size) (.ref H1.objs.size) (compEnvC scope cl H2.objs.size env)) (fun r s' => compPost (model prog w) A E none Q (.ref H1.objs.size) H2.objs.size r s') s₃ := by
    rintro s₃ rfl
    refine loop0 (cenv := compEnvC scope cl H2.objs.size env) uss hh (by simp [compEnvC, relabel, hkind]) (lookup_relabel_local hc) hcd (lookup_relabel_local hx) hxd ?_ ?_ ?_ ?_ ?_ ?_ hI1 (isList_ext old hl) hD1 hns₁ ?_ hsz ?_
    · exact Nat.ne_of_lt (by rw [hC]; exact Nat.lt_succ_self _)
    · exact Nat.ne_of_gt (by rw [hH1s]; exact Nat.lt_succ_self _)
    · exact Nat.ne_of_gt (s1 _ hllt)
    · exact Nat.ne_of_gt s3
    · exact Nat.ne_of_gt (s2 _ hllt)
    · exact Nat.ne_of_lt hllt
    · refine Paired.mono (fun v us ⟨b, e, hb⟩ => ?_) hus
      have hblt : b < s.heap.objs.size := by obtain ⟨_, e, _⟩ := hb; exact Heap.lt_size e
      exact ⟨b, e, isList_ext old hb, Nat.ne_of_lt (s1 _ hblt), Nat.ne_of_lt (s2 _ hblt), Nat.ne_of_lt hblt⟩
    · intro h' tk m' hD' hn' hk'
      refine ⟨m', hn', fun h'' hs'' => ?_⟩
      have hne : H1.objs.size ≠ H2.objs.size := Nat.ne_of_lt (by rw [hC]; exact Nat.lt_succ_self _)
      refine h _ h'' tk (fun b o q => ?_) (by rw [hH1s]; exact Nat.le_succ _) (hD'.extBut hs''.extBut hne)
      have hb := Heap.lt_size q
      exact hs''.extBut b o (Nat.ne_of_lt (s2 _ hb)) (hk' b o (Nat.ne_of_lt (s2 _ hb)) (Nat.ne_of_lt (s1 _ hb)) (Nat.ne_of_lt hb) (old b o q))
  exact codeAny_compStart_list (loop _ rfl) (wpAny_pyIter_listiter hI1 (loop _ rfl))
end
end Mine

open PySem PySem.W PyProof.Rows
set_option Elab.async false
set_option linter.unusedSimpArgs false
namespace Mine
section
variable {prog : Program} {w : World} {A : Around} {E : Value → Shared → Prop} {env : Env} {s : Shared}
theorem vals_comp {fx : List Addr} {x : Str} {elt : Expr} {scope : Scope} {cl : List (Str × Addr)} {l : Addr} {vs : List Value} (rel : Value → Value → Prop) (G : Heap → Prop) (hG0 : G s.heap)
    (hGm : ∀ h h', G h → (∀ b o, b < s.heap.objs.size → h.get? b = some o → h'.get? b = some o) → G h')
    (g1 : ∀ C v s₃ m₃ E', s.heap.objs.size ≤ C → v ∈ vs → s₃.heap.Ns C m₃ → m₃ x = some v → G s₃.heap → (∀ b o, b ∉ fx → s.heap.get? b = some o → s₃.heap.get? b = some o) →
      wpAny (model prog w) A (eval elt (compEnvC scope cl C env)) (fun y s₄ => KeepsX fx s₃ s₄ ∧ rel v y ∧ G s₄.heap) E' s₃) {St : Nat → Heap → Prop} :
    CompX fx prog w A env scope cl x [] elt [s.heap.objs.size] vs.toArray.size (fun i v => vs.toArray[i]? = some v) St
      (fun D C ws ys h => s.heap.objs.size ≤ D ∧ s.heap.objs.size ≤ C ∧ Paired rel ws ys ∧ G h) { s with heap := s.heap.push { cls := .type "list_iterator", data := .fields #[.ref l, .int 0 0] } } := by
  have dn : ∀ b, (s.heap.push { cls := .type "list_iterator", data := .fields #[.ref l, .int 0 0] }).objs.size ≤ b → s.heap.objs.size ≤ b := fun b hb => by rw [Heap.size_push] at hb; exact Nat.le_of_succ_le hb
  have low : ∀ {b d : Nat}, b < s.heap.objs.size → s.heap.objs.size ≤ d → b ≠ d := fun h1 h2 => Nat.ne_of_lt (Nat.lt_of_lt_of_le h1 h2)
  refine ⟨?_, ?_, ?_⟩
  · rintro D C ws ys h h' ⟨h1, h2, h3, h4⟩ hk
    exact ⟨h1, h2, h3, hGm _ _ h4 fun b o hb q => hk b o (low hb h2) (by simpa using low hb (Nat.le_refl _)) (low hb h1) q⟩
  · intro D C h hD hC he
    exact ⟨dn D hD, dn C hC, .nil, hGm _ _ hG0 fun b o _ q => he b o (Heap.get?_push_of_some _ q)⟩
  · intro D C ws ys v s₃ m₃ E' hD hC hDC hP hlt' hI hS hpl hns hm hkp
    have hv : vs[ws.length]? = some v := by simpa using hP
    obtain ⟨h1, h2, h3, h4⟩ := hI
    refine wpAny_tests_nil ⟨⟨_, _, rfl, fun _ _ q => q⟩, fun _ => ?_, fun h => by cases h⟩
    refine wpAny_mono (g1 C v s₃ m₃ E' h2 (List.mem_of_getElem? hv) hns hm h4 fun b o hb q => hkp b o hb (not_iter_of_old q) (Heap.get?_push_of_some _ q)) (fun y s₄ hy => ?_) fun _ _ e => e
    exact ⟨hy.1, h1, h2, h3.snoc hy.2.1, hy.2.2⟩
/-- a value for each item of a list, by calls that may note exceptions; stored under a name at once -/
theorem valsXA {fx : List Addr} {x y : Str} {elt : Expr} {scope : Scope} {cl : List (Str × Addr)} {Q : Flow → Shared → Prop} {l : Addr} {vs : List Value} {m : Str → Option Value} (rel : Value → Value → Prop) (G : Heap → Prop)
    (hh : A.handled = none) (hl : s.heap.IsList l vs.toArray) (hn : vs.length ≤ 1000) (hfx : ∀ b ∈ fx, b < s.heap.objs.size) (hlx : l ∉ fx) (hLs : env.locals < s.heap.objs.size) (hG0 : G s.heap)
    (hGm : ∀ h h', G h → (∀ b o, b < s.heap.objs.size → h.get? b = some o → h'.get? b = some o) → G h') (hGn : ∀ h, G h → h.Ns env.locals m)
    (g1 : ∀ C v s₃ m₃ E', s.heap.objs.size ≤ C → v ∈ vs → s₃.heap.Ns C m₃ → m₃ x = some v → G s₃.heap → (∀ b o, b ∉ fx → s.heap.get? b = some o → s₃.heap.get? b = some o) →
      wpAny (model prog w) A (eval elt (compEnvC scope cl C env)) (fun y s₄ => KeepsX fx s₃ s₄ ∧ rel v y ∧ G s₄.heap) E' s₃)
    (g2 : ∀ D e ys h' tk, h'.Ns env.locals (fun z => if z = y then some (.ref D) else m z) → h'.get? D = some (lobj ys e) → s.heap.objs.size ≤ D → Paired rel vs ys → (∀ b o, b ≠ env.locals → b ∉ fx → s.heap.get? b = some o → h'.get? b = some o) → Q .next { s with heap := h', toks := tk }) :
    wpAny (model prog w) A (pyIter (.ref l)) (SrcXA fx prog w A env scope cl x y [] elt Q) E s := by
  have hlt : l < s.heap.objs.size := by obtain ⟨_, e, _⟩ := hl; exact Heap.lt_size e
  refine iterList hl ?_
  have hsz : ∀ b, b < s.heap.objs.size → b < (s.heap.push { cls := .type "list_iterator", data := .fields #[.ref l, .int 0 0] }).objs.size := fun b hb => by rw [Heap.size_push]; exact Nat.lt_succ_of_lt hb
  refine ⟨s.heap.objs.size, [s.heap.objs.size, l], [s.heap.objs.size], vs.toArray.size, _, _, _, m, rfl, Walks.list hh _ l (Nat.ne_of_lt hlt) vs.toArray, (by rw [List.size_toArray, sizeLine_eq]; omega),
    ⟨⟨_, Heap.get?_push_size _ rfl, rfl, rfl⟩, hl.at fun o e => Heap.get?_push_of_some _ e⟩, ?_, fun b hb => hsz b (hfx b hb), ?_, hsz _ hLs, fun D C ws ys h _ _ hI => hGn h hI.2.2.2, vals_comp rel G hG0 hGm g1, ?_⟩
  · intro b hb
    show b < (s.heap.push _).objs.size
    rw [Heap.size_push]
    rcases List.mem_cons.mp hb with rfl | hb
    · exact Nat.lt_succ_self _
    · rw [List.mem_singleton.mp hb]; exact Nat.lt_succ_of_lt hlt
  · intro b hb hm
    rcases List.mem_cons.mp hb with rfl | hb
    · exact Nat.lt_irrefl _ (hfx _ hm)
    · rw [List.mem_singleton.mp hb] at hm; exact hlx hm
  · intro D C h' tk ys ws hD hC hDC hpl hlen hP hI hns hkp
    obtain ⟨h1, h2, ⟨hI1, _, hI3, _⟩, _, _⟩ := hI
    have e' : ws = vs := by simpa using walked_is hlen hP
    subst e'
    obtain ⟨e, he⟩ := hpl
    exact g2 D e ys h' tk hns he hI1 hI3 fun b o hb hx q => hkp b o hb hx (not_iter_of_old q) (Heap.get?_push_of_some _ q)
/-- the same, where nothing is noted -/
theorem vals {x : Str} {elt : Expr} {scope : Scope} {cl : List (Str × Addr)} {Q : Value → Shared → Prop} {l : Addr} {vs : List Value} (rel : Value → Value → Prop)
    (hh : A.handled = none) (hl : s.heap.IsList l vs.toArray) (hn : vs.length ≤ 1000)
    (g1 : ∀ C v s₃ m₃ E', s.heap.objs.size ≤ C → v ∈ vs → s₃.heap.Ns C m₃ → m₃ x = some v → Ext s.heap s₃.heap →
      wpAny (model prog w) A (eval elt (compEnvC scope cl C env)) (fun y s₄ => Keeps s₃ s₄ ∧ rel v y) E' s₃)
    (g2 : ∀ D e ys h' tk, Ext s.heap h' → h'.get? D = some (lobj ys e) → s.heap.objs.size ≤ D → Paired rel vs ys → Q (.ref D) { s with heap := h', toks := tk }) :
    wpAny (model prog w) A (pyIter (.ref l)) (SrcX [] prog w A env scope cl x [] elt Q) E s := by
  have hlt : l < s.heap.objs.size := by obtain ⟨_, e, _⟩ := hl; exact Heap.lt_size e
  refine iterList hl ?_
  refine ⟨s.heap.objs.size, [s.heap.objs.size, l], [s.heap.objs.size], vs.toArray.size, _, _, _, rfl, Walks.list hh _ l (Nat.ne_of_lt hlt) vs.toArray, (by rw [List.size_toArray, sizeLine_eq]; omega),
    ⟨⟨_, Heap.get?_push_size _ rfl, rfl, rfl⟩, hl.at fun o e => Heap.get?_push_of_some _ e⟩, ?_, (fun b hb => nomatch hb), (fun b _ hm => nomatch hm), vals_comp rel (fun _ => True) trivial (fun _ _ _ _ => trivial) ?_, ?_⟩
  · intro b hb
    show b < (s.heap.push _).objs.size
    rw [Heap.size_push]
    rcases List.mem_cons.mp hb with rfl | hb
    · exact Nat.lt_succ_self _
    · rw [List.mem_singleton.mp hb]; exact Nat.lt_succ_of_lt hlt
  · intro C v s₃ m₃ E' hC hv hns hm _ hk
    exact wpAny_mono (g1 C v s₃ m₃ E' hC hv hns hm fun b o q => hk b o (fun h => nomatch h) q) (fun y s₄ hy => ⟨Keeps.x hy.1, hy.2, trivial⟩) fun _ _ e => e
  · intro D C h' tk ys ws hD hC hDC hpl hlen hP hI hkp
    obtain ⟨h1, ⟨hI1, _, hI3, _⟩, _⟩ := hI
    have e' : ws = vs := by simpa using walked_is hlen hP
    subst e'
    obtain ⟨e, he⟩ := hpl
    exact g2 D e ys h' tk (fun b o q => hkp b o (fun h => nomatch h) (not_iter_of_old q) (Heap.get?_push_of_some _ q)) he hI1 hI3
end
end Mine

open PySem PySem.W PyProof.Rows 
set_option Elab.async false
set_option linter.unusedSimpArgs false
namespace Mine
section
variable {h₀ h : Heap} {L : Addr} {m : Str → Option Value} {news : List (Addr × Obj)}
theorem pin_plain (F : Fr h₀ L h m) (N : News h₀ L h news) : ∀ {vs : List Value}, (∀ x ∈ vs, ∃ b us e, x = .ref b ∧ h.get? b = some (lobj us e)) → ∃ zs, Pinned h₀ L h news zs fun h' => ∀ x ∈ vs, ∃ b us e, x = .ref b ∧ h'.get? b = some (lobj us e)
  | [], _ => ⟨[], ⟨(fun _ h => nomatch h), N, fun _ _ _ _ h => nomatch h⟩⟩
  | v :: vs, hv => by
    obtain ⟨zs, x⟩ := pin_plain F N (vs := vs) fun x hx => hv x (.tail _ hx)
    obtain ⟨b, us, e, rfl, hb⟩ := hv v (.head _)
    have fin : ∀ h' : Heap, h'.get? b = some (lobj us e) → (∀ x ∈ vs, ∃ b us e, x = .ref b ∧ h'.get? b = some (lobj us e)) → ∀ x ∈ (Value.ref b :: vs), ∃ b us e, x = .ref b ∧ h'.get? b = some (lobj us e) := fun h' q1 q2 y hy => by
      rcases List.mem_cons.mp hy with rfl | hy
      · exact ⟨b, us, e, rfl, q1⟩
      · exact q2 y hy
    cases eb : h₀.get? b with
    | some o' =>
      have := F.keep b o' eb
      rw [hb] at this
      cases this
      exact ⟨zs, x.1, x.2.1, fun h' g hz => fin h' (g _ _ eb) (x.2.2 h' g hz)⟩
    | none =>
      refine ⟨(b, lobj us e) :: zs, ?_, ?_, fun h' g hz => fin h' (hz _ (.head _)) (x.2.2 h' g fun p hp => hz p (.tail _ hp))⟩
      · intro p hp
        rcases List.mem_cons.mp hp with rfl | hp
        · exact ⟨_, _, rfl⟩
        · exact x.1 p hp
      · intro p hp
        rcases List.mem_cons.mp hp with rfl | hp
        · exact ⟨hb, Ne.symm (ns_ne_list F.ns (l := b) (vs := us.toArray) ⟨_, hb, rfl, _, rfl⟩), eb⟩
        · exact x.2.1 p hp
theorem pin_parts (F : Fr h₀ L h m) (N : News h₀ L h news) {v : Value} {xss : List (List Int)} (hl : IsParts h v xss) : ∃ a vs zs, v = .ref a ∧ Pinned h₀ L h news zs fun h' => h'.IsList a vs.toArray ∧ AllInts h' vs xss ∧ ∀ x ∈ vs, ∃ b us e, x = .ref b ∧ h'.get? b = some (lobj us e) := by
  obtain ⟨a, vs, rfl, hl, hi, hp⟩ := hl
  obtain ⟨zs, x⟩ := pin_list F N hl
  obtain ⟨zs', x'⟩ := pin_all F N hi
  obtain ⟨zs'', x''⟩ := pin_plain F N hp
  exact ⟨a, vs, zs ++ (zs' ++ zs''), rfl, (x.and (x'.and x''))⟩
theorem pin_kv (F : Fr h₀ L h m) (N : News h₀ L h news) {kvs : List (Int × Value)} {kept : List (Int × List Int)} (a : KV h kvs kept) : ∃ zs, Pinned h₀ L h news zs fun h' => KV h' kvs kept := by
  induction a with
  | nil => exact ⟨[], ⟨(fun _ h => nomatch h), N, fun _ _ _ => .nil⟩⟩
  | cons a _ ih =>
    obtain ⟨zs, x⟩ := pin_ints F N a.2
    obtain ⟨zs', x'⟩ := ih
    exact ⟨zs ++ zs', (x.and x').imp fun h' q => .cons ⟨a.1, q.1⟩ q.2⟩
theorem Pinned.lst {zs : List (Addr × Obj)} {P : Heap → Prop} (x : Pinned h₀ L h news zs P) : ∀ p ∈ zs, Lst p := x.1
end
theorem bools_reads {h : Heap} : ∀ bs : List Bool, ∃ as, ReadsAll h (bs.map Value.bool) (bs.map PyData.bool) as
  | [] => ⟨[], .nil⟩
  | b :: bs => by
    obtain ⟨as, r⟩ := bools_reads (h := h) bs
    exact ⟨[] ++ as, .cons (.bool b) r⟩
theorem canLay_bools : ∀ bs : List Bool, PyData.canLayAll0 (bs.map PyData.bool) = true
  | [] => by simp [PyData.canLayAll0]
  | b :: r => by simp [PyData.canLayAll0, PyData.canLay0, canLay_bools r]
theorem depth_bools : ∀ bs : List Bool, PyData.depthAll (bs.map PyData.bool) ≤ 1
  | [] => by simp [PyData.depthAll]
  | b :: r => by have := depth_bools r; simp only [List.map_cons, PyData.depthAll, PyData.depth]; omega
theorem shaped_bools (bs : List Bool) : SeqAt.shaped (.list (bs.map PyData.bool)) = true := by
  have h1 := depth_bools bs
  have h2 : PyData.depth (.list (bs.map PyData.bool)) ≤ 64 := by simp only [PyData.depth]; omega
  show (PyData.canLay0 (.list (bs.map PyData.bool)) && decide (PyData.depth (.list (bs.map PyData.bool)) ≤ 64)) = true
  rw [Bool.and_eq_true]
  exact ⟨by simp only [PyData.canLay0]; exact canLay_bools bs, decide_eq_true h2⟩
theorem eqv_bools : ∀ bs : List Bool, PyData.eqvAll (bs.map PyData.bool) (bs.map PyData.bool) = true
  | [] => by simp [PyData.eqvAll]
  | b :: r => by simp [PyData.eqvAll, PyData.eqv, eqv_bools r]
theorem eq_boolsM {prog : Program} {w : World} {A : Around} {E : Value → Shared → Prop} {s : Shared} {a b : Addr} {bs : List Bool} {Q : Value → Shared → Prop} (hl : s.heap.IsList a (bs.map Value.bool).toArray) (hl' : s.heap.IsList b (bs.map Value.bool).toArray) (hu : A.units + 64 < cLine)
    (h : Q (.bool true) s) : wpAny (model prog w) A (compareOp .Eq (.ref a) (.ref b)) Q E s := by
  obtain ⟨as, ra⟩ := bools_reads (h := s.heap) bs
  obtain ⟨o, ho, hc, n, hd⟩ := hl
  obtain ⟨o', ho', hc', n', hd'⟩ := hl'
  exact eq_dataH (Reads.list ho hc hd (by simpa using ra)) (Reads.list ho' hc' hd' (by simpa using ra)) (shaped_bools bs) (shaped_bools bs) hu (by simp only [PyData.eqv]; rw [eqv_bools]; exact h)
end Mine

open PySem PySem.W PyProof.Rows
set_option Elab.async false
set_option linter.unusedSimpArgs false
set_option linter.unusedVariables false
namespace Mine
/-- sets of codes, as vectors over the field of two -/
abbrev Vec := Int → Bool
def xv (f g : Vec) : Vec := fun z => Bool.xor (f z) (g z)
def vec (xs : List Int) : Vec := fun z => decide (z ∈ xs)
def zv : Vec := fun _ => false
theorem xv_zero (f : Vec) : xv f zv = f := by funext z; simp [xv, zv]
theorem xv_self (f : Vec) : xv f f = zv := by funext z; simp [xv, zv]
theorem xv_comm (f g : Vec) : xv f g = xv g f := by funext z; simp only [xv]; cases f z <;> cases g z <;> rfl
theorem xv_assoc (f g h : Vec) : xv (xv f g) h = xv f (xv g h) := by funext z; simp only [xv]; cases f z <;> cases g z <;> cases h z <;> rfl
theorem xv_swap (f g h : Vec) : xv (xv f g) h = xv (xv f h) g := by rw [xv_assoc, xv_comm g h, ← xv_assoc]
theorem xv_cancel (f g : Vec) : xv (xv f g) g = f := by rw [xv_assoc, xv_self, xv_zero]
/-- sums of some of these -/
def SpL : List Vec → Vec → Prop
  | [], f => f = zv
  | r :: rs, f => SpL rs f ∨ SpL rs (xv f r)
theorem SpL.zero : ∀ gs : List Vec, SpL gs zv
  | [] => rfl
  | _ :: gs => .inl (SpL.zero gs)
theorem SpL.add : ∀ {gs : List Vec} {f g : Vec}, SpL gs f → SpL gs g → SpL gs (xv f g)
  | [], f, g, hf, hg => by
    have hf' : f = zv := hf
    have hg' : g = zv := hg
    subst hf' hg'
    exact xv_zero _
  | r :: gs, f, g, hf, hg => by
    rcases hf with hf | hf <;> rcases hg with hg | hg
    · exact .inl (hf.add hg)
    · refine .inr ?_; rw [xv_assoc]; exact hf.add hg
    · refine .inr ?_; rw [xv_swap]; exact hf.add hg
    · refine .inl ?_
      have := hf.add hg
      rwa [← xv_assoc, xv_swap f r g, xv_cancel] at this
theorem SpL.mem : ∀ {gs : List Vec} {r : Vec}, r ∈ gs → SpL gs r
  | _ :: gs, r, h => by
    rcases List.mem_cons.mp h with rfl | h
    · refine .inr ?_; rw [xv_self]; exact SpL.zero gs
    · exact .inl (SpL.mem h)
theorem SpL.app : ∀ {gs : List Vec} {r f : Vec}, SpL (gs ++ [r]) f ↔ SpL gs f ∨ SpL gs (xv f r)
  | [], r, f => Iff.rfl
  | q :: gs, r, f => by
    show SpL (gs ++ [r]) f ∨ SpL (gs ++ [r]) (xv f q) ↔ (SpL gs f ∨ SpL gs (xv f q)) ∨ (SpL gs (xv f r) ∨ SpL gs (xv (xv f r) q))
    rw [SpL.app, SpL.app, xv_swap f q r]
    constructor
    · rintro ((h | h) | (h | h))
      · exact .inl (.inl h)
      · exact .inr (.inl h)
      · exact .inl (.inr h)
      · exact .inr (.inr h)
    · rintro ((h | h) | (h | h))
      · exact .inl (.inl h)
      · exact .inr (.inl h)
      · exact .inl (.inr h)
      · exact .inr (.inr h)
def IsMin (f : Vec) (h : Int) : Prop := f h = true ∧ ∀ z, f z = true → h ≤ z
theorem span_min : ∀ (kept : List (Int × List Int)), (kept.map (·.1)).Nodup → (∀ kv ∈ kept, IsMin (vec kv.2) kv.1) → ∀ f, SpL (kept.map fun kv => vec kv.2) f → f = zv ∨ ∃ kv ∈ kept, IsMin f kv.1
  | [], _, _, f, h => .inl h
  | kv :: kept, hn, hm, f, h => by
    rw [List.map_cons, List.nodup_cons] at hn
    have ih := span_min kept hn.2 fun q hq => hm q (.tail _ hq)
    rcases h with h | h
    · rcases ih f h with e | ⟨q, hq, hmin⟩
      · exact .inl e
      · exact .inr ⟨q, .tail _ hq, hmin⟩
    · have hk := hm kv (.head _)
      have ef : f = xv (xv f (vec kv.2)) (vec kv.2) := (xv_cancel _ _).symm
      have hfz : ∀ z, f z = Bool.xor (xv f (vec kv.2) z) (vec kv.2 z) := fun z => congrFun ef z
      rcases ih _ h with e | ⟨q, hq, hmin⟩
      · right
        refine ⟨kv, .head _, ?_⟩
        have : f = vec kv.2 := by rw [ef, e]; funext z; simp [xv, zv]
        rw [this]; exact hk
      · right
        have hne : q.1 ≠ kv.1 := fun e => hn.1 (by rw [← e]; exact List.mem_map_of_mem hq)
        rcases Int.lt_or_lt_of_ne hne with hlt | hlt
        · refine ⟨q, .tail _ hq, ?_, fun z hz => ?_⟩
          · rw [hfz, hmin.1]
            have : vec kv.2 q.1 = false := by
              cases hv : vec kv.2 q.1 with
              | false => rfl
              | true => have := hk.2 _ hv; omega
            rw [this]; rfl
          · rw [hfz] at hz
            cases h1 : xv f (vec kv.2) z with
            | true => exact hmin.2 z h1
            | false =>
              rw [h1] at hz
              have := hk.2 z (by simpa using hz)
              omega
        · refine ⟨kv, .head _, ?_, fun z hz => ?_⟩
          · rw [hfz, hk.1]
            have : xv f (vec kv.2) kv.1 = false := by
              cases hv : xv f (vec kv.2) kv.1 with
              | false => rfl
              | true => have := hmin.2 _ hv; omega
            rw [this]; rfl
          · rw [hfz] at hz
            cases h1 : xv f (vec kv.2) z with
            | true => have := hmin.2 z h1; omega
            | false => rw [h1] at hz; exact hk.2 z (by simpa using hz)
theorem vec_symd {xs ys : List Int} (hx : xs.Pairwise (· < ·)) (hy : ys.Pairwise (· < ·)) : vec (symd xs ys) = xv (vec xs) (vec ys) := by
  funext z
  simp only [vec, xv]
  have := symd_mem hx hy z
  by_cases h1 : z ∈ xs <;> by_cases h2 : z ∈ ys <;> simp [h1, h2, this]
theorem keptAt_mem {kept : List (Int × List Int)} {z : Int} (hz : z ∈ kept.map (·.1)) : ∃ kv ∈ kept, kv.1 = z ∧ keptAt kept z = kv.2 := by
  unfold keptAt
  cases e : kept.find? fun kv => kv.1 = z with
  | none =>
    obtain ⟨kv, h1, h2⟩ := List.mem_map.mp hz
    have := List.find?_eq_none.mp e kv h1
    simp [h2] at this
  | some kv =>
    have h1 := List.mem_of_find?_eq_some e
    have h2 := List.find?_some e
    exact ⟨kv, h1, by simpa using h2, rfl⟩
theorem red_span {pg : List Int} {kept : List (Int × List Int)} (hk : ∀ kv ∈ kept, SI' pg kv.2) : ∀ (hs : List Int) {left : List Int}, SI' pg left → (∀ z ∈ hs, z ∈ kept.map (·.1)) →
    ∃ g, SpL (kept.map fun kv => vec kv.2) g ∧ vec (hs.foldl (redStep kept) left) = xv (vec left) g
  | [], left, _, _ => ⟨zv, SpL.zero _, (xv_zero _).symm⟩
  | z :: hs, left, hl, hh => by
    have h1 := redStep_in hk hl (hh z (.head _))
    obtain ⟨g, hg, e⟩ := red_span hk hs h1 fun y hy => hh y (.tail _ hy)
    rw [List.foldl_cons, e]
    unfold redStep
    split
    · obtain ⟨kv, hm, _, e2⟩ := keptAt_mem (hh z (.head _))
      rw [e2, vec_symd hl.1 (hk kv hm).1]
      refine ⟨xv (vec kv.2) g, SpL.add (SpL.mem (List.mem_map.mpr ⟨kv, hm, rfl⟩)) hg, ?_⟩
      rw [xv_assoc]
    · exact ⟨g, hg, rfl⟩
theorem red_stay {pg : List Int} {kept : List (Int × List Int)} (hk : ∀ kv ∈ kept, SI' pg kv.2) (hm : ∀ kv ∈ kept, IsMin (vec kv.2) kv.1) {z : Int} : ∀ (hs : List Int) {left : List Int}, SI' pg left → z ∉ left → (∀ y ∈ hs, z < y ∧ y ∈ kept.map (·.1)) → z ∉ hs.foldl (redStep kept) left
  | [], _, _, hz, _ => hz
  | y :: hs, left, hl, hz, hh => by
    rw [List.foldl_cons]
    refine red_stay hk hm hs (redStep_in hk hl (hh y (.head _)).2) ?_ fun x hx => hh x (.tail _ hx)
    unfold redStep
    split
    · obtain ⟨kv, hkm, e1, e2⟩ := keptAt_mem (hh y (.head _)).2
      rw [e2]
      intro hzs
      rcases (symd_mem hl.1 (hk kv hkm).1 z).mp hzs with h | h
      · exact hz h.1
      · have h1 := (hm kv hkm).2 z (by simpa [vec] using h.1)
        have h2 := (hh y (.head _)).1
        omega
    · exact hz
theorem red_nohead {pg : List Int} {kept : List (Int × List Int)} (hk : ∀ kv ∈ kept, SI' pg kv.2) (hm : ∀ kv ∈ kept, IsMin (vec kv.2) kv.1) : ∀ (hs : List Int) {left : List Int}, SI' pg left → hs.Pairwise (· < ·) → (∀ y ∈ hs, y ∈ kept.map (·.1)) → ∀ z ∈ hs, z ∉ hs.foldl (redStep kept) left
  | y :: hs, left, hl, hp, hh, z, hz => by
    rw [List.foldl_cons]
    have h1 := redStep_in hk hl (hh y (.head _))
    have hp' := List.pairwise_cons.mp hp
    rcases List.mem_cons.mp hz with rfl | hz
    · refine red_stay hk hm hs h1 ?_ fun x hx => ⟨hp'.1 x hx, hh x (.tail _ hx)⟩
      unfold redStep
      split
      · rename_i hin
        obtain ⟨kv, hkm, e1, e2⟩ := keptAt_mem (hh z (.head _))
        rw [e2]
        intro hzs
        rcases (symd_mem hl.1 (hk kv hkm).1 z).mp hzs with h | h
        · have h3 := (hm kv hkm).1
          rw [e1] at h3
          exact h.2 (by simpa [vec] using h3)
        · exact h.2 hin
      · assumption
    · exact red_nohead hk hm hs h1 hp'.2 (fun x hx => hh x (.tail _ hx)) z hz
/-- rows with heads of their own -/
structure Ech (pg : List Int) (kept : List (Int × List Int)) : Prop where
  inn : ∀ kv ∈ kept, SI' pg kv.2
  min : ∀ kv ∈ kept, IsMin (vec kv.2) kv.1
  nod : (kept.map (·.1)).Nodup
theorem Ech.red {pg : List Int} {kept : List (Int × List Int)} (x : Ech pg kept) {row : List Int} (hr : SI' pg row) :
    (∃ g, SpL (kept.map fun kv => vec kv.2) g ∧ vec (redL row kept) = xv (vec row) g) ∧ (∀ z ∈ kept.map (·.1), z ∉ redL row kept) ∧ SI' pg (redL row kept) := by
  have hs : (srt (kept.map (·.1))).Pairwise (· < ·) := lt_of_nodup (srt_sorted _) ((srt_perm _).nodup_iff.mpr x.nod)
  refine ⟨red_span x.inn _ hr fun z hz => srt_mem.mp hz, fun z hz => red_nohead x.inn x.min _ hr hs (fun y hy => srt_mem.mp hy) z (srt_mem.mpr hz), redL_in hr x.inn⟩
theorem vec_nil : vec [] = zv := by funext z; simp [vec, zv]
theorem vec_zero {xs : List Int} (h : vec xs = zv) : xs = [] := by
  cases xs with
  | nil => rfl
  | cons x xs => have := congrFun h x; simp [vec, zv] at this
theorem Ech.iff {pg : List Int} {kept : List (Int × List Int)} (x : Ech pg kept) {row : List Int} (hr : SI' pg row) : redL row kept = [] ↔ SpL (kept.map fun kv => vec kv.2) (vec row) := by
  obtain ⟨⟨g, hg, e⟩, h2, h3⟩ := x.red hr
  constructor
  · intro h
    rw [h, vec_nil] at e
    have : vec row = g := by
      have h4 := congrArg (fun f => xv f g) e
      simp only [xv_cancel] at h4
      rw [← h4, xv_comm, xv_zero]
    rw [this]; exact hg
  · intro h
    have h4 := SpL.add h hg
    rw [← e] at h4
    rcases span_min kept x.nod x.min _ h4 with h5 | ⟨kv, hkv, h5⟩
    · exact vec_zero h5
    · exact absurd (by simpa [vec] using h5.1) (h2 kv.1 (List.mem_map_of_mem hkv))
theorem min_head {x : Int} {xs : List Int} (h : (x :: xs).Pairwise (· < ·)) : IsMin (vec (x :: xs)) x := by
  refine ⟨by simp [vec], fun z hz => ?_⟩
  have hz' : z ∈ x :: xs := by simpa [vec] using hz
  rcases List.mem_cons.mp hz' with rfl | hz'
  · exact Int.le_refl _
  · exact Int.le_of_lt (head_lt h hz')
theorem ech_keptL {pg : List Int} : ∀ (n : Nat) (rows : List (List Int)), rows.length = n → (∀ row ∈ rows, SI' pg row) → Ech pg (keptL rows) ∧ ∀ f, SpL ((keptL rows).map fun kv => vec kv.2) f ↔ SpL (rows.map vec) f
  | 0, rows, hl, _ => by
    obtain rfl := List.eq_nil_of_length_eq_zero hl
    exact ⟨⟨(fun _ h => nomatch h), (fun _ h => nomatch h), List.nodup_nil⟩, fun f => Iff.rfl⟩
  | n + 1, rows, hl, hr => by
    obtain ⟨rs, row, rfl⟩ : ∃ rs row, rows = rs ++ [row] := by
      have hne : rows ≠ [] := by rintro rfl; simp at hl
      exact ⟨rows.dropLast, rows.getLast hne, (List.dropLast_concat_getLast hne).symm⟩
    have hl' : rs.length = n := by simpa using hl
    obtain ⟨x, hsp⟩ := ech_keptL n rs hl' fun r hr' => hr r (List.mem_append_left _ hr')
    have hrow := hr row (by simp)
    obtain ⟨⟨g, hg, e⟩, h2, h3⟩ := x.red hrow
    rw [keptL_snoc]
    unfold keptStep
    split
    · rename_i e0
      refine ⟨x, fun f => ?_⟩
      have hin := (x.iff hrow).mp e0
      rw [hsp, List.map_append, List.map_cons, List.map_nil, SpL.app]
      constructor
      · exact fun h => .inl h
      · rintro (h | h)
        · exact h
        · have := SpL.add h ((hsp _).mp hin)
          rwa [xv_cancel] at this
    · rename_i y ys e0
      have hy : y ∉ (keptL rs).map (·.1) := fun hm => h2 y hm (by rw [e0]; exact .head _)
      have hst : storedL (keptL rs) y (y :: ys) = keptL rs ++ [(y, y :: ys)] := by
        unfold storedL
        rw [if_neg]
        intro h
        obtain ⟨kv, hkv, ek⟩ := List.any_eq_true.mp h
        exact hy (List.mem_map.mpr ⟨kv, hkv, by simpa using ek⟩)
      rw [hst]
      rw [e0] at e h3
      refine ⟨⟨fun kv hkv => ?_, fun kv hkv => ?_, ?_⟩, fun f => ?_⟩
      · rcases List.mem_append.mp hkv with h | h
        · exact x.inn kv h
        · rw [List.mem_singleton.mp h]; exact h3
      · rcases List.mem_append.mp hkv with h | h
        · exact x.min kv h
        · rw [List.mem_singleton.mp h]; exact min_head h3.1
      · rw [List.map_append, List.nodup_append]
        refine ⟨x.nod, by simp, fun a ha b hb => ?_⟩
        simp at hb
        subst hb
        rintro rfl
        exact hy ha
      · rw [List.map_append, List.map_cons, List.map_nil, SpL.app, List.map_append, List.map_cons, List.map_nil, SpL.app, hsp, hsp]
        have hg' := (hsp g).mp hg
        show SpL (rs.map vec) f ∨ SpL (rs.map vec) (xv f (vec (y :: ys))) ↔ _
        rw [e, ← xv_assoc]
        constructor
        · rintro (h | h)
          · exact .inl h
          · have := SpL.add h hg'
            rw [xv_cancel] at this
            exact .inr this
        · rintro (h | h)
          · exact .inl h
          · exact .inr (SpL.add h hg')
theorem Ech.heads {pg : List Int} {kept : List (Int × List Int)} (x : Ech pg kept) (h : Int) : h ∈ kept.map (·.1) ↔ ∃ f, SpL (kept.map fun kv => vec kv.2) f ∧ IsMin f h := by
  constructor
  · intro hm
    obtain ⟨kv, hkv, rfl⟩ := List.mem_map.mp hm
    exact ⟨vec kv.2, SpL.mem (List.mem_map.mpr ⟨kv, hkv, rfl⟩), x.min kv hkv⟩
  · rintro ⟨f, hf, hmin⟩
    rcases span_min kept x.nod x.min f hf with e | ⟨kv, hkv, h2⟩
    · rw [e] at hmin; simp [IsMin, zv] at hmin
    · have : h = kv.1 := Int.le_antisymm (hmin.2 _ h2.1) (h2.2 _ hmin.1)
      rw [this]; exact List.mem_map_of_mem hkv
end Mine

open PySem PySem.W PyProof.Rows
set_option Elab.async false
set_option linter.unusedSimpArgs false
set_option linter.unusedVariables false
namespace Mine
/-- the stretch of a code -/
def clsOf (z : Int) : Nat :=
  if z < 0 then 12 else if z ≤ 8 then 0 else if z ≤ 9 then 1 else if z ≤ 13 then 2 else if z ≤ 31 then 0 else if z ≤ 32 then 3 else if z ≤ 47 then 4 else if z ≤ 57 then 5 else if z ≤ 64 then 4
  else if z ≤ 70 then 6 else if z ≤ 90 then 7 else if z ≤ 96 then 4 else if z ≤ 102 then 8 else if z ≤ 122 then 9 else if z ≤ 126 then 4 else if z ≤ 127 then 10 else 11
theorem cls_lo {z : Int} (h : z < 0) : clsOf z = 12 := if_pos h
theorem cls_hi {z : Int} (h : 127 < z) : clsOf z = 11 := by
  unfold clsOf
  rw [if_neg (fun q : z < 0 => Int.lt_asymm h (Int.lt_trans q (by decide)))]
  iterate 15 rw [if_neg (fun q => Int.not_lt.mpr (Int.le_trans q (by decide)) h)]
theorem by128 {P : Int → Prop} (mid : ∀ k : Fin 128, P (k.val : Int)) (lo : ∀ z : Int, z < 0 → P z) (hi : ∀ z : Int, 127 < z → P z) (z : Int) : P z := by
  by_cases h0 : z < 0
  · exact lo z h0
  by_cases h1 : 127 < z
  · exact hi z h1
  have := mid ⟨z.toNat, by omega⟩
  rwa [show (((⟨z.toNat, by omega⟩ : Fin 128).val : Nat) : Int) = z from by simp; omega] at this
theorem clsOf_lt : ∀ z : Int, clsOf z < 13 :=
  by128 (by decide +kernel) (fun z h => by rw [cls_lo h]; decide) (fun z h => by rw [cls_hi h]; decide)
theorem cls_rng : ∀ z : Int, (clsOf z = 6 → 65 ≤ z ∧ z ≤ 70) ∧ (clsOf z = 7 → 71 ≤ z ∧ z ≤ 90) ∧ (clsOf z = 8 → 97 ≤ z ∧ z ≤ 102) ∧ (clsOf z = 9 → 103 ≤ z) :=
  by128 (by decide +kernel) (fun z h => by rw [cls_lo h]; exact ⟨nofun, nofun, nofun, nofun⟩) (fun z h => by rw [cls_hi h]; exact ⟨nofun, nofun, nofun, nofun⟩)
def inK (ks : List Nat) (k : Nat) : Bool := decide (k ∈ ks)
def tabs : List (List Nat) := [[5, 6, 7, 8, 9], [6, 7, 8, 9], [0, 1, 2, 3, 4, 5, 6, 7, 8, 9, 10], [1, 3], [0, 1, 2, 10], [0, 1, 2], [5], [4, 5, 6, 7, 8, 9], [8, 9], [11], [3, 4, 5, 6, 7, 8, 9], [4], [1, 2, 3], [6, 7], [5, 6, 8]]
section
variable (z : Int)
theorem fls1 {p : Prop} [Decidable p] {b : Bool} (h : ¬ p) : (decide p && b) = false := by rw [decide_eq_false h]; rfl
theorem fls2 {p : Prop} [Decidable p] {b : Bool} (h : ¬ p) : (b && decide p) = false := by rw [decide_eq_false h, Bool.and_false]
theorem flsc {a : Bool} {c : Int} (h : a = false) (g : c ≠ 127) : (a || c == 127) = false := by rw [h, beq_false_of_ne g]; rfl
theorem any_lo {l : List Int} (hl : ∀ x ∈ l, 0 ≤ x) {z : Int} (h : z < 0) : (l.any fun x => x == z) = false := by
  rw [List.any_eq_false]; intro x hx e
  exact absurd (hl x hx) (by rw [beq_iff_eq.mp e]; exact Int.not_le.mpr h)
theorem any_hi {l : List Int} (hl : ∀ x ∈ l, x ≤ 127) {z : Int} (h : 127 < z) : (l.any fun x => x == z) = false := by
  rw [List.any_eq_false]; intro x hx e
  exact absurd (hl x hx) (by rw [beq_iff_eq.mp e]; exact Int.not_le.mpr h)
theorem nlo {a z : Int} (h : z < 0) (ha : 0 ≤ a) : ¬ a ≤ z := fun g => absurd (Int.le_trans ha g) (Int.not_le.mpr h)
theorem nhi {b z : Int} (h : 127 < z) (hb : b ≤ 127) : ¬ z ≤ b := fun g => absurd (Int.le_trans g hb) (Int.not_le.mpr h)
theorem j_digit : isdigitB z = inK [5] (clsOf z) :=
  by128 (P := fun z => isdigitB z = inK [5] (clsOf z)) (by decide +kernel) (fun z h => by rw [cls_lo h]; exact fls1 (nlo h (by decide))) (fun z h => by rw [cls_hi h]; exact fls2 (nhi h (by decide))) z
theorem j_upper : isupperB z = inK [6, 7] (clsOf z) :=
  by128 (P := fun z => isupperB z = inK [6, 7] (clsOf z)) (by decide +kernel) (fun z h => by rw [cls_lo h]; exact fls1 (nlo h (by decide))) (fun z h => by rw [cls_hi h]; exact fls2 (nhi h (by decide))) z
theorem j_lower : islowerB z = inK [8, 9] (clsOf z) :=
  by128 (P := fun z => islowerB z = inK [8, 9] (clsOf z)) (by decide +kernel) (fun z h => by rw [cls_lo h]; exact fls1 (nlo h (by decide))) (fun z h => by rw [cls_hi h]; exact fls2 (nhi h (by decide))) z
theorem j_ascii : isasciiB z = inK [0, 1, 2, 3, 4, 5, 6, 7, 8, 9, 10] (clsOf z) :=
  by128 (P := fun z => isasciiB z = inK [0, 1, 2, 3, 4, 5, 6, 7, 8, 9, 10] (clsOf z)) (by decide +kernel) (fun z h => by rw [cls_lo h]; exact fls1 (nlo h (by decide))) (fun z h => by rw [cls_hi h]; exact fls2 (nhi h (by decide))) z
theorem j_blank : isblankB z = inK [1, 3] (clsOf z) :=
  by128 (P := fun z => isblankB z = inK [1, 3] (clsOf z)) (by decide +kernel) (fun z h => by rw [cls_lo h]; exact any_lo (by decide) h) (fun z h => by rw [cls_hi h]; exact any_hi (by decide) h) z
theorem j_cntrl : iscntrlB z = inK [0, 1, 2, 10] (clsOf z) :=
  by128 (P := fun z => iscntrlB z = inK [0, 1, 2, 10] (clsOf z)) (by decide +kernel) (fun z h => by rw [cls_lo h]; exact flsc (fls1 (nlo h (by decide))) (Int.ne_of_lt (Int.lt_trans h (by decide)))) (fun z h => by rw [cls_hi h]; exact flsc (fls2 (nhi h (by decide))) (Int.ne_of_gt h)) z
theorem j_ctrl : isctrlB z = inK [0, 1, 2] (clsOf z) :=
  by128 (P := fun z => isctrlB z = inK [0, 1, 2] (clsOf z)) (by decide +kernel) (fun z h => by rw [cls_lo h]; exact fls1 (nlo h (by decide))) (fun z h => by rw [cls_hi h]; exact fls2 (Int.lt_asymm (Int.lt_trans (by decide) h))) z
theorem j_graph : isgraphB z = inK [4, 5, 6, 7, 8, 9] (clsOf z) :=
  by128 (P := fun z => isgraphB z = inK [4, 5, 6, 7, 8, 9] (clsOf z)) (by decide +kernel) (fun z h => by rw [cls_lo h]; exact fls1 (nlo h (by decide))) (fun z h => by rw [cls_hi h]; exact fls2 (nhi h (by decide))) z
theorem j_meta : ismetaB z = inK [11] (clsOf z) :=
  by128 (P := fun z => ismetaB z = inK [11] (clsOf z)) (by decide +kernel) (fun z h => by rw [cls_lo h]; exact decide_eq_false (Int.lt_asymm (Int.lt_trans h (by decide)))) (fun z h => by rw [cls_hi h]; exact decide_eq_true h) z
theorem j_print : isprintB z = inK [3, 4, 5, 6, 7, 8, 9] (clsOf z) :=
  by128 (P := fun z => isprintB z = inK [3, 4, 5, 6, 7, 8, 9] (clsOf z)) (by decide +kernel) (fun z h => by rw [cls_lo h]; exact fls1 (nlo h (by decide))) (fun z h => by rw [cls_hi h]; exact fls2 (nhi h (by decide))) z
theorem j_space : isspaceB z = inK [1, 2, 3] (clsOf z) :=
  by128 (P := fun z => isspaceB z = inK [1, 2, 3] (clsOf z)) (by decide +kernel) (fun z h => by rw [cls_lo h]; exact any_lo (by decide) h) (fun z h => by rw [cls_hi h]; exact any_hi (by decide) h) z
theorem tab_or (a b c : List Nat) (h : ∀ k, k < 13 → (inK a k || inK b k) = inK c k) : (inK a (clsOf z) || inK b (clsOf z)) = inK c (clsOf z) := h _ (clsOf_lt z)
theorem j_alpha : isalphaB z = inK [6, 7, 8, 9] (clsOf z) := by
  unfold isalphaB; rw [j_upper, j_lower]; exact tab_or z _ _ _ (by decide)
theorem j_alnum : isalnumB z = inK [5, 6, 7, 8, 9] (clsOf z) := by
  unfold isalnumB; rw [j_alpha, j_digit]; exact tab_or z _ _ _ (by decide)
theorem j_punct : ispunctB z = inK [4] (clsOf z) := by
  unfold ispunctB; rw [j_graph, j_alnum]
  exact (by decide : ∀ k, k < 13 → (inK [4, 5, 6, 7, 8, 9] k && !inK [5, 6, 7, 8, 9] k) = inK [4] k) _ (clsOf_lt z)
theorem j_hex1 : (decide (65 ≤ z) && decide (z ≤ 70)) = inK [6] (clsOf z) :=
  by128 (P := fun z => (decide (65 ≤ z) && decide (z ≤ 70)) = inK [6] (clsOf z)) (by decide +kernel) (fun z h => by rw [cls_lo h]; exact fls1 (nlo h (by decide))) (fun z h => by rw [cls_hi h]; exact fls2 (nhi h (by decide))) z
theorem j_hex2 : (decide (97 ≤ z) && decide (z ≤ 102)) = inK [8] (clsOf z) :=
  by128 (P := fun z => (decide (97 ≤ z) && decide (z ≤ 102)) = inK [8] (clsOf z)) (by decide +kernel) (fun z h => by rw [cls_lo h]; exact fls1 (nlo h (by decide))) (fun z h => by rw [cls_hi h]; exact fls2 (nhi h (by decide))) z
theorem j_xdigit : isxdigitB z = inK [5, 6, 8] (clsOf z) := by
  unfold isxdigitB; rw [j_digit, j_hex1, j_hex2]
  exact (by decide : ∀ k, k < 13 → ((inK [5] k || inK [6] k) || inK [8] k) = inK [5, 6, 8] k) _ (clsOf_lt z)
end
/-- a set of stretches, on the page -/
def Lf (pg : List Int) (t : Nat → Bool) : Vec := fun z => decide (z ∈ pg) && t (clsOf z)
theorem Lf_congr {pg : List Int} {t u : Nat → Bool} (h : ∀ k, k < 13 → t k = u k) : Lf pg t = Lf pg u := by
  funext z; unfold Lf; rw [h _ (clsOf_lt z)]
theorem Lf_xv {pg : List Int} (t u : Nat → Bool) : xv (Lf pg t) (Lf pg u) = Lf pg fun k => Bool.xor (t k) (u k) := by
  funext z; simp only [xv, Lf]; cases decide (z ∈ pg) <;> simp
theorem vec_filter (pg : List Int) (p : Int → Bool) (ks : List Nat) (h : ∀ z, p z = inK ks (clsOf z)) : vec (pg.filter p) = Lf pg (inK ks) := by
  funext z
  simp only [vec, Lf, List.mem_filter, h z]
  by_cases hz : z ∈ pg <;> simp [hz]
theorem kinds_vec (pg : List Int) : (kindsOf pg).map vec = tabs.map fun ks => Lf pg (inK ks) := by
  unfold kindsOf judges tabs
  simp only [List.map_cons, List.map_nil]
  rw [vec_filter pg _ _ j_alnum, vec_filter pg _ _ j_alpha, vec_filter pg _ _ j_ascii, vec_filter pg _ _ j_blank, vec_filter pg _ _ j_cntrl, vec_filter pg _ _ j_ctrl, vec_filter pg _ _ j_digit, vec_filter pg _ _ j_graph, vec_filter pg _ _ j_lower, vec_filter pg _ _ j_meta,
    vec_filter pg _ _ j_print, vec_filter pg _ _ j_punct, vec_filter pg _ _ j_space, vec_filter pg _ _ j_upper, vec_filter pg _ _ j_xdigit]
/-- no codes below 0, an even number of stretches of letters -/
def Good (t : Nat → Bool) : Prop := t 12 = false ∧ Bool.xor (Bool.xor (t 6) (t 7)) (Bool.xor (t 8) (t 9)) = false
theorem good_tabs : ∀ ks ∈ tabs, Good (inK ks) := by
  intro ks h
  have : ∀ ks ∈ tabs, inK ks 12 = false ∧ Bool.xor (Bool.xor (inK ks 6) (inK ks 7)) (Bool.xor (inK ks 8) (inK ks 9)) = false := by decide
  exact this ks h
theorem Good.xor {t u : Nat → Bool} (x : Good t) (y : Good u) : Good fun k => Bool.xor (t k) (u k) := by
  refine ⟨by simp [x.1, y.1], ?_⟩
  exact (by decide : ∀ a b c d e f g h : Bool, Bool.xor (Bool.xor a b) (Bool.xor c d) = false → Bool.xor (Bool.xor e f) (Bool.xor g h) = false → Bool.xor (Bool.xor (Bool.xor a e) (Bool.xor b f)) (Bool.xor (Bool.xor c g) (Bool.xor d h)) = false) _ _ _ _ _ _ _ _ x.2 y.2
theorem span_good {pg : List Int} : ∀ (ts : List (List Nat)) {f : Vec}, (∀ ks ∈ ts, Good (inK ks)) → SpL (ts.map fun ks => Lf pg (inK ks)) f → ∃ t, Good t ∧ f = Lf pg t
  | [], f, _, h => ⟨fun _ => false, ⟨rfl, rfl⟩, by
    have h' : f = zv := h
    rw [h']; funext z; simp [Lf, zv]⟩
  | ks :: ts, f, hg, h => by
    rcases h with h | h
    · exact span_good ts (fun q hq => hg q (.tail _ hq)) h
    · obtain ⟨t, ht, e⟩ := span_good ts (fun q hq => hg q (.tail _ hq)) h
      refine ⟨_, ht.xor (hg ks (.head _)), ?_⟩
      rw [← Lf_xv, ← e, xv_cancel]
theorem SpL.scale {gs : List Vec} {pg : List Int} {t : Nat → Bool} (b : Bool) (h : SpL gs (Lf pg t)) : SpL gs (Lf pg fun k => t k && b) := by
  cases b with
  | true => simpa using h
  | false =>
    have : Lf pg (fun k => t k && false) = zv := by funext z; simp [Lf, zv]
    rw [this]; exact SpL.zero _
theorem SpL.sum {gs : List Vec} {pg : List Int} {t u : Nat → Bool} (h : SpL gs (Lf pg t)) (h' : SpL gs (Lf pg u)) : SpL gs (Lf pg fun k => Bool.xor (t k) (u k)) := by rw [← Lf_xv]; exact SpL.add h h'
theorem SpL.as {gs : List Vec} {pg : List Int} {t u : Nat → Bool} (h : SpL gs (Lf pg t)) (e : ∀ k, k < 13 → t k = u k) : SpL gs (Lf pg u) := by rw [← Lf_congr e]; exact h
theorem good_span {pg : List Int} {t : Nat → Bool} (ht : Good t) : SpL (tabs.map fun ks => Lf pg (inK ks)) (Lf pg t) := by
  have M : ∀ ks ∈ tabs, SpL (tabs.map fun ks => Lf pg (inK ks)) (Lf pg (inK ks)) := fun ks hk => SpL.mem (List.mem_map.mpr ⟨ks, hk, rfl⟩)
  have e5 := M [5] (by decide)
  have e4 := M [4] (by decide)
  have e11 := M [11] (by decide)
  have e10 : SpL _ (Lf pg (inK [10])) := ((M [0, 1, 2, 10] (by decide)).sum (M [0, 1, 2] (by decide))).as (by decide)
  have e2 : SpL _ (Lf pg (inK [2])) := ((M [1, 3] (by decide)).sum (M [1, 2, 3] (by decide))).as (by decide)
  have e3 : SpL _ (Lf pg (inK [3])) := ((M [3, 4, 5, 6, 7, 8, 9] (by decide)).sum (M [4, 5, 6, 7, 8, 9] (by decide))).as (by decide)
  have e1 : SpL _ (Lf pg (inK [1])) := ((M [1, 3] (by decide)).sum e3).as (by decide)
  have e0 : SpL _ (Lf pg (inK [0])) := ((M [0, 1, 2] (by decide)).sum (e1.sum e2)).as (by decide)
  have e67 := M [6, 7] (by decide)
  have e89 := M [8, 9] (by decide)
  have e68 : SpL _ (Lf pg (inK [6, 8])) := ((M [5, 6, 8] (by decide)).sum e5).as (by decide)
  refine (((((((((((e0.scale (t 0)).sum (e1.scale (t 1))).sum (e2.scale (t 2))).sum (e3.scale (t 3))).sum (e4.scale (t 4))).sum (e5.scale (t 5))).sum (e10.scale (t 10))).sum (e11.scale (t 11))).sum (e67.scale (t 7))).sum (e89.scale (t 9))).sum (e68.scale (Bool.xor (t 6) (t 7)))).as ?_
  intro k hk
  have h12 := ht.1
  have hp := ht.2
  match k, hk with
  | 0, _ => cases t 0 <;> rfl
  | 1, _ => cases t 1 <;> rfl
  | 2, _ => cases t 2 <;> rfl
  | 3, _ => cases t 3 <;> rfl
  | 4, _ => cases t 4 <;> rfl
  | 5, _ => cases t 5 <;> rfl
  | 6, _ => cases t 6 <;> cases t 7 <;> rfl
  | 7, _ => cases t 7 <;> rfl
  | 8, _ =>
    revert hp
    cases t 6 <;> cases t 7 <;> cases t 8 <;> cases t 9 <;> first | (intro _; rfl) | (intro q; exact nomatch q)
  | 9, _ => cases t 9 <;> rfl
  | 10, _ => cases t 10 <;> rfl
  | 11, _ => cases t 11 <;> rfl
  | 12, _ => exact h12.symm
  | n + 13, h => exact absurd h (by omega)
end Mine

open PySem PySem.W PyProof.Rows
set_option Elab.async false
set_option linter.unusedSimpArgs false
set_option linter.unusedVariables false
namespace Mine
theorem stretch_cls : ∀ k, k < 13 → ∀ z ∈ stretchesL.getD k [], clsOf z = k := by decide +kernel
theorem getD_set (P : List (List Int)) (k i : Nat) (v : List Int) (hk : k < P.length) : (P.set k v).getD i [] = if i = k then v else P.getD i [] := by
  simp only [List.getD_eq_getElem?_getD, List.getElem?_set]
  by_cases h : k = i
  · subst h; simp [hk]
  · simp [h, Ne.symm h]
structure P0K (P : List (List Int)) : Prop where
  len : P.length = 13
  nod : ∀ k, (P.getD k []).Nodup
  cls : ∀ k, ∀ z ∈ P.getD k [], clsOf z = k
  one : 103 ∈ P.getD 9 []
theorem flatten_set : ∀ (P : List (List Int)) (k : Nat) (v : List Int), k < P.length → (P.set k v).flatten.length + (P.getD k []).length = P.flatten.length + v.length
  | [], _, _, h => absurd h (Nat.not_lt_zero _)
  | p :: P, 0, v, _ => by simp; omega
  | p :: P, k + 1, v, h => by
    have ih := flatten_set P k v (Nat.lt_of_succ_lt_succ h)
    simp only [List.set_cons_succ, List.flatten_cons, List.length_append, List.getD_cons_succ]
    omega
theorem stepP_ok {P : List (List Int)} (x : P0K P) (n : Int) : P0K (stepP P n) ∧ (stepP P n).flatten.length ≤ P.flatten.length + 1 := by
  have hk := fmod13 n
  have hk13 : (n.fmod 13).toNat < 13 := by omega
  have hsp := stretch_ne _ hk13
  have hsc := stretch_cls _ hk13
  unfold stepP
  generalize hst : stretchesL.getD (n.fmod 13).toNat [] = st at *
  have hj0 := Int.fmod_nonneg_of_pos (n.fdiv 13) (b := (st.length : Int)) (by omega)
  have hjl := Int.fmod_lt_of_pos (n.fdiv 13) (b := (st.length : Int)) (by omega)
  have hj : ((n.fdiv 13).fmod (st.length : Int)).toNat < st.length := by omega
  have hc : st.getD ((n.fdiv 13).fmod (st.length : Int)).toNat 0 ∈ st := by
    rw [List.getD_eq_getElem?_getD, List.getElem?_eq_getElem hj]; exact List.getElem_mem hj
  generalize st.getD ((n.fdiv 13).fmod (st.length : Int)).toNat 0 = c at *
  generalize (n.fmod 13).toNat = k at *
  have hkP : k < P.length := by rw [x.len]; exact hk13
  split
  · exact ⟨x, Nat.le_succ _⟩
  · rename_i hin
    refine ⟨⟨by rw [List.length_set]; exact x.len, fun i => ?_, fun i z hz => ?_, ?_⟩, ?_⟩
    · rw [getD_set _ _ _ _ hkP]
      split
      · rw [List.nodup_append]
        refine ⟨x.nod k, by simp, fun a ha b hb => ?_⟩
        simp at hb; subst hb
        rintro rfl
        exact hin ha
      · exact x.nod i
    · rw [getD_set _ _ _ _ hkP] at hz
      split at hz
      · rename_i e
        rw [e]
        rcases List.mem_append.mp hz with hz | hz
        · exact x.cls k z hz
        · simp at hz; rw [hz]; exact hsc c hc
      · exact x.cls i z hz
    · rw [getD_set _ _ _ _ hkP]
      split
      · rename_i e
        rw [← e]
        exact List.mem_append_left _ x.one
      · exact x.one
    · have := flatten_set P k (P.getD k [] ++ [c]) hkP
      rw [List.length_append, List.length_singleton] at this
      omega
theorem foldP_ok : ∀ (xs : List Int) {P : List (List Int)}, P0K P → P0K (xs.foldl stepP P) ∧ (xs.foldl stepP P).flatten.length ≤ P.flatten.length + xs.length
  | [], _, x => ⟨x, Nat.le_refl _⟩
  | n :: xs, P, x => by
    obtain ⟨h1, h2⟩ := stepP_ok x n
    obtain ⟨h3, h4⟩ := foldP_ok xs h1
    exact ⟨h3, by simp only [List.foldl_cons, List.length_cons]; omega⟩
theorem initP_ok : P0K initP := by
  refine ⟨rfl, fun k => ?_, fun k z hz => ?_, by decide⟩
  · by_cases h : k < 13
    · exact (by decide : ∀ k, k < 13 → (initP.getD k []).Nodup) k h
    · have : initP.getD k [] = [] := by rw [List.getD_eq_getElem?_getD, List.getElem?_eq_none (by show 13 ≤ k; omega)]; rfl
      rw [this]; exact List.nodup_nil
  · by_cases h : k < 13
    · exact (by decide : ∀ k, k < 13 → ∀ z ∈ initP.getD k [], clsOf z = k) k h z hz
    · have : initP.getD k [] = [] := by rw [List.getD_eq_getElem?_getD, List.getElem?_eq_none (by show 13 ≤ k; omega)]; rfl
      rw [this] at hz; cases hz
theorem srt_nil : srt [] = [] := List.eq_nil_of_length_eq_zero ((srt_perm []).length_eq)
theorem getD_map_srt (P : List (List Int)) (k : Nat) : (P.map srt).getD k [] = srt (P.getD k []) := by
  simp only [List.getD_eq_getElem?_getD, List.getElem?_map]
  cases P[k]? with
  | none => exact srt_nil.symm
  | some p => rfl
theorem flatten_srt : ∀ P : List (List Int), (P.map srt).flatten.length = P.flatten.length
  | [] => rfl
  | p :: P => by simp only [List.map_cons, List.flatten_cons, List.length_append, flatten_srt P, (srt_perm p).length_eq]
/-- the parts, as the law has them -/
structure POK (parts : List (List Int)) : Prop where
  len : parts.length = 13
  lt : ∀ k, (parts.getD k []).Pairwise (· < ·)
  cls : ∀ k, ∀ z ∈ parts.getD k [], clsOf z = k
  one : 103 ∈ parts.getD 9 []
  tot : parts.flatten.length ≤ 13
theorem partsL_ok (xs : List Int) : POK (partsL xs) := by
  obtain ⟨h1, h2⟩ := foldP_ok (xs.take 12) initP_ok
  unfold partsL
  refine ⟨by rw [List.length_map]; exact h1.len, fun k => ?_, fun k z hz => ?_, ?_, ?_⟩
  · rw [getD_map_srt]
    exact lt_of_nodup (srt_sorted _) ((srt_perm _).nodup_iff.mpr (h1.nod k))
  · rw [getD_map_srt] at hz
    exact h1.cls k z (srt_mem.mp hz)
  · rw [getD_map_srt]; exact srt_mem.mpr h1.one
  · rw [flatten_srt]
    have : initP.flatten.length = 1 := by decide
    have h3 : (xs.take 12).length ≤ 12 := by rw [List.length_take]; omega
    omega
theorem mem_flatten_iff {parts : List (List Int)} (x : POK parts) (z : Int) : z ∈ parts.flatten ↔ z ∈ parts.getD (clsOf z) [] := by
  constructor
  · intro h
    obtain ⟨p, hp, hz⟩ := List.mem_flatten.mp h
    obtain ⟨i, hi, rfl⟩ := List.getElem_of_mem hp
    have e : parts.getD i [] = parts[i] := by rw [List.getD_eq_getElem?_getD, List.getElem?_eq_getElem hi]; rfl
    rw [← e] at hz
    rw [x.cls i z hz]; exact hz
  · intro h
    rw [List.getD_eq_getElem?_getD] at h
    cases e : parts[clsOf z]? with
    | none => rw [e] at h; cases h
    | some p => rw [e] at h; exact List.mem_flatten.mpr ⟨p, List.mem_of_getElem? e, h⟩
theorem flatten_nodup {parts : List (List Int)} (x : POK parts) : parts.flatten.Nodup := by
  have e : ∀ i (hi : i < parts.length), parts.getD i [] = parts[i] := fun i hi => by rw [List.getD_eq_getElem?_getD, List.getElem?_eq_getElem hi]; rfl
  unfold List.Nodup
  rw [List.pairwise_flatten]
  refine ⟨fun p hp => ?_, ?_⟩
  · obtain ⟨i, hi, rfl⟩ := List.getElem_of_mem hp
    rw [← e i hi]; exact nodup_of_lt (x.lt i)
  · rw [List.pairwise_iff_getElem]
    intro i j hi hj hij a ha b hb eab
    rw [← e i hi] at ha
    rw [← e j hj] at hb
    have h1 := x.cls i a ha
    have h2 := x.cls j b hb
    rw [eab] at h1
    omega
def pageL (xs : List Int) : List Int := srt (partsL xs).flatten
theorem page_iff (xs : List Int) (z : Int) : z ∈ pageL xs ↔ z ∈ (partsL xs).getD (clsOf z) [] := by
  unfold pageL; rw [srt_mem]; exact mem_flatten_iff (partsL_ok xs) z
end Mine

open PySem PySem.W PyProof.Rows
set_option Elab.async false
set_option linter.unusedSimpArgs false
set_option linter.unusedVariables false
namespace Mine
theorem pl_len (xs : List Int) : (partsL xs).length = 13 := (partsL_ok xs).len
theorem pl_flat (xs : List Int) : (partsL xs).flatten.length ≤ 13 := (partsL_ok xs).tot
theorem len_flatten_mem : ∀ {P : List (List Int)} {p : List Int}, p ∈ P → p.length ≤ P.flatten.length
  | q :: P, p, h => by
    simp only [List.flatten_cons, List.length_append]
    rcases List.mem_cons.mp h with rfl | h
    · omega
    · have := len_flatten_mem h; omega
theorem pl_part (xs : List Int) : ∀ p ∈ partsL xs, p.length ≤ 13 := fun p hp => Nat.le_trans (len_flatten_mem hp) (pl_flat xs)
theorem pl_page (xs : List Int) : SI' (pageL xs) (pageL xs) := ⟨lt_of_nodup (srt_sorted _) ((srt_perm _).nodup_iff.mpr (flatten_nodup (partsL_ok xs))), fun _ h => h⟩
theorem mem_103 (xs : List Int) : (103 : Int) ∈ pageL xs := (page_iff xs 103).mpr (partsL_ok xs).one
theorem pl_pos (xs : List Int) : 0 < (pageL xs).length := List.length_pos_of_mem (mem_103 xs)
theorem pl_103 (xs : List Int) : SI' (pageL xs) [103] := ⟨List.pairwise_singleton _ _, fun x hx => by rw [List.mem_singleton.mp hx]; exact mem_103 xs⟩
theorem filter_in {pg : List Int} (h : SI' pg pg) (p : Int → Bool) : SI' pg (pg.filter p) := ⟨h.1.filter _, fun x hx => (List.mem_filter.mp hx).1⟩
theorem pl_kinds (xs : List Int) : ∀ row ∈ kindsOf (pageL xs), SI' (pageL xs) row := fun row hr => by
  unfold kindsOf at hr
  obtain ⟨p, _, rfl⟩ := List.mem_map.mp hr
  exact filter_in (pl_page xs) p
theorem takenL_mem (b : Nat → Bool) : ∀ (k : Nat) (ps : List (List Int)) (z : Int), z ∈ takenL b k ps → z ∈ ps.flatten
  | _, [], _, h => by simp [takenL] at h
  | k, p :: ps, z, h => by
    simp only [takenL, List.mem_append] at h
    rw [List.flatten_cons, List.mem_append]
    rcases h with h | h
    · split at h
      · exact .inl h
      · cases h
    · exact .inr (takenL_mem b _ ps z h)
theorem takenL_sub (b : Nat → Bool) : ∀ (k : Nat) (ps : List (List Int)), (takenL b k ps).Sublist ps.flatten
  | _, [] => List.Sublist.refl _
  | k, p :: ps => by
    simp only [takenL, List.flatten_cons]
    refine List.Sublist.append ?_ (takenL_sub b (k + 1) ps)
    split
    · exact List.Sublist.refl _
    · exact List.nil_sublist _
theorem pl_wish (xs : List Int) (n : Int) : SI' (pageL xs) (wishL n (partsL xs) (pageL xs)) := by
  unfold wishL
  split
  · refine ⟨lt_of_nodup (srt_sorted _) ((srt_perm _).nodup_iff.mpr ((takenL_sub _ _ _).nodup (flatten_nodup (partsL_ok xs)))), fun x hx => ?_⟩
    unfold pageL
    exact srt_mem.mpr (takenL_mem _ _ _ _ (srt_mem.mp hx))
  · exact filter_in (pl_page xs) _
def wishesL (xs : List Int) : List (List Int) := pageL xs :: [103] :: (xs.take 4).map fun n => wishL (n.fmod 106496) (partsL xs) (pageL xs)
theorem pl_in (xs : List Int) : ∀ wish ∈ wishesL xs, SI' (pageL xs) wish := by
  intro wish h
  unfold wishesL at h
  rcases List.mem_cons.mp h with rfl | h
  · exact pl_page xs
  rcases List.mem_cons.mp h with rfl | h
  · exact pl_103 xs
  · obtain ⟨n, _, rfl⟩ := List.mem_map.mp h
    exact pl_wish xs _
theorem span_iff (xs : List Int) (f : Vec) : SpL ((kindsOf (pageL xs)).map vec) f ↔ ∃ t, Good t ∧ f = Lf (pageL xs) t := by
  rw [kinds_vec]
  constructor
  · exact span_good tabs good_tabs
  · rintro ⟨t, ht, rfl⟩; exact good_span ht
theorem red_iff (xs : List Int) {wish : List Int} (hw : SI' (pageL xs) wish) : redL wish (keptL (kindsOf (pageL xs))) = [] ↔ ∃ t, Good t ∧ vec wish = Lf (pageL xs) t := by
  obtain ⟨x, hsp⟩ := ech_keptL (pg := pageL xs) _ (kindsOf (pageL xs)) rfl (pl_kinds xs)
  rw [x.iff hw, hsp, span_iff]
theorem taken_getD (wish : List Int) (parts : List (List Int)) (k : Nat) : (takenOf wish parts).getD k [] = (parts.getD k []).filter fun c => decide (c ∈ wish) := by
  unfold takenOf
  simp only [List.getD_eq_getElem?_getD, List.getElem?_map]
  cases parts[k]? with
  | none => rfl
  | some p => rfl
theorem list13 {l : List (List Int)} (h : l.length = 13) : l = (List.range 13).map fun k => l.getD k [] := by
  refine List.ext_getElem (by rw [List.length_map, List.length_range, h]) fun i h1 h2 => ?_
  rw [List.getElem_map, List.getElem_range, List.getD_eq_getElem?_getD, List.getElem?_eq_getElem h1]
  rfl
theorem slice4 {l : List (List Int)} (h : l.length = 13) : (l.drop 6).take 4 = [l.getD 6 [], l.getD 7 [], l.getD 8 [], l.getD 9 []] :=
  congrArg (fun q => (List.drop 6 q).take 4) (list13 h)
theorem take12 {l : List (List Int)} (h : l.length = 13) : l.take 12 = (List.range 12).map fun k => l.getD k [] :=
  congrArg (fun q => List.take 12 q) (list13 h)
theorem filt1 (a : List Int) (l : List (List Int)) : ((a :: l).filter fun p => decide (p ≠ [])).length = (if decide (a ≠ []) = true then 1 else 0) + (l.filter fun p => decide (p ≠ [])).length := by
  by_cases h : a ≠ []
  · rw [List.filter_cons, if_pos (decide_eq_true h), if_pos (decide_eq_true h), List.length_cons, Nat.add_comm]
  · rw [List.filter_cons, if_neg (fun q => h (of_decide_eq_true q)), if_neg (fun q => h (of_decide_eq_true q)), Nat.zero_add]
theorem count4 (a b c d : List Int) : (([a, b, c, d].filter fun p => decide (p ≠ [])).length % 2 == 0) = !(Bool.xor (Bool.xor (decide (a ≠ [])) (decide (b ≠ []))) (Bool.xor (decide (c ≠ [])) (decide (d ≠ [])))) := by
  rw [filt1, filt1, filt1, filt1]
  generalize decide (a ≠ []) = a
  generalize decide (b ≠ []) = b
  generalize decide (c ≠ []) = c
  generalize decide (d ≠ []) = d
  exact (by decide : ∀ a b c d : Bool, (((if a = true then 1 else 0) + ((if b = true then 1 else 0) + ((if c = true then 1 else 0) + ((if d = true then 1 else 0) + 0)))) % 2 == 0) = !(Bool.xor (Bool.xor a b) (Bool.xor c d))) a b c d
/-- what is in reach, in words of stretches -/
theorem reach_iff (xs : List Int) {wish : List Int} (hw : SI' (pageL xs) wish) : reachL wish (partsL xs) = true ↔ ∃ t, Good t ∧ vec wish = Lf (pageL xs) t := by
  have x := partsL_ok xs
  have hpi := page_iff xs
  have hp : ∀ k, ∀ c ∈ (partsL xs).getD k [], c ∈ pageL xs ∧ clsOf c = k := fun k c hc => by
    have e := x.cls k c hc
    exact ⟨(hpi c).mpr (by rw [e]; exact hc), e⟩
  have hwp : ∀ z, z ∈ wish → z ∈ (partsL xs).getD (clsOf z) [] := fun z hz => (hpi z).mp (hw.2 z hz)
  have htl : (takenOf wish (partsL xs)).length = 13 := by unfold takenOf; rw [List.length_map]; exact x.len
  have hsl := slice4 x.len
  have hst := slice4 htl
  have htk := taken_getD wish (partsL xs)
  generalize hP : partsL xs = parts at *
  generalize hG : pageL xs = pg at *
  unfold reachL
  constructor
  · intro h
    split at h
    · cases h
    rename_i hnb
    have hnb' : ∀ k, k < 13 → ¬ badAt wish parts k := fun k hk hb => hnb (any_bad hk hb)
    have full : ∀ k, k < 13 → (takenOf wish parts).getD k [] ≠ [] → k ≠ 12 ∧ (takenOf wish parts).getD k [] = parts.getD k [] := fun k hk hne => by
      refine ⟨fun e => hnb' k hk ⟨hne, .inl e⟩, ?_⟩
      cases Decidable.em ((takenOf wish parts).getD k [] = parts.getD k []) with
      | inl e => exact e
      | inr e => exact absurd ⟨hne, .inr e⟩ (hnb' k hk)
    -- a good choice of stretches
    obtain ⟨t, ht, hag⟩ : ∃ t, Good t ∧ ∀ k, k < 13 → parts.getD k [] ≠ [] → t k = decide ((takenOf wish parts).getD k [] ≠ []) := by
      have h12 : (takenOf wish parts).getD 12 [] = [] := by
        cases Decidable.em ((takenOf wish parts).getD 12 [] = []) with
        | inl e => exact e
        | inr e => exact absurd rfl (full 12 (by decide) e).1
      by_cases hin : [] ∈ (parts.drop 6).take 4
      · rw [hsl] at hin
        obtain ⟨j, hj, hje⟩ : ∃ j, (j = 6 ∨ j = 7 ∨ j = 8 ∨ j = 9) ∧ parts.getD j [] = [] := by
          simp only [List.mem_cons, List.not_mem_nil, or_false] at hin
          rcases hin with h | h | h | h
          · exact ⟨6, .inl rfl, h.symm⟩
          · exact ⟨7, .inr (.inl rfl), h.symm⟩
          · exact ⟨8, .inr (.inr (.inl rfl)), h.symm⟩
          · exact ⟨9, .inr (.inr (.inr rfl)), h.symm⟩
        have hjt : decide ((takenOf wish parts).getD j [] ≠ []) = false := by rw [htk, hje]; rfl
        generalize hT : (fun k => decide ((takenOf wish parts).getD k [] ≠ [])) = T
        have hT' : ∀ k, decide ((takenOf wish parts).getD k [] ≠ []) = T k := fun k => congrFun hT k
        have hT12 : T 12 = false := by rw [← hT', h12]; rfl
        rw [hT'] at hjt
        refine ⟨fun k => if k = j then Bool.xor (Bool.xor (T 6) (T 7)) (Bool.xor (T 8) (T 9)) else T k, ⟨?_, ?_⟩, fun k hk hne => ?_⟩
        · dsimp only
          rw [if_neg (by omega)]; exact hT12
        · rcases hj with rfl | rfl | rfl | rfl
          · show Bool.xor (Bool.xor (Bool.xor (Bool.xor (T 6) (T 7)) (Bool.xor (T 8) (T 9))) (T 7)) (Bool.xor (T 8) (T 9)) = false
            exact (by decide : ∀ a b c d : Bool, a = false → Bool.xor (Bool.xor (Bool.xor (Bool.xor a b) (Bool.xor c d)) b) (Bool.xor c d) = false) _ _ _ _ hjt
          · show Bool.xor (Bool.xor (T 6) (Bool.xor (Bool.xor (T 6) (T 7)) (Bool.xor (T 8) (T 9)))) (Bool.xor (T 8) (T 9)) = false
            exact (by decide : ∀ a b c d : Bool, b = false → Bool.xor (Bool.xor a (Bool.xor (Bool.xor a b) (Bool.xor c d))) (Bool.xor c d) = false) _ _ _ _ hjt
          · show Bool.xor (Bool.xor (T 6) (T 7)) (Bool.xor (Bool.xor (Bool.xor (T 6) (T 7)) (Bool.xor (T 8) (T 9))) (T 9)) = false
            exact (by decide : ∀ a b c d : Bool, c = false → Bool.xor (Bool.xor a b) (Bool.xor (Bool.xor (Bool.xor a b) (Bool.xor c d)) d) = false) _ _ _ _ hjt
          · show Bool.xor (Bool.xor (T 6) (T 7)) (Bool.xor (T 8) (Bool.xor (Bool.xor (T 6) (T 7)) (Bool.xor (T 8) (T 9)))) = false
            exact (by decide : ∀ a b c d : Bool, d = false → Bool.xor (Bool.xor a b) (Bool.xor c (Bool.xor (Bool.xor a b) (Bool.xor c d))) = false) _ _ _ _ hjt
        · dsimp only
          rw [if_neg (fun e => hne (by rw [e]; exact hje)), hT']
      · rw [decide_eq_false hin, Bool.false_or, hst, count4] at h
        exact ⟨fun k => decide ((takenOf wish parts).getD k [] ≠ []), ⟨by show decide ((takenOf wish parts).getD 12 [] ≠ []) = false; rw [h12]; rfl, by simpa using h⟩, fun _ _ _ => rfl⟩
    refine ⟨t, ht, ?_⟩
    funext z
    simp only [vec, Lf]
    by_cases hz : z ∈ wish
    · have hzp := hwp z hz
      have hne : parts.getD (clsOf z) [] ≠ [] := fun e => by rw [e] at hzp; cases hzp
      rw [hag _ (clsOf_lt z) hne]
      have : (takenOf wish parts).getD (clsOf z) [] ≠ [] := fun e => by
        rw [htk] at e
        have h3 : z ∈ (parts.getD (clsOf z) []).filter (fun c => decide (c ∈ wish)) := List.mem_filter.mpr ⟨hzp, by simpa using hz⟩
        rw [e] at h3; cases h3
      rw [decide_eq_true hz, decide_eq_true (hw.2 z hz), decide_eq_true this]; rfl
    · by_cases hzg : z ∈ pg
      · have hzp := (hpi z).mp hzg
        have hne : parts.getD (clsOf z) [] ≠ [] := fun e => by rw [e] at hzp; cases hzp
        rw [hag _ (clsOf_lt z) hne]
        have : (takenOf wish parts).getD (clsOf z) [] = [] := by
          cases Decidable.em ((takenOf wish parts).getD (clsOf z) [] = []) with
          | inl e => exact e
          | inr e =>
            have h3 := (full _ (clsOf_lt z) e).2
            rw [← h3, htk] at hzp
            have := (List.mem_filter.mp hzp).2
            exact absurd (by simpa using this) hz
        rw [decide_eq_false hz, this]; simp
      · simp [hz, hzg]
  · rintro ⟨t, ht, e⟩
    have hmem : ∀ k, ∀ c ∈ parts.getD k [], decide (c ∈ wish) = t k := fun k c hc => by
      have h1 := congrFun e c
      obtain ⟨h2, h3⟩ := hp k c hc
      simp only [vec, Lf] at h1
      rw [h1, h3]; simp [h2]
    have htt : ∀ k, (takenOf wish parts).getD k [] = if t k then parts.getD k [] else [] := fun k => by
      rw [htk]
      split
      · rename_i hk
        exact List.filter_eq_self.mpr fun c hc => by rw [hmem k c hc, hk]
      · rename_i hk
        refine List.filter_eq_nil_iff.mpr fun c hc => ?_
        rw [hmem k c hc]; exact hk
    have hnb : ∀ k, k < 13 → ¬ badAt wish parts k := fun k hk ⟨h1, h2⟩ => by
      rw [htt k] at h1 h2
      cases htk' : t k with
      | false => rw [htk'] at h1; exact h1 rfl
      | true =>
        rw [htk'] at h2
        rcases h2 with rfl | h2
        · rw [ht.1] at htk'; cases htk'
        · exact h2 rfl
    rw [not_any_bad hnb, if_neg (by decide)]
    by_cases hin : [] ∈ (parts.drop 6).take 4
    · simp [hin]
    · rw [decide_eq_false hin, Bool.false_or, hst, count4]
      rw [hsl] at hin
      simp only [List.mem_cons, List.not_mem_nil, or_false, not_or] at hin
      have hd : ∀ k, parts.getD k [] ≠ [] → decide ((takenOf wish parts).getD k [] ≠ []) = t k := fun k hk => by
        rw [htt k]
        cases t k with
        | false => rfl
        | true => simpa using hk
      rw [hd 6 (Ne.symm hin.1), hd 7 (Ne.symm hin.2.1), hd 8 (Ne.symm hin.2.2.1), hd 9 (Ne.symm hin.2.2.2), ht.2]
      rfl
theorem pl_told (xs : List Int) : ∀ wish ∈ wishesL xs, decide (redL wish (keptL (kindsOf (pageL xs))) = []) = reachL wish (partsL xs) := fun wish h => by
  have hw := pl_in xs wish h
  rw [Bool.eq_iff_iff, decide_eq_true_iff, red_iff xs hw, reach_iff xs hw]
end Mine

open PySem PySem.W PyProof.Rows
set_option Elab.async false
set_option linter.unusedSimpArgs false
set_option linter.unusedVariables false
namespace Mine
def hdk (parts : List (List Int)) (k : Nat) : Int := (parts.getD k []).headD 0
theorem hdk_mem {parts : List (List Int)} {k : Nat} (h : parts.getD k [] ≠ []) : hdk parts k ∈ parts.getD k [] := by
  unfold hdk
  cases e : parts.getD k [] with
  | nil => exact absurd e h
  | cons x xs => exact .head _
theorem hdk_min {parts : List (List Int)} (x : POK parts) {k : Nat} {z : Int} (h : z ∈ parts.getD k []) : hdk parts k ≤ z := by
  unfold hdk
  have hl := x.lt k
  cases e : parts.getD k [] with
  | nil => rw [e] at h; cases h
  | cons y ys =>
    rw [e] at h hl
    rcases List.mem_cons.mp h with rfl | h
    · exact Int.le_refl _
    · exact Int.le_of_lt (head_lt hl h)
theorem Lf_true {pg : List Int} {t : Nat → Bool} {z : Int} : Lf pg t z = true ↔ z ∈ pg ∧ t (clsOf z) = true := by unfold Lf; simp
def evenB (k j : Nat) : Bool := Bool.xor (Bool.xor (Bool.xor (decide (6 = k)) (true && decide (6 = j))) (Bool.xor (decide (7 = k)) (true && decide (7 = j)))) (Bool.xor (Bool.xor (decide (8 = k)) (true && decide (8 = j))) (Bool.xor (decide (9 = k)) (true && decide (9 = j))))
theorem even2 {k j : Nat} (hk : 6 ≤ k ∧ k ≤ 9) (hj : 6 ≤ j ∧ j ≤ 9) (h : j ≠ k) : evenB k j = false := by
  have q : ∀ a b : Fin 10, 6 ≤ a.val → 6 ≤ b.val → b ≠ a → evenB a.val b.val = false := by decide
  exact q ⟨k, Nat.lt_succ_of_le hk.2⟩ ⟨j, Nat.lt_succ_of_le hj.2⟩ hk.1 hj.1 fun e => h (congrArg Fin.val e)
theorem even0 : ∀ k : Nat, k < 12 → ¬ (6 ≤ k ∧ k ≤ 9) → ¬ 6 = k ∧ ¬ 7 = k ∧ ¬ 8 = k ∧ ¬ 9 = k := by decide
theorem ne12 {k : Nat} (h : 6 ≤ k ∧ k ≤ 9) : ¬ 12 = k := by omega
theorem min_of (xs : List Int) {k j : Nat} (hk : k < 12) (hne : (partsL xs).getD k [] ≠ []) (hlet : 6 ≤ k ∧ k ≤ 9 → (6 ≤ j ∧ j ≤ 9) ∧ j ≠ k ∧ ∀ z ∈ (partsL xs).getD j [], hdk (partsL xs) k ≤ z) :
    ∃ t, Good t ∧ IsMin (Lf (pageL xs) t) (hdk (partsL xs) k) := by
  have x := partsL_ok xs
  have hm := hdk_mem hne
  have hc := x.cls k _ hm
  refine ⟨fun i => Bool.xor (decide (i = k)) (decide (6 ≤ k ∧ k ≤ 9) && decide (i = j)), ⟨?_, ?_⟩, ?_, fun z hz => ?_⟩
  · dsimp only
    rw [decide_eq_false (Nat.ne_of_gt hk)]
    by_cases hl : 6 ≤ k ∧ k ≤ 9
    · have := (hlet hl).1
      rw [decide_eq_false (ne12 this)]; simp
    · rw [decide_eq_false hl]; rfl
  · dsimp only
    by_cases hl : 6 ≤ k ∧ k ≤ 9
    · obtain ⟨h1, h2, _⟩ := hlet hl
      rw [decide_eq_true hl]
      exact even2 hl h1 h2
    · obtain ⟨q6, q7, q8, q9⟩ := even0 k hk hl
      rw [decide_eq_false hl, decide_eq_false q6, decide_eq_false q7, decide_eq_false q8, decide_eq_false q9]
      rfl
  · refine Lf_true.mpr ⟨(page_iff xs _).mpr (by rw [hc]; exact hm), ?_⟩
    rw [hc]
    by_cases hl : 6 ≤ k ∧ k ≤ 9
    · have h2 := (hlet hl).2.1
      rw [decide_eq_true rfl, decide_eq_false (Ne.symm h2)]; simp
    · rw [decide_eq_true rfl, decide_eq_false hl]; rfl
  · obtain ⟨h1, h2⟩ := Lf_true.mp hz
    have hzp := (page_iff xs z).mp h1
    by_cases e : clsOf z = k
    · rw [e] at hzp; exact hdk_min x hzp
    · rw [decide_eq_false e] at h2
      by_cases hl : 6 ≤ k ∧ k ≤ 9
      · rw [decide_eq_true hl] at h2
        have e2 : clsOf z = j := by simpa using h2
        rw [e2] at hzp
        exact (hlet hl).2.2 z hzp
      · rw [decide_eq_false hl] at h2; cases h2
theorem filter_ne_len {a : Nat} : ∀ {l : List Nat}, l.Nodup → a ∈ l → (l.filter fun k => decide (k ≠ a)).length + 1 = l.length
  | b :: l, hn, h => by
    rw [List.nodup_cons] at hn
    by_cases e : b = a
    · subst e
      have : l.filter (fun k => decide (k ≠ b)) = l := List.filter_eq_self.mpr fun k hk => by
        simp; rintro rfl; exact hn.1 hk
      rw [List.filter_cons_of_neg (by simp), this, List.length_cons]
    · have hm : a ∈ l := by
        rcases List.mem_cons.mp h with rfl | h
        · exact absurd rfl e
        · exact h
      rw [List.filter_cons_of_pos (by simpa using e), List.length_cons, List.length_cons]
      have := filter_ne_len hn.2 hm
      omega
theorem len_of_same {xs ys : List Int} (h1 : xs.Nodup) (h2 : ys.Nodup) (h : ∀ z, z ∈ xs ↔ z ∈ ys) : xs.length = ys.length :=
  Nat.le_antisymm (nodup_sub_length h1 fun z hz => (h z).mp hz) (nodup_sub_length h2 fun z hz => (h z).mpr hz)
theorem map_hdk_nodup (xs : List Int) : ∀ {l : List Nat}, l.Nodup → (∀ k ∈ l, (partsL xs).getD k [] ≠ []) → (l.map (hdk (partsL xs))).Nodup
  | [], _, _ => List.nodup_nil
  | k :: l, hn, h => by
    rw [List.nodup_cons] at hn
    rw [List.map_cons, List.nodup_cons]
    refine ⟨fun hm => ?_, map_hdk_nodup xs hn.2 fun i hi => h i (.tail _ hi)⟩
    obtain ⟨i, hi, e⟩ := List.mem_map.mp hm
    have x := partsL_ok xs
    have h1 := x.cls k _ (hdk_mem (h k (.head _)))
    have h2 := x.cls i _ (hdk_mem (h i (.tail _ hi)))
    rw [e, h1] at h2
    rw [h2] at hn
    exact hn.1 hi
theorem heads_of (xs : List Int) {t : Nat → Bool} {h : Int} (ht : Good t) (hm : IsMin (Lf (pageL xs) t) h) : ∃ k, k < 12 ∧ (partsL xs).getD k [] ≠ [] ∧ h = hdk (partsL xs) k ∧ t k = true ∧ ∀ i, (partsL xs).getD i [] ≠ [] → t i = true → h ≤ hdk (partsL xs) i := by
  have x := partsL_ok xs
  obtain ⟨h1, h2⟩ := hm
  obtain ⟨hp, hk⟩ := Lf_true.mp h1
  have hzp := (page_iff xs h).mp hp
  have hne : (partsL xs).getD (clsOf h) [] ≠ [] := fun e => by rw [e] at hzp; cases hzp
  have all : ∀ i, (partsL xs).getD i [] ≠ [] → t i = true → h ≤ hdk (partsL xs) i := fun i hi hti => by
    have hmi := hdk_mem hi
    have hci := x.cls i _ hmi
    exact h2 _ (Lf_true.mpr ⟨(page_iff xs _).mpr (by rw [hci]; exact hmi), by rw [hci]; exact hti⟩)
  have hlt := clsOf_lt h
  refine ⟨clsOf h, ?_, hne, Int.le_antisymm (all _ hne hk) (hdk_min x hzp), hk, all⟩
  have : clsOf h ≠ 12 := fun e => by rw [e, ht.1] at hk; cases hk
  omega
theorem k678 {k : Nat} (h : 6 ≤ k ∧ k ≤ 9) (h9 : k ≠ 9) : k = 6 ∨ k = 7 ∨ k = 8 := by omega
theorem sub_last {a b : Nat} (h : a + 1 = b) : (a : Int) = (b : Int) - 1 := by omega
theorem pl_count (xs : List Int) : ((keptL (kindsOf (pageL xs))).length : Int) = if [] ∈ ((partsL xs).drop 6).take 4 then ((((partsL xs).take 12).filter fun p => decide (p ≠ [])).length : Int) else ((((partsL xs).take 12).filter fun p => decide (p ≠ [])).length : Int) - 1 := by
  have x := partsL_ok xs
  obtain ⟨ec, hsp⟩ := ech_keptL (pg := pageL xs) _ (kindsOf (pageL xs)) rfl (pl_kinds xs)
  have hH : ∀ h, h ∈ (keptL (kindsOf (pageL xs))).map (·.1) ↔ ∃ t, Good t ∧ IsMin (Lf (pageL xs) t) h := fun h => by
    rw [ec.heads]
    constructor
    · rintro ⟨f, hf, hm⟩
      obtain ⟨t, ht, rfl⟩ := (span_iff xs f).mp ((hsp f).mp hf)
      exact ⟨t, ht, hm⟩
    · rintro ⟨t, ht, hm⟩
      exact ⟨_, (hsp _).mpr ((span_iff xs _).mpr ⟨t, ht, rfl⟩), hm⟩
  have hmet : (((partsL xs).take 12).filter fun p => decide (p ≠ [])).length = ((List.range 12).filter fun k => decide ((partsL xs).getD k [] ≠ [])).length := by
    rw [take12 x.len, List.filter_map, List.length_map]; rfl
  rw [hmet, slice4 x.len]
  generalize hS : ((List.range 12).filter fun k => decide ((partsL xs).getD k [] ≠ [])) = S
  have hSm : ∀ k, k ∈ S ↔ k < 12 ∧ (partsL xs).getD k [] ≠ [] := fun k => by rw [← hS, List.mem_filter, List.mem_range]; simp
  have hSn : S.Nodup := by rw [← hS]; exact List.nodup_range.filter _
  have hlen : (keptL (kindsOf (pageL xs))).length = ((keptL (kindsOf (pageL xs))).map (·.1)).length := (List.length_map ..).symm
  rw [hlen]
  have hletters : ∀ z, ∀ k, z ∈ (partsL xs).getD k [] → clsOf z = k := fun z k hz => x.cls k z hz
  by_cases hin : [] ∈ [(partsL xs).getD 6 [], (partsL xs).getD 7 [], (partsL xs).getD 8 [], (partsL xs).getD 9 []]
  · rw [if_pos hin]
    obtain ⟨j, hj, hje⟩ : ∃ j, (6 ≤ j ∧ j ≤ 9) ∧ (partsL xs).getD j [] = [] := by
      simp only [List.mem_cons, List.not_mem_nil, or_false] at hin
      rcases hin with h | h | h | h
      · exact ⟨6, by decide, h.symm⟩
      · exact ⟨7, by decide, h.symm⟩
      · exact ⟨8, by decide, h.symm⟩
      · exact ⟨9, by decide, h.symm⟩
    have := len_of_same (xs := (keptL (kindsOf (pageL xs))).map (·.1)) (ys := S.map (hdk (partsL xs))) ec.nod (map_hdk_nodup xs hSn fun k hk => ((hSm k).mp hk).2) fun h => by
      rw [hH, List.mem_map]
      constructor
      · rintro ⟨t, ht, hm⟩
        obtain ⟨k, hk, hne, rfl, _⟩ := heads_of xs ht hm
        exact ⟨k, (hSm k).mpr ⟨hk, hne⟩, rfl⟩
      · rintro ⟨k, hk, rfl⟩
        obtain ⟨hk1, hk2⟩ := (hSm k).mp hk
        refine min_of xs (j := j) hk1 hk2 fun _ => ⟨hj, fun e => hk2 (by rw [← e]; exact hje), fun z hz => ?_⟩
        rw [hje] at hz; cases hz
    rw [this, List.length_map]
  · rw [if_neg hin]
    simp only [List.mem_cons, List.not_mem_nil, or_false, not_or] at hin
    have hne6 : (partsL xs).getD 6 [] ≠ [] := Ne.symm hin.1
    have hne7 : (partsL xs).getD 7 [] ≠ [] := Ne.symm hin.2.1
    have hne8 : (partsL xs).getD 8 [] ≠ [] := Ne.symm hin.2.2.1
    have hne9 : (partsL xs).getD 9 [] ≠ [] := Ne.symm hin.2.2.2
    have bound : ∀ k, ∀ z ∈ (partsL xs).getD k [], (k = 6 → 65 ≤ z ∧ z ≤ 70) ∧ (k = 7 → 71 ≤ z ∧ z ≤ 90) ∧ (k = 8 → 97 ≤ z ∧ z ≤ 102) ∧ (k = 9 → 103 ≤ z) := fun k z hz => by
      have e := x.cls k z hz
      subst e
      exact cls_rng z
    have := len_of_same (xs := (keptL (kindsOf (pageL xs))).map (·.1)) (ys := (S.filter fun k => decide (k ≠ 9)).map (hdk (partsL xs))) ec.nod (map_hdk_nodup xs (hSn.filter _) fun k hk => ((hSm k).mp (List.mem_filter.mp hk).1).2) fun h => by
      rw [hH, List.mem_map]
      constructor
      · rintro ⟨t, ht, hm⟩
        obtain ⟨k, hk, hne, rfl, htk, hall⟩ := heads_of xs ht hm
        refine ⟨k, List.mem_filter.mpr ⟨(hSm k).mpr ⟨hk, hne⟩, ?_⟩, rfl⟩
        refine decide_eq_true fun e => ?_
        subst e
        have h9 := (bound 9 _ (hdk_mem hne9)).2.2.2 rfl
        have c6 : t 6 = false := by
          cases h6 : t 6 with
          | false => rfl
          | true => have h1 := hall 6 hne6 h6; have h2 := (bound 6 _ (hdk_mem hne6)).1 rfl; exact absurd (Int.le_trans h9 (Int.le_trans h1 h2.2)) (by decide)
        have c7 : t 7 = false := by
          cases h7 : t 7 with
          | false => rfl
          | true => have h1 := hall 7 hne7 h7; have h2 := (bound 7 _ (hdk_mem hne7)).2.1 rfl; exact absurd (Int.le_trans h9 (Int.le_trans h1 h2.2)) (by decide)
        have c8 : t 8 = false := by
          cases h8 : t 8 with
          | false => rfl
          | true => have h1 := hall 8 hne8 h8; have h2 := (bound 8 _ (hdk_mem hne8)).2.2.1 rfl; exact absurd (Int.le_trans h9 (Int.le_trans h1 h2.2)) (by decide)
        have hp := ht.2
        rw [c6, c7, c8, htk] at hp
        cases hp
      · rintro ⟨k, hk, rfl⟩
        obtain ⟨hk0, hk9⟩ := List.mem_filter.mp hk
        have hk9' : k ≠ 9 := by simpa using hk9
        obtain ⟨hk1, hk2⟩ := (hSm k).mp hk0
        have bk := bound k _ (hdk_mem hk2)
        refine min_of xs (j := k + 1) hk1 hk2 fun hl => ?_
        rcases k678 hl hk9' with rfl | rfl | rfl
        · exact ⟨by decide, by decide, fun z hz => Int.le_trans (bk.1 rfl).2 (Int.le_trans (by decide) ((bound 7 z hz).2.1 rfl).1)⟩
        · exact ⟨by decide, by decide, fun z hz => Int.le_trans (bk.2.1 rfl).2 (Int.le_trans (by decide) ((bound 8 z hz).2.2.1 rfl).1)⟩
        · exact ⟨by decide, by decide, fun z hz => Int.le_trans (bk.2.2.1 rfl).2 (Int.le_trans (by decide) ((bound 9 z hz).2.2.2 rfl))⟩
    have h9S : 9 ∈ S := (hSm 9).mpr ⟨by decide, hne9⟩
    have hf := filter_ne_len hSn h9S
    rw [this, List.length_map]
    exact sub_last hf
end Mine

open PySem PySem.W PyProof.Rows
set_option Elab.async false
set_option linter.unusedSimpArgs false
namespace Mine
theorem all_flat {h : Heap} : ∀ {vs : List Value} {xss : List (List Int)}, AllInts h vs xss → ∃ uss : List (List Value), Paired (fun v us => ∃ b, v = .ref b ∧ h.IsList b (List.toArray us)) vs uss ∧ IntsAre uss.flatten xss.flatten
  | _, _, .nil => ⟨[], .nil, .nil⟩
  | _, _, .cons a r => by
    obtain ⟨b, us, rfl, hl, hi⟩ := a
    obtain ⟨uss, h1, h2⟩ := all_flat r
    exact ⟨us :: uss, .cons ⟨b, rfl, hl⟩ h1, by simpa using hi.append h2⟩
theorem wish_all {h' : Heap} (f : Int → List Int) {vs : List Value} {xs : List Int} {ps : List (Addr × Obj)} (a : IntsAre vs xs) (q : Paired (fun v (p : Addr × Obj) => ∃ n t, v = .int n t ∧ PartIs (0, p.2) (f n)) vs ps) (hp : ∀ p ∈ ps, h'.get? p.1 = some p.2) : AllInts h' (ps.map fun p : Addr × Obj => Value.ref p.1) (xs.map f) := by
  induction a generalizing ps with
  | nil => cases q; exact .nil
  | cons n t _ ih =>
    cases q with
    | @cons _ p _ ps b q =>
      obtain ⟨n', t', e0, us, e, e1, hi⟩ := b
      cases e0
      have e1' : p.2 = lobj us e := e1
      exact .cons ⟨p.1, us, rfl, ⟨_, hp p (.head _), by rw [e1'], e, by rw [e1']⟩, hi⟩ (ih q fun p h => hp p (.tail _ h))
theorem bools_of {h : Heap} (f : List Int → Bool) {vs ys : List Value} {xss : List (List Int)} (a : AllInts h vs xss) (q : Paired (fun v y => ∃ zs, IsInts h v zs ∧ y = .bool (f zs)) vs ys) : ys = (xss.map f).map Value.bool := by
  induction a generalizing ys with
  | nil => cases q; rfl
  | cons a _ ih =>
    cases q with
    | cons b q =>
      obtain ⟨zs, hz, rfl⟩ := b
      obtain rfl := a.inj hz
      rw [ih q]
      rfl
theorem AllInts.both {h h' : Heap} {vs : List Value} {xss : List (List Int)} {v : Value} (a : AllInts h vs xss) (b : AllInts h' vs xss) (hv : v ∈ vs) : ∃ zs, IsInts h v zs ∧ IsInts h' v zs ∧ zs ∈ xss := by
  induction a with
  | nil => exact nomatch hv
  | cons a _ ih =>
    cases b with
    | cons b q =>
      rcases List.mem_cons.mp hv with rfl | hv
      · exact ⟨_, a, b, .head _⟩
      · obtain ⟨zs, h1, h2, h3⟩ := ih q hv
        exact ⟨zs, h1, h2, .tail _ h3⟩
theorem cell_ne {hb h : Heap} {L c : Addr} {news : List (Addr × Obj)} {o : Obj} {v : Option Value} (N : News hb L h news) (hm : (c, o) ∈ news) (hd : o.data = .cell v) {p : Addr × Obj} (hp : p ∈ news) (hl : Lst p) : p.1 ≠ c := by
  intro e
  obtain ⟨vs, n, hd'⟩ := hl
  have h1 := (N p hp).1
  rw [e, (N (c, o) hm).1] at h1
  have h2 := congrArg Obj.data (Option.some.inj h1)
  rw [hd, hd'] at h2
  cases h2
set_option maxRecDepth 100000 in
set_option maxHeartbeats 8000000 in
theorem main_holds : PySem.Challenge.rw_mj0077_01.Holds :=
  hd (by
  w_top off
  k_go0
  rename_i w s₀ s₁ mg mb G Y fa o pm doc ho hg KX X V GL T B TE TW _ _ M cdA _ hcd xs hs hlay0 hL0 hr0 hl2 _ _ a vs _ hl ra w1 r0 hi hr hlen _ K0 hD h₁ tk₁ F oK oG oP dK dG dP N0 X0
  have hA : ∀ env, Rm (callerA.deeper env) 12 := fun env => ⟨by show 1 + claimMargin + 1 + 12 < recursionLimit; decide, by show 4 + 3 + 8 * 12 + 200 < cLine; decide, rfl⟩
  have hh : ∀ env, (callerA.deeper env).handled = none := fun _ => rfl
  have hfr : ∀ env, (callerA.deeper env).frames = some [env] := fun _ => rfl
  have hu : ∀ env, (callerA.deeper env).units + 64 < cLine := fun env => by show 4 + 3 + 64 < cLine; decide
  have hn63 : xs.length ≤ 63 := by omega
  have dK' : oK.data = .cell none := dK
  have dG' : oG.data = .cell none := dG
  have dP' : oP.data = .cell none := dP
  obtain ⟨L, hL⟩ : ∃ L, L = s₁.heap.objs.size := ⟨_, rfl⟩
  rw [← hL] at F N0 ⊢
  obtain ⟨m0, F0, hm0⟩ : ∃ m0, Fr s₁.heap L h₁ m0 ∧ m0 (Str.ofString "script") = some (.ref a) := ⟨_, F, rfl⟩
  clear F dK dG dP X0 hD Y
  revert KX
  w_top off
  k_fill
  intro KX
  dsimp only
  refine wpAny_execs_cons (wpAny_Assign_Name (Call_ ?_))
  refine' gname (KX.keeps F0.keep) (T.keeps F0.keep) ?e1 rfl rfl rfl (by decide) ?_
  case e1 => k_is
  refine' callWith_K (KX.keeps F0.keep) ?e2 ?_
  case e2 => k_is
  refine args_cons (lname F0.ns hm0 rfl rfl (by decide) (args_nil ⟨KX.keeps F0.keep, ?_⟩))
  refine parts_c (KX.keeps F0.keep) (T.keeps F0.keep) ((hA _).le (by decide)) (isList_ext F0.keep hl) hi hn63 fun h2 tk2 v2 g2 hv2 => ?_
  have F2 := frExt g2 F0
  obtain ⟨aP, vP, zs, rfl, hzl, N2, hpin⟩ := pin_parts F2 (newsExt g2 N0) hv2
  refine stCell (pre := zs ++ [(L + 1 + 1 + 1, oK), (L + 1 + 1, oG)]) (post := []) (c := L + 1) F2 (fun p hp => N2 p (by simpa using hp)) dP' ?_ (fun _ h => nomatch h) rfl rfl rfl fun h3 oP3 dP3 F3 N3 => ?_
  · intro p hp
    rcases List.mem_append.mp hp with hp | hp
    · exact cell_ne N2 (c := L + 1) (o := oP) (by simp) dP' (List.mem_append_left _ hp) (hzl p hp)
    · simp at hp
      rcases hp with rfl | rfl
      · exact Nat.ne_of_gt (by omega)
      · exact Nat.ne_of_gt (by omega)
  dsimp only
  obtain ⟨hlP, hiP, hpP⟩ := hpin h3 F3.keep fun p hp => (N3 p (by simp [hp])).1
  have hcP : h3.IsCell (L + 1) (some (.ref aP)) := ⟨oP3, (N3 (L + 1, oP3) (by simp)).1, dP3⟩
  obtain ⟨uss, hus1, hus2⟩ := all_flat hiP
  have hul : uss.flatten.length ≤ 13 := by rw [hus2.length]; exact pl_flat xs
  refine wpAny_execs_cons (wpAny_Assign_Name (Call_ ?_))
  refine' bname (KX.keeps F3.keep) (T.keeps F3.keep) ?e1 (v := .builtin "sorted") (by decide +kernel) (by decide) rfl rfl rfl rfl (by decide) ?_
  case e1 => k_is
  refine callWith_builtin1 (args_cons ?_)
  refine' flat_c (cl := []) uss (hh _) ?hclos ?hcell rfl ?hnames rfl rfl (by decide) (by decide) (fun Q' hq => cname hcP rfl rfl rfl (by decide) hq) hlP hus1 (by omega) ?_ ?hs
  case hclos => with_unfolding_all rfl
  case hcell => decide
  case hnames => decide
  case hs => intro _; rfl
  intro D4 h4 tk4 g4 fD4 hp4
  refine args_nil (sorted_c hp4.isList hus2 (by rw [← hus2.length]; omega) fun h5 aG vG g5 fG hpG hiG => ?_)
  have hiG' : IntsAre vG (pageL xs) := hiG
  obtain ⟨eG, hoG⟩ := hpG
  have F5 := frExt (Ext.trans g4 g5) F3
  have fG' : h3.objs.size ≤ aG := by
    obtain ⟨e4, he4⟩ := hp4
    exact Nat.le_trans (Nat.le_trans fD4 (Nat.le_of_lt (Heap.lt_size he4))) fG
  have N5 := newsAdd (Ext.trans g4 g5) F3 N3 fG' hoG
  refine stCell (pre := (aG, lobj vG eG) :: (zs ++ [(L + 1 + 1 + 1, oK)])) (post := [(L + 1, oP3)]) (c := L + 1 + 1) F5 (fun p hp => N5 p (by simpa using hp)) dG' ?_ ?_ rfl rfl rfl fun h6 oG6 dG6 F6 N6 => ?_
  · intro p hp
    rcases List.mem_cons.mp hp with rfl | hp
    · exact cell_ne N5 (c := L + 1 + 1) (o := oG) (by simp) dG' (.head _) ⟨_, _, rfl⟩
    rcases List.mem_append.mp hp with hp | hp
    · exact cell_ne N5 (c := L + 1 + 1) (o := oG) (by simp) dG' (by simp [hp]) (hzl p hp)
    · rw [List.mem_singleton.mp hp]; exact Nat.ne_of_gt (by omega)
  · intro p hp; rw [List.mem_singleton.mp hp]; exact Nat.ne_of_lt (by omega)
  dsimp only
  clear g2 hv2 g4 g5 hp4 fD4 hoG fG fG' N5 F5 N3 F3 hlP hiP hpP hcP hus1 hus2 hul N2 F2 N0
  have hcG : h6.IsCell (L + 1 + 1) (some (.ref aG)) := ⟨oG6, (N6 (L + 1 + 1, oG6) (by simp)).1, dG6⟩
  have hlG : h6.IsList aG vG.toArray := ⟨_, (N6 (aG, lobj vG eG) (.head _)).1, rfl, _, rfl⟩
  have hpgl : (pageL xs).length ≤ 13 := by unfold pageL; rw [(srt_perm _).length_eq]; exact pl_flat xs
  refine wpAny_execs_cons (wpAny_Assign_Name (Call_ ?_))
  refine' gname (KX.keeps F6.keep) (T.keeps F6.keep) ?e1 rfl rfl rfl (by decide) ?_
  case e1 => k_is
  refine' callWith_K (KX.keeps F6.keep) ?e2 ?_
  case e2 => k_is
  refine args_cons (Call_ ?_)
  refine' gname (KX.keeps F6.keep) (T.keeps F6.keep) ?e1 rfl rfl rfl (by decide) ?_
  case e1 => k_is
  refine' callWith_K (KX.keeps F6.keep) ?e2 ?_
  case e2 => k_is
  refine args_cons (cname hcG rfl rfl rfl (by decide) (args_nil ⟨KX.keeps F6.keep, ?_⟩))
  refine kinds_c (KX.keeps F6.keep) (T.keeps F6.keep) ((hA _).le (by decide)) hlG hiG' (by omega) fun h7 tk7 v7 g7 hv7 => ?_
  have F7 := frExt g7 F6
  obtain ⟨aK, vK, zk, rfl, hzk, N7, hpink⟩ := pin_intss2 F7 (newsExt g7 N6) hv7
  refine args_nil ⟨KX.keeps F7.keep, ?_⟩
  obtain ⟨oL, hoL⟩ := ns_some F7.ns
  have N7' : News s₁.heap L h7 ((zk ++ ((aG, lobj vG eG) :: (zs ++ [(L + 1 + 1 + 1, oK)]) ++ (L + 1 + 1, oG6) :: [(L + 1, oP3)])) ++ []) := by rw [List.append_nil]; exact N7
  have eg := ext_gone F7 N7'
  have gN : ∀ p ∈ zk ++ ((aG, lobj vG eG) :: (zs ++ [(L + 1 + 1 + 1, oK)]) ++ (L + 1 + 1, oG6) :: [(L + 1, oP3)]), (TI.gone h7 [L]).get? p.1 = some p.2 := fun p hp => gone_new N7' hp (fun x hx => nomatch hx)
  obtain ⟨hlK, hiK⟩ := hpink (TI.gone h7 [L]) eg fun p hp => gN p (List.mem_append_left _ hp)
  refine kept_c (s := { s₁ with heap := h7, toks := tk7 }) (l := [_]) (frs := [(L, oL)]) (pg := pageL xs) (rows := kindsOf (pageL xs)) (hfr _) (frs_push F7 hoL rfl rfl trivial) ?_ (KX.keeps eg) (T.keeps eg) ((hA _).le (by decide)) hlK hiK (by omega) (pl_kinds xs) (by unfold kindsOf; rw [List.length_map]; decide) ?_
  · intro p hp; rw [List.mem_singleton.mp hp]; exact hoL
  intro h8 tk8 frs8 d kvs SU8 Fs8 hat8 g8 fd lo hD8 hKV8
  obtain ⟨frs9, SU9, _, F8, N8⟩ := backY (l := []) F7 N7' (fun _ _ _ hx => nomatch hx) trivial hoL SU8 hat8 g8
  obtain rfl : frs9 = [] := by cases frs9 with | nil => rfl | cons _ _ => exact False.elim SU9
  rw [List.append_nil] at N8
  obtain ⟨od, hod, hdo⟩ := Heap.dictOf_iff.mp hD8
  have fd7 : h7.get? d = none := fd
  have N9 : News s₁.heap L h8 ((d, od) :: (zk ++ ((aG, lobj vG eG) :: (zs ++ [(L + 1 + 1 + 1, oK)]) ++ (L + 1 + 1, oG6) :: [(L + 1, oP3)]))) := by
    intro p hp
    rcases List.mem_cons.mp hp with rfl | hp
    · exact ⟨hod, fresh_ne fd7 hoL, fresh_of_ext F7.keep fd7⟩
    · exact N8 p hp
  obtain ⟨zq, hzq, N10, hpinq⟩ := pin_kv F8 N9 hKV8
  refine stCell (pre := zq ++ (d, od) :: (zk ++ (aG, lobj vG eG) :: zs)) (post := [(L + 1 + 1, oG6), (L + 1, oP3)]) (c := L + 1 + 1 + 1) F8 (fun p hp => N10 p (by simpa using hp)) dK' ?_ ?_ rfl rfl rfl fun h11 oK11 dK11 F11 N11 => ?_
  · intro p hp
    have cK : (L + 1 + 1 + 1, oK) ∈ zq ++ ((d, od) :: (zk ++ ((aG, lobj vG eG) :: (zs ++ [(L + 1 + 1 + 1, oK)]) ++ (L + 1 + 1, oG6) :: [(L + 1, oP3)]))) := by simp
    rcases List.mem_append.mp hp with hp | hp
    · exact cell_ne N10 cK dK' (List.mem_append_left _ hp) (hzq p hp)
    rcases List.mem_cons.mp hp with rfl | hp
    · intro e
      obtain ⟨es, ep, _, hdd, _⟩ := hdo
      have q1 := (N10 _ cK).1
      have e' : d = L + 1 + 1 + 1 := e
      rw [← e', hod] at q1
      have q2 := congrArg Obj.data (Option.some.inj q1)
      rw [hdd, dK'] at q2
      cases q2
    rcases List.mem_append.mp hp with hp | hp
    · exact cell_ne N10 cK dK' (by simp [hp]) (hzk p hp)
    rcases List.mem_cons.mp hp with rfl | hp
    · exact cell_ne N10 cK dK' (by simp) ⟨_, _, rfl⟩
    · exact cell_ne N10 cK dK' (by simp [hp]) (hzl p hp)
  · intro p hp
    rcases List.mem_cons.mp hp with rfl | hp
    · exact Nat.ne_of_lt (by omega)
    · rw [List.mem_singleton.mp hp]; exact Nat.ne_of_lt (by omega)
  dsimp only
  obtain ⟨Z, hZ⟩ : ∃ Z, Z = (zq ++ (d, od) :: (zk ++ (aG, lobj vG eG) :: zs)) ++ (L + 1 + 1 + 1, oK11) :: [(L + 1 + 1, oG6), (L + 1, oP3)] := ⟨_, rfl⟩
  rw [← hZ] at N11
  have mZs : ∀ p ∈ zs, p ∈ Z := fun p hp => by rw [hZ]; simp [hp]
  have mZq : ∀ p ∈ zq, p ∈ Z := fun p hp => by rw [hZ]; simp [hp]
  have mG : (aG, lobj vG eG) ∈ Z := by rw [hZ]; simp
  have mD : (d, od) ∈ Z := by rw [hZ]; simp
  have mcK : (L + 1 + 1 + 1, oK11) ∈ Z := by rw [hZ]; simp
  have mcG : (L + 1 + 1, oG6) ∈ Z := by rw [hZ]; simp
  have mcP : (L + 1, oP3) ∈ Z := by rw [hZ]; simp
  have fP : ∀ h : Heap, Ext s₁.heap h → (∀ p ∈ Z, h.get? p.1 = some p.2) → h.IsList aP vP.toArray ∧ AllInts h vP (partsL xs) ∧ ∀ x ∈ vP, ∃ b us e, x = .ref b ∧ h.get? b = some (lobj us e) := fun h g hz => hpin h g fun p hp => hz p (mZs p hp)
  have fKV : ∀ h : Heap, Ext s₁.heap h → (∀ p ∈ Z, h.get? p.1 = some p.2) → KV h kvs (keptL (kindsOf (pageL xs))) := fun h g hz => hpinq h g fun p hp => hz p (mZq p hp)
  have fG : ∀ h : Heap, (∀ p ∈ Z, h.get? p.1 = some p.2) → h.IsList aG vG.toArray := fun h hz => ⟨_, hz _ mG, rfl, _, rfl⟩
  have fDo : ∀ h : Heap, (∀ p ∈ Z, h.get? p.1 = some p.2) → h.DictOf (intKind Challenge.rw_mj0077_01.row.prog w) d kvs := fun h hz => Heap.dictOf_iff.mpr ⟨od, hz _ mD, hdo⟩
  have fcK : ∀ h : Heap, (∀ p ∈ Z, h.get? p.1 = some p.2) → h.IsCell (L + 1 + 1 + 1) (some (.ref d)) := fun h hz => ⟨_, hz _ mcK, dK11⟩
  have fcG : ∀ h : Heap, (∀ p ∈ Z, h.get? p.1 = some p.2) → h.IsCell (L + 1 + 1) (some (.ref aG)) := fun h hz => ⟨_, hz _ mcG, dG6⟩
  have fcP : ∀ h : Heap, (∀ p ∈ Z, h.get? p.1 = some p.2) → h.IsCell (L + 1) (some (.ref aP)) := fun h hz => ⟨_, hz _ mcP, dP3⟩
  have hvPl : vP.length = 13 := by
    have := (fP h11 F11.keep fun p hp => (N11 p hp).1).2.1.length
    rw [this]; exact pl_len xs
  clear hZ mZs mZq mG mD mcK mcG mcP hpin hpinq N10 N9 N8 F8 hKV8 hD8 hod hdo fd fd7 g8 hat8 Fs8 SU8 SU9 gN eg N7' N7 F7 hlK hiK hpink hoL g7 hv7 hcG hlG N6 F6 dK11 dG6 dP3 dK' dG' dP'

  have z11 : ∀ p ∈ Z, h11.get? p.1 = some p.2 := fun p hp => (N11 p hp).1
  obtain ⟨hlP, hiP, hpP⟩ := fP h11 F11.keep z11
  -- met
  refine wpAny_execs_cons (wpAny_Assign_Name (Call_ ?_))
  refine' bname (KX.keeps F11.keep) (T.keeps F11.keep) ?e1 (v := .builtin "len") (by decide +kernel) (by decide) rfl rfl rfl rfl (by decide) ?_
  case e1 => k_is
  refine callWith_builtin1 (args_cons ?_)
  refine' LC_inv (cl := []) ?hclos ?hcell rfl ?hnames rfl ?_ ?hs
  case hclos => with_unfolding_all rfl
  case hcell => decide
  case hnames => decide
  case hs => intro _; rfl
  refine sliceTo_c (b := 12) F11 N11 (fun Q' hq => cname (fcP _ z11) rfl rfl rfl (by decide) hq) hlP (by omega) fun h12 tk12 B12 F12 N12 l12 _ x12 => ?_
  have hi12 : AllInts h12 (vP.take 12) ((partsL xs).take 12) := (hiP.ext x12).take 12
  refine srcFiltV (neIn h12) (hh _) ⟨_, (N12 _ (.head _)).1, rfl, _, rfl⟩ (by rw [List.length_take]; omega) rfl rfl (by decide) ?g1 ?_
  case g1 =>
    intro C v s₃ m₃ E' _ hv hns hm g
    obtain ⟨zs', hz, _⟩ := hi12.of_mem hv
    rw [neIn_eq hz]
    exact ne_nil_test hns hm (hz.ext g) (hu _) rfl (by with_unfolding_all rfl) (by decide)
  intro D13 h13 tk13 g13 fD13 hp13
  have hlen13 := filt_ne (neIn h12) hi12 fun v zs _ hz => neIn_eq hz
  have l13 : ((vP.take 12).filter (neIn h12)).length ≤ 12 := Nat.le_trans (List.length_filter_le _ _) (by rw [List.length_take]; omega)
  refine args_nil (len_list hp13.isList (by rw [List.size_toArray]; omega) ?_)
  rw [List.size_toArray, hlen13]
  have F13 := frExt (Ext.trans x12 g13) F11
  have N13 := newsExt (Ext.trans x12 g13) N11
  clear hlen13 l13 hp13 fD13 g13 hi12 x12 l12 N12 F12 hlP hiP hpP
  generalize hmet : (((partsL xs).take 12).filter fun p => decide (p ≠ [])).length = met at *
  have hcount := pl_count xs
  rw [hmet] at hcount
  refine storeX_L F13 N13 fun h14 F14 N14 => ?_
  obtain ⟨m4, F14', hmm, hms⟩ : ∃ m4, Fr s₁.heap L h14 m4 ∧ m4 (Str.ofString "met") = some (.int (met : Int) (tk13 + 1)) ∧ m4 (Str.ofString "script") = some (.ref a) := ⟨_, F14, upd_self, upd_ne (by decide) hm0⟩
  clear F14 F13 N13
  have z14 : ∀ p ∈ Z, h14.get? p.1 = some p.2 := fun p hp => (N14 p hp).1
  have lkv : kvs.length = (keptL (kindsOf (pageL xs))).length := (fKV h14 F14'.keep z14).length
  have lkv2 : kvs.length ≤ 15 := by rw [lkv]; refine Nat.le_trans (keptL_len _) ?_; unfold kindsOf; rw [List.length_map]; decide
  dsimp only
  -- the count
  refine wpAny_execs_cons (wpAny_If (wpAny_mono (Q := fun b s' => b = false ∧ ∃ h' tk, s' = { s₁ with heap := h', toks := tk } ∧ Fr s₁.heap L h' m4 ∧ News s₁.heap L h' Z) ?test (fun b s' hb => ?_) (fun _ _ e => e)))
  case test =>
   refine wpAny_isTrue_Compare1 (Call_ ?_)
   refine' bname (KX.keeps F14'.keep) (T.keeps F14'.keep) ?e1 (v := .builtin "len") (by decide +kernel) (by decide) rfl rfl rfl rfl (by decide) ?_
   case e1 => k_is
   refine callWith_builtin1 (args_cons (cname (fcK _ z14) rfl rfl rfl (by decide) (args_nil ?_)))
   refine call_len_dict (knd := intKind _ w) lo (fDo _ z14) (by omega) ?_
   rw [lkv, hcount]
   refine IfExp_ (wpAny_isTrue_Compare1 (nilList F14' N14 fun h15 b15 F15 N15 l15 _ x15 => ?_))
   have z15 : ∀ p ∈ Z, h15.get? p.1 = some p.2 := fun p hp => (N15 p (.tail _ hp)).1
   obtain ⟨hlP, hiP, hpP⟩ := fP h15 F15.keep z15
   refine sliceMid_c (a := 6) (b := 10) F15 N15 (fun Q' hq => cname (fcP _ z15) rfl rfl rfl (by decide) hq) hlP (by omega) (by decide) (by omega) fun h16 tk16 B16 F16 N16 l16 _ x16 => ?_
   refine nil_in (xss := ((partsL xs).drop 6).take 4) ⟨_, (N16 _ (.head _)).1, rfl, _, rfl⟩ (((hiP.ext x16).drop 6).take 4) ⟨_, (N16 _ (.tail _ (.head _))).1, rfl, _, rfl⟩ (hu _) (wpAny_truthy_bool ?_)
   by_cases hin : [] ∈ ((partsL xs).drop 6).take 4
   · rw [if_pos (by simpa using hin), if_pos hin]
     refine lname F16.ns hmm rfl rfl (by decide) (ne_int (wpAny_truthy_bool ⟨?_, _, _, rfl, F16, fun p hp => N16 p (.tail _ (.tail _ hp))⟩))
     simp
   · rw [if_neg (by simpa using hin), if_neg hin]
     refine wpAny_BinOp (lname F16.ns hmm rfl rfl (by decide) (wpAny_Constant_int (sub_int (ne_int (wpAny_truthy_bool ⟨?_, _, _, rfl, F16, fun p hp => N16 p (.tail _ (.tail _ hp))⟩)))))
     simp
  obtain ⟨rfl, h17, tk17, rfl, F17, N17⟩ := hb
  rw [if_neg (by decide)]
  refine wpAny_execs_nil ?_
  dsimp only
  clear z14 N14 F14' z11 F11 N11 hcount
  have z17 : ∀ p ∈ Z, h17.get? p.1 = some p.2 := fun p hp => (N17 p hp).1
  -- wishes
  have hms17 : m4 (Str.ofString "script") = some (.ref a) := hms
  refine wpAny_execs_cons (wpAny_Assign_Name (wpAny_BinOp (List_ ?_)))
  refine spliced_more (cname (fcG _ z17) rfl rfl rfl (by decide) (spliced_more (List_ (spliced_more (wpAny_Constant_int (spliced_none ?_))))))
  refine newList_N F17 N17 fun h18 F18 N18 => spliced_none ?_
  refine newList_N F18 N18 fun h19 F19 N19 => ?_
  have e19 : ∀ p ∈ Z, h19.get? p.1 = some p.2 := fun p hp => (N19 p (.tail _ (.tail _ hp))).1
  dsimp only at N18 N19 ⊢
  refine' LC_inv (cl := [(Str.ofString "parts", L + 1), (Str.ofString "page", L + 1 + 1)]) ?hclos ?hcell rfl ?hnames rfl ?_ ?hs
  case hclos => with_unfolding_all rfl
  case hcell => decide
  case hnames => decide
  case hs => intro _; rfl
  refine sliceTo_c (b := 4) F19 N19 (fun Q' hq => lname F19.ns hms rfl rfl (by decide) hq) (isList_ext F19.keep hl) (by rw [hi.length]; omega) fun h20 tk20 B20 F20 N20 l20 _ x20 => ?_
  have z20 : ∀ p ∈ Z, h20.get? p.1 = some p.2 := fun p hp => (N20 p (.tail _ (.tail _ (.tail _ hp)))).1
  refine srcLists (fun v o => ∃ n t, v = .int n t ∧ PartIs (0, o) (wishL (n.fmod 106496) (partsL xs) (pageL xs))) (hh _) ⟨_, (N20 _ (.head _)).1, rfl, _, rfl⟩ (by rw [List.length_take]; omega) ?g1 ?_
  case g1 =>
    intro C v s₃ m₃ E' _ hv hns hm g
    obtain ⟨n, t, rfl⟩ := (hi.take 4).all v hv
    have g' : Ext s₁.heap s₃.heap := Ext.trans F20.keep g
    have z3 : ∀ p ∈ Z, s₃.heap.get? p.1 = some p.2 := fun p hp => g _ _ (z20 p hp)
    obtain ⟨hlP, hiP, hpP⟩ := fP s₃.heap g' z3
    refine Call_ ?_
    refine' gname (KX.keeps g') (T.keeps g') ?e1 rfl rfl (by with_unfolding_all rfl) (by decide) ?_
    case e1 => k_is
    refine' callWith_K (KX.keeps g') ?e2 ?_
    case e2 => k_is
    refine args_cons (wpAny_BinOp (lname hns hm rfl (by with_unfolding_all rfl) (by decide) (wpAny_Constant_int (mod_int (by decide) ?_))))
    refine args_cons (cname (fcP _ z3) (by with_unfolding_all rfl) rfl (by with_unfolding_all rfl) (by decide) ?_)
    refine args_cons (cname (fcG _ z3) (by with_unfolding_all rfl) rfl (by with_unfolding_all rfl) (by decide) (args_nil ⟨KX.keeps g', ?_⟩))
    refine wish_c (KX.keeps g') (T.keeps g') ((hA _).le (by decide)) hlP hiP hpP (pl_len xs) (Nat.lt_of_le_of_lt (pl_flat xs) (by decide)) (fG _ z3) hiG' (pl_pos xs) (by omega) fun h' tk' b us e g8 fb hb8 hI8 => ?_
    exact ⟨⟨_, _, rfl, g8⟩, b, _, rfl, fb, hb8, n, t, rfl, us, e, rfl, hI8⟩
  intro D21 ps h21 tk21 g21 fD21 hp21 hps21 _ hpair21
  have F21 := frExt g21 F20
  have N21 := newsExt g21 N20
  have N21p : News s₁.heap L h21 (ps ++ ((B20, lobj (vs.take 4) 0) :: (h18.objs.size, { cls := .type "list", data := .seq [Value.ref aG, Value.ref h17.objs.size].toArray }) :: (h17.objs.size, { cls := .type "list", data := .seq [Value.int 103 tk17].toArray }) :: Z)) := by
    intro p hp
    rcases List.mem_append.mp hp with hp | hp
    · obtain ⟨q1, _, q3⟩ := hps21 p hp
      obtain ⟨oL, hoL⟩ := ns_some F20.ns
      exact ⟨q1, fresh_ne (fresh_le q3) hoL, fresh_of_ext F20.keep (fresh_le q3)⟩
    · exact N21 p hp
  refine add_lists F21 N21p ⟨_, (N21 _ (.tail _ (.head _))).1, rfl, _, rfl⟩ hp21.isList (fun h22 F22 N22 => ?_) ?hsz
  case hsz => rw [List.length_map, ← hpair21.length, List.length_take, sizeLine_eq]; simp; omega
  refine storeX_L F22 N22 fun h23 F23 N23 => ?_
  obtain ⟨m5, F23', hmw⟩ : ∃ m5, Fr s₁.heap L h23 m5 ∧ m5 (Str.ofString "wishes") = some (.ref h21.objs.size) := ⟨_, F23, upd_self⟩
  clear F23 F22 N22 N21p N21 F21 N20 F20 N19 F19 N18 F18 N17 F17 hmm hms hms17 e19 z17 z20 x20 l20 g21 fD21 hp21
  obtain ⟨vW, hvW⟩ : ∃ vW, vW = [Value.ref aG, Value.ref h17.objs.size] ++ ps.map fun p : Addr × Obj => Value.ref p.1 := ⟨_, rfl⟩
  rw [← hvW] at N23
  generalize hZ2 : (h21.objs.size, _) :: (ps ++ ((B20, lobj (vs.take 4) 0) :: (h18.objs.size, _) :: (h17.objs.size, _) :: Z)) = Z2 at N23
  have mZ : ∀ p ∈ Z, p ∈ Z2 := fun p hp => by rw [← hZ2]; simp [hp]
  have fW : ∀ h : Heap, (∀ p ∈ Z2, h.get? p.1 = some p.2) → h.IsList h21.objs.size vW.toArray ∧ AllInts h vW (wishesL xs) := fun h hz => by
    refine ⟨⟨_, hz (h21.objs.size, _) (by rw [← hZ2]; exact .head _), rfl, _, rfl⟩, ?_⟩
    rw [hvW]
    refine .cons ⟨aG, vG, rfl, fG h fun p hp => hz p (mZ p hp), hiG'⟩ (.cons ⟨_, [Value.int 103 tk17], rfl, ⟨_, hz (h17.objs.size, { cls := .type "list", data := .seq [Value.int 103 tk17].toArray }) (by rw [← hZ2]; simp), rfl, _, rfl⟩, .cons _ _ .nil⟩ ?_)
    exact wish_all (fun n => wishL (n.fmod 106496) (partsL xs) (pageL xs)) (hi.take 4) hpair21 fun p hp => hz p (by rw [← hZ2]; simp [hp])
  clear hZ2 hvW
  have z23 : ∀ p ∈ Z2, h23.get? p.1 = some p.2 := fun p hp => (N23 p hp).1
  generalize h21.objs.size = aW at *
  dsimp only
  -- told
  obtain ⟨hlW, hiW⟩ := fW h23 z23
  have hvWl : vW.length ≤ 6 := by rw [hiW.length]; unfold wishesL; simp; omega
  have hLlt : L < h23.objs.size := by obtain ⟨oL, hoL⟩ := ns_some F23'.ns; exact Heap.lt_size hoL
  refine' wpAny_execs_cons (ALC_X (fx := [L]) (cl := [(Str.ofString "kept", L + 1 + 1 + 1)]) (by with_unfolding_all rfl) ?hclos ?hcell rfl ?hnames rfl rfl rfl ?_ ?hs)
  case hclos => with_unfolding_all rfl
  case hcell => decide
  case hnames => decide
  case hs => intro _; rfl
  refine lname F23'.ns hmw rfl rfl (by decide) ?_
  refine valsXA (m := m5) (fun v y => ∃ zs, IsInts h23 v zs ∧ y = .bool (decide (redL zs (keptL (kindsOf (pageL xs))) = []))) (fun h => h.Ns L m5) (hh _) hlW (by omega) (fun b hb => by rw [List.mem_singleton.mp hb]; exact hLlt) ?_ hLlt F23'.ns ?_ (fun _ h => h) ?g1 ?_
  · intro hm
    exact ns_ne_list F23'.ns hlW (List.mem_singleton.mp hm).symm
  · intro h h' hG hk
    exact hG.at' fun o q => hk _ o hLlt q
  case g1 =>
    intro C v s₃ m₃ E' _ hv hns hm hG hkp
    have keep3 : Ext s₁.heap s₃.heap := fun b o q => hkp b o (fun hm => by rw [List.mem_singleton.mp hm] at q; have := Heap.lt_size q; rw [← hL] at this; exact Nat.lt_irrefl _ this) (F23'.keep b o q)
    have F3 : Fr s₁.heap L s₃.heap m5 := ⟨hG, keep3, F23'.above⟩
    have N3 : News s₁.heap L s₃.heap Z2 := fun p hp => ⟨hkp _ _ (fun hm => (N23 p hp).2.1 (List.mem_singleton.mp hm)) (N23 p hp).1, (N23 p hp).2⟩
    have z3 : ∀ p ∈ Z, s₃.heap.get? p.1 = some p.2 := fun p hp => (N3 p (mZ p hp)).1
    obtain ⟨oL3, hoL3⟩ := ns_some hG
    have N3' : News s₁.heap L s₃.heap (Z2 ++ []) := by rw [List.append_nil]; exact N3
    have eg := ext_gone F3 N3'
    have gZ2 : ∀ p ∈ Z2, (TI.gone s₃.heap [L]).get? p.1 = some p.2 := fun p hp => gone_new N3' hp (fun x hx => nomatch hx)
    have gZ : ∀ p ∈ Z, (TI.gone s₃.heap [L]).get? p.1 = some p.2 := fun p hp => gZ2 p (mZ p hp)
    obtain ⟨hlWg, hiWg⟩ := fW _ gZ2
    obtain ⟨ws, hz, hws, hzm⟩ := AllInts.both hiW hiWg hv
    obtain ⟨ar, vr, rfl, hlr, hir⟩ := hws
    refine wpAny_Compare1 (Call_ ?_)
    refine' gname (KX.keeps keep3) (T.keeps keep3) ?e1 rfl rfl (by with_unfolding_all rfl) (by decide) ?_
    case e1 => k_is
    refine' callWith_K (KX.keeps keep3) ?e2 ?_
    case e2 => k_is
    refine args_cons (lname hns hm rfl (by with_unfolding_all rfl) (by decide) ?_)
    refine args_cons (cname (fcK _ z3) (by with_unfolding_all rfl) rfl (by with_unfolding_all rfl) (by decide) (args_nil ⟨KX.keeps keep3, ?_⟩))
    refine red_c (s := s₃) (l := [_]) (frs := [(L, oL3)]) (pg := pageL xs) (row := ws) (kept := keptL (kindsOf (pageL xs))) (kvs := kvs) (hfr _) (frs_push F3 hoL3 rfl rfl trivial) ?_ (KX.keeps eg) (T.keeps eg) ((hA _).le (by decide)) hlr hir (fDo _ gZ) lo (fKV _ eg gZ) (by omega) (pl_in xs ws hzm) (keptL_in (pl_kinds xs)) (by rw [← lkv]; omega) ?_
    · intro p hp; rw [List.mem_singleton.mp hp]; exact hoL3
    intro h4 tk4 frs4 a4 vs4 e4 SU4 Fs4 hat4 g4 ha4 hI4
    obtain ⟨frs5, SU5, _, F4, N4⟩ := backY (l := []) F3 N3' (fun _ _ _ hx => nomatch hx) trivial hoL3 SU4 hat4 g4
    obtain rfl : frs5 = [] := by cases frs5 with | nil => rfl | cons _ _ => exact False.elim SU5
    rw [List.append_nil] at N4
    have hl4 : h4.IsList a4 vs4.toArray := by
      rcases ha4 with ⟨rfl, rfl⟩ | ⟨_, q⟩
      · exact isList_ext g4 hlr
      · exact ⟨_, q, rfl, _, rfl⟩
    refine nilList F4 N4 fun h5 b5 F5 N5 l5 _ x5 => ?_
    refine eq_intsK (isList_ext x5 hl4) hI4 ⟨_, (N5 _ (.head _)).1, rfl, _, rfl⟩ .nil (hu _) ⟨⟨_, _, rfl, ?_⟩, ⟨ws, hz, rfl⟩, F5.ns⟩
    intro b o hb q
    refine x5 _ _ (g4 _ _ ((TI.gone_get ?_).trans q))
    simpa using hb
  intro D24 e24 ys24 h24 tk24 hns24 hD24 fD24 hpair24 hk24
  have hLD : D24 ≠ L := Nat.ne_of_gt (Nat.lt_of_lt_of_le hLlt fD24)
  have keep24 : Ext s₁.heap h24 := fun b o q => by
    have hbL : b ≠ L := fun e => by rw [e] at q; have := Heap.lt_size q; rw [← hL] at this; exact Nat.lt_irrefl _ this
    exact hk24 b o hbL (by simpa using hbL) (F23'.keep b o q)
  have F24 : Fr s₁.heap L h24 (upd m5 (Str.ofString "told") (.ref D24)) := ⟨hns24, keep24, F23'.above⟩
  have N24 : News s₁.heap L h24 ((D24, lobj ys24 e24) :: Z2) := by
    intro p hp
    rcases List.mem_cons.mp hp with rfl | hp
    · exact ⟨hD24, hLD, fresh_of_ext F23'.keep (fresh_le fD24)⟩
    · have hbL := (N23 p hp).2.1
      exact ⟨hk24 _ _ hbL (by simpa using hbL) (N23 p hp).1, (N23 p hp).2⟩
  have z24 : ∀ p ∈ Z2, h24.get? p.1 = some p.2 := fun p hp => (N24 p (.tail _ hp)).1
  have hy24 := bools_of (fun zs => decide (redL zs (keptL (kindsOf (pageL xs))) = [])) hiW hpair24
  obtain ⟨hlW4, hiW4⟩ := fW h24 z24
  dsimp only
  -- the answer
  refine wpAny_execs_cons (wpAny_Return_some (wpAny_Compare1 (lname F24.ns upd_self rfl rfl (by decide) ?_)))
  refine' LC_X (fx := []) (cl := [(Str.ofString "parts", L + 1)]) ?hclos ?hcell rfl ?hnames rfl ?_ ?hs
  case hclos => with_unfolding_all rfl
  case hcell => decide
  case hnames => decide
  case hs => intro _; rfl
  refine lname F24.ns (upd_ne (by decide) hmw) rfl rfl (by decide) ?_
  refine vals (fun v y => ∃ zs, IsInts h24 v zs ∧ y = .bool (reachL zs (partsL xs))) (hh _) hlW4 (by omega) ?g1 ?_
  case g1 =>
    intro C v s₃ m₃ E' _ hv hns hm g
    have g' : Ext s₁.heap s₃.heap := Ext.trans keep24 g
    have z3 : ∀ p ∈ Z, s₃.heap.get? p.1 = some p.2 := fun p hp => g _ _ (z24 p (mZ p hp))
    obtain ⟨zs', hz, hzm⟩ := hiW4.of_mem hv
    obtain ⟨aw, vw, rfl, hlw, hiw⟩ := id hz
    obtain ⟨hlP, hiP, hpP⟩ := fP s₃.heap g' z3
    refine Call_ ?_
    refine' gname (KX.keeps g') (T.keeps g') ?e1 rfl rfl (by with_unfolding_all rfl) (by decide) ?_
    case e1 => k_is
    refine' callWith_K (KX.keeps g') ?e2 ?_
    case e2 => k_is
    refine args_cons (lname hns hm rfl (by with_unfolding_all rfl) (by decide) ?_)
    refine args_cons (cname (fcP _ z3) (by with_unfolding_all rfl) rfl (by with_unfolding_all rfl) (by decide) (args_nil ⟨KX.keeps g', ?_⟩))
    refine reach_c (KX.keeps g') (T.keeps g') ((hA _).le (by decide)) (isList_ext g hlw) hiw hlP hiP (pl_len xs) (fun p hp => Nat.le_trans (pl_part xs p hp) (by decide)) fun h' tk' g8 => ?_
    exact ⟨⟨_, _, rfl, g8⟩, zs', hz, rfl⟩
  intro D25 e25 ys25 h25 tk25 g25 hD25 _ hpair25
  have hy25 := bools_of (fun zs => reachL zs (partsL xs)) hiW4 hpair25
  have heq : (wishesL xs).map (fun zs => decide (redL zs (keptL (kindsOf (pageL xs))) = [])) = (wishesL xs).map (fun zs => reachL zs (partsL xs)) := List.map_congr_left (pl_told xs)
  rw [heq] at hy24
  rw [hy24] at N24
  rw [hy25] at hD25
  refine eq_boolsM (bs := (wishesL xs).map (fun zs => reachL zs (partsL xs))) ⟨_, g25 _ _ (N24 (D24, _) (.head _)).1, rfl, _, rfl⟩ ⟨_, hD25, rfl, _, rfl⟩ (hu _) ?_
  have F25 := frExt g25 F24
  have := F25
  wrow_close)
end Mine
theorem PySem.Challenge.cw_mj0077_01_holds : PySem.Challenge.rw_mj0077_01.Holds :=
  Mine.main_holds
