import PyProof.Rows.All
import Wide.All
import OpenK.AllK
import Wide.FinOn
import Lean
import PySem.Challenge.RW_we0010_01
set_option Elab.async false

section
open PySem PySem.W PyProof.Rows
namespace Mine
set_option maxRecDepth 100000
set_option maxHeartbeats 8000000
open_top hd for PySem.Challenge.rw_we0010_01
end Mine
end

section
open PySem PySem.W PySem.Spec PySem.Calls PyProof.Rows
set_option maxRecDepth 100000
namespace Mine


structure Base (w : World) (loose : List Str) (mean : ExcName → Option Value) (mg mb : Str → Option Value) (b : Heap) : Prop where
  X : (hd.heap_39 w.params).In b
  T : Top topProg loose mean mg mb b
  c58 : CodeHd b 62 58
  c51 : CodeHd b 55 51
  n58 : b.get? 58 = none
  n51 : b.get? 51 = none

abbrev AA (dp un : Nat) (fr : Option (List Env)) (gd : Option (List Code)) : Around := { handled := none, depth := dp, frames := fr, guards := gd, units := un }

theorem lookup_in {b h : Heap} {K : Frag} (X : K.In b) (hs : b.StaysIn h) : K.In h := X.keeps hs

theorem stays_hide {b h : Heap} {S : List Addr} (hs : b.StaysIn h) (hS : ∀ a ∈ S, b.get? a = none) : b.StaysIn (hideAll h S) := fun x o e =>
  hideAll_get S (hs x o e) fun hx => by rw [hS x hx] at e; cases e

section
variable {prog : Program} {w : World} {A : Around} {s : Shared} {loose : List Str} {mean : ExcName → Option Value} {mg mb : Str → Option Value} {b : Heap}
  {Q E : Value → Shared → Prop}

theorem enter0 {S : List Addr} {name qual : Str} {params : Arguments} {body : List Stmt} {scope : Scope} {dV kV doc pm cdv ct oc : Value} {an od : Option Addr} {osl : Array (Option Value)} {f : Addr} {vals : List Value} {binds : List (Str × Value)}
    (HB : Base w loose mean mg mb b) (hs : b.StaysIn s.heap) (hS : ∀ a ∈ S, b.get? a = none)
    (ho : (hd.heap_39 w.params).lookup f = some ⟨oc, od, .func (fnOf name qual params body scope dV kV doc pm an cdv ct), osl⟩) (hcd : codeIn (hd.heap_39 w.params) cdv qual = true) (hroom : A.depth < recursionLimit)
    (hbind : BindsTo s (fnOf name qual params body scope dV kV doc pm an cdv ct) ⟨vals, []⟩ binds) (hloc : ∀ y ∈ binds, scope.names.lookup y.1 = some .local)
    (h : ∀ g L h₁, g = hideAll s.heap S → L = s.heap.objs.size → Fr g L h₁ (fun y => binds.reverse.lookup y) → s.heap.StaysIn h₁ → (hd.heap_39 w.params).In g → Top topProg loose mean mg mb g → b.StaysIn g →
      wpAny (model prog w) (A.deeper (envOf qual scope L f cdv)) (execs body (envOf qual scope L f cdv))
        (fun fl s' => Q (match fl with | .ret v => v | _ => .none) s') (fun _ _ => False)
        { s with heap := h₁, toks := s.toks + binds.length })
    (hco : scope.isCoroutine = false) (hgen : scope.isGenerator = false) (hk : scope.kind = .function)
    (hcell : ∀ x ∈ scope.names, x.2 ≠ .cell) : wpAny (model prog w) A (call (.ref f) vals) Q E s := by
  have st := stays_hide hs hS
  refine wpAny_call (codeAny_call_def (fd := fnOf name qual params body scope dV kV doc pm an cdv ct) (body := body) (binds := binds) hroom ((HB.X.keeps hs) _ _ ho) rfl (HB.T.nolimit.keeps hs) (codeRec_of (HB.X.keeps hs) hcd) rfl hbind hcell hloc (fun h₁ hns hk₁ => ?_) hco hgen hk)
  exact wpAny_mono (h _ s.heap.objs.size h₁ rfl rfl ⟨hns, fun b o e => hk₁ b o (of_hideAll _ e), Nat.le_of_eq (hideAll_size _ _)⟩ hk₁ (HB.X.keeps st) (HB.T.keeps st) st) (fun fl s' hl => hl) (fun _ _ x => x.elim)

theorem fr_ext {h₀ h h' : Heap} {L : Addr} {m : Str → Option Value} (F : Fr h₀ L h m) (k : h.StaysIn h') : Fr h₀ L h' m := ⟨F.ns.keeps k, fun b o e => k _ _ (F.keep b o e), F.above⟩
theorem news_ext {h₀ h h' : Heap} {L : Addr} {news : List (Addr × Obj)} (N : News h₀ L h news) (k : h.StaysIn h') : News h₀ L h' news := fun p hp => ⟨k _ _ (N p hp).1, (N p hp).2⟩
theorem news_sub {h₀ h : Heap} {L : Addr} {news news' : List (Addr × Obj)} (N : News h₀ L h news) (k : ∀ p ∈ news', p ∈ news) : News h₀ L h news' := fun p hp => N p (k p hp)
end
end Mine
end

section
open PySem PySem.W PySem.Spec PySem.Calls PyProof.Rows
set_option maxRecDepth 100000
set_option maxHeartbeats 4000000
namespace Mine
section
variable {prog : Program} {w : World} {A : Around} {s : Shared} {loose : List Str} {mean : ExcName → Option Value} {mg mb : Str → Option Value} {b : Heap}
  {Q E : Value → Shared → Prop}

theorem isterminal_spec (HB : Base w loose mean mg mb b) (hs : b.StaysIn s.heap) (hd : A.depth + 2 < recursionLimit) (x : Int) (t : Tok)
    (k : ∀ h' tk', s.heap.StaysIn h' → Q (.bool (decide (x < 256))) { s with heap := h', toks := tk' }) :
    wpAny (model prog w) A (call (.ref 21) [.int x t]) Q E s := by
  refine' enter0 (S := []) (binds := [(Str.ofString "x", .int x t)]) ?HB3 ?hs3 ?hS3 ?ho3 ?hcd3 ?hroom3 ?hbind3 ?hloc3 ?_ ?c23 ?c33 ?c43 ?c53
  (case HB3 => assumption)
  (case hs3 => assumption)
  (case hS3 => (intro a ha; cases ha))
  (case ho3 => k_is)
  (case hcd3 => k_is)
  (case hroom3 => (simp only [recursionLimit, AA] at *); omega)
  (case hbind3 => exact BindsTo.of_eq rfl)
  (case c53 => decide)
  (case hloc3 => exact locs rfl)
  (case c23 => exact rfl)
  (case c33 => exact rfl)
  (case c43 => exact rfl)
  intro g L h₁ hg hL F st X T hb
  subst hg
  have N : News (hideAll s.heap []) L h₁ [] := News.nil
  
  (with_reducible show wpAny _ _ _ _ _ _)
  k_fold
  repeat' ((fail_if_success (with_reducible show Exists _)); first | (k_unfold; (try dsimp only)) | (walk1; (try ((fail_if_success (with_reducible show wpAny _ _ (subscriptTail _ _ (Value.ref _) (Value.ref _)) _ _ _)); dsimp only))) | (dsimp only; walk1; (try ((fail_if_success (with_reducible show wpAny _ _ (subscriptTail _ _ (Value.ref _) (Value.ref _)) _ _ _)); dsimp only))) | (leave1; (try dsimp only)))
  exact k _ _ (Fr.keep (by assumption))

theorem isnonterminal_spec (HB : Base w loose mean mg mb b) (hs : b.StaysIn s.heap) (hd : A.depth + 2 < recursionLimit) (x : Int) (t : Tok)
    (k : ∀ h' tk', s.heap.StaysIn h' → Q (.bool (decide (256 ≤ x))) { s with heap := h', toks := tk' }) :
    wpAny (model prog w) A (call (.ref 28) [.int x t]) Q E s := by
  refine' enter0 (S := []) (binds := [(Str.ofString "x", .int x t)]) ?HB7 ?hs7 ?hS7 ?ho7 ?hcd7 ?hroom7 ?hbind7 ?hloc7 ?_ ?c27 ?c37 ?c47 ?c57
  (case HB7 => assumption)
  (case hs7 => assumption)
  (case hS7 => (intro a ha; cases ha))
  (case ho7 => k_is)
  (case hcd7 => k_is)
  (case hroom7 => (simp only [recursionLimit, AA] at *); omega)
  (case hbind7 => exact BindsTo.of_eq rfl)
  (case c57 => decide)
  (case hloc7 => exact locs rfl)
  (case c27 => exact rfl)
  (case c37 => exact rfl)
  (case c47 => exact rfl)
  intro g L h₁ hg hL F st X T hb
  subst hg
  have N : News (hideAll s.heap []) L h₁ [] := News.nil
  
  (with_reducible show wpAny _ _ _ _ _ _)
  k_fold
  repeat' ((fail_if_success (with_reducible show Exists _)); first | (k_unfold; (try dsimp only)) | (walk1; (try ((fail_if_success (with_reducible show wpAny _ _ (subscriptTail _ _ (Value.ref _) (Value.ref _)) _ _ _)); dsimp only))) | (dsimp only; walk1; (try ((fail_if_success (with_reducible show wpAny _ _ (subscriptTail _ _ (Value.ref _) (Value.ref _)) _ _ _)); dsimp only))) | (leave1; (try dsimp only)))
  exact k _ _ (Fr.keep (by assumption))

theorem iseof_spec (HB : Base w loose mean mg mb b) (hs : b.StaysIn s.heap) (hd : A.depth + 2 < recursionLimit) (x : Int) (t : Tok)
    (k : ∀ h' tk', s.heap.StaysIn h' → Q (.bool (decide (x = 0))) { s with heap := h', toks := tk' }) :
    wpAny (model prog w) A (call (.ref 35) [.int x t]) Q E s := by
  refine' enter0 (S := []) (binds := [(Str.ofString "x", .int x t)]) ?HB11 ?hs11 ?hS11 ?ho11 ?hcd11 ?hroom11 ?hbind11 ?hloc11 ?_ ?c211 ?c311 ?c411 ?c511
  (case HB11 => assumption)
  (case hs11 => assumption)
  (case hS11 => (intro a ha; cases ha))
  (case ho11 => k_is)
  (case hcd11 => k_is)
  (case hroom11 => (simp only [recursionLimit, AA] at *); omega)
  (case hbind11 => exact BindsTo.of_eq rfl)
  (case c511 => decide)
  (case hloc11 => exact locs rfl)
  (case c211 => exact rfl)
  (case c311 => exact rfl)
  (case c411 => exact rfl)
  intro g L h₁ hg hL F st X T hb
  subst hg
  have N : News (hideAll s.heap []) L h₁ [] := News.nil
  
  (with_reducible show wpAny _ _ _ _ _ _)
  k_fold
  repeat' ((fail_if_success (with_reducible show Exists _)); first | (k_unfold; (try dsimp only)) | (walk1; (try ((fail_if_success (with_reducible show wpAny _ _ (subscriptTail _ _ (Value.ref _) (Value.ref _)) _ _ _)); dsimp only))) | (dsimp only; walk1; (try ((fail_if_success (with_reducible show wpAny _ _ (subscriptTail _ _ (Value.ref _) (Value.ref _)) _ _ _)); dsimp only))) | (leave1; (try dsimp only)))
  exact k _ _ (Fr.keep (by assumption))

def lawPart (n r : Int) : Int := if n % 3 = 0 ∧ r < 3 then 256 + r + 1 + n / 3 % (3 - r) else n / 3 % 256

theorem fdiv_nn {a b : Int} (h : 0 < b) : a.fdiv b = a / b := by rw [Int.fdiv_eq_ediv_of_nonneg _ (Int.le_of_lt h)]
theorem fmod_nn {a b : Int} (h : 0 < b) : a.fmod b = a % b := by rw [Int.fmod_eq_emod_of_nonneg _ (Int.le_of_lt h)]

theorem law_part_spec (HB : Base w loose mean mg mb b) (hs : b.StaysIn s.heap) (hd : A.depth + 2 < recursionLimit) (n r : Int) (tn tr : Tok) (hr : 0 ≤ r)
    (k : ∀ h' tk' t, s.heap.StaysIn h' → Q (.int (lawPart n r) t) { s with heap := h', toks := tk' }) :
    wpAny (model prog w) A (call (.ref 84) [.int n tn, .int r tr]) Q E s := by
  refine' enter0 (S := []) (binds := [(Str.ofString "number", .int n tn), (Str.ofString "rule", .int r tr)]) ?HB15 ?hs15 ?hS15 ?ho15 ?hcd15 ?hroom15 ?hbind15 ?hloc15 ?_ ?c215 ?c315 ?c415 ?c515
  (case HB15 => assumption)
  (case hs15 => assumption)
  (case hS15 => (intro a ha; cases ha))
  (case ho15 => k_is)
  (case hcd15 => k_is)
  (case hroom15 => (simp only [recursionLimit, AA] at *); omega)
  (case hbind15 => exact BindsTo.of_eq rfl)
  (case c515 => decide)
  (case hloc15 => exact locs rfl)
  (case c215 => exact rfl)
  (case c315 => exact rfl)
  (case c415 => exact rfl)
  intro g L h₁ hg hL F st X T hb
  subst hg
  have N : News (hideAll s.heap []) L h₁ [] := News.nil
  
  (with_reducible show wpAny _ _ _ _ _ _)
  k_fold
  repeat' ((fail_if_success (with_reducible show Exists _)); first | (k_unfold; (try dsimp only)) | (walk1; (try ((fail_if_success (with_reducible show wpAny _ _ (subscriptTail _ _ (Value.ref _) (Value.ref _)) _ _ _)); dsimp only))) | (dsimp only; walk1; (try ((fail_if_success (with_reducible show wpAny _ _ (subscriptTail _ _ (Value.ref _) (Value.ref _)) _ _ _)); dsimp only))) | (leave1; (try dsimp only)))
  · rename_i _ h1 h2
    rw [fmod_nn (by decide)] at h1
    have e : lawPart n r = 256 + r + 1 + (n.fdiv 3).fmod (3 - r) := by unfold lawPart; rw [if_pos ⟨h1, h2⟩, fdiv_nn (by decide), fmod_nn (by omega)]
    rw [← e]; exact k _ _ _ (Fr.keep (by assumption))
  · rename_i _ h1 h2
    have e : lawPart n r = (n.fdiv 3).fmod 256 := by unfold lawPart; rw [if_neg (fun h => h2 h.2), fdiv_nn (by decide), fmod_nn (by omega)]
    rw [← e]; exact k _ _ _ (Fr.keep (by assumption))
  · rename_i _ h1
    rw [fmod_nn (by decide)] at h1
    have e : lawPart n r = (n.fdiv 3).fmod 256 := by unfold lawPart; rw [if_neg (fun h => h1 h.1), fdiv_nn (by decide), fmod_nn (by omega)]
    rw [← e]; exact k _ _ _ (Fr.keep (by assumption))

theorem push_new {h s : Heap} (st : s.StaysIn h) : s.get? h.objs.size = none := by
  cases q : s.get? h.objs.size with
  | none => rfl
  | some o => exact absurd (Heap.lt_size (st _ _ q)) (Nat.lt_irrefl _)

theorem div2n1n_spec (HB : Base w loose mean mg mb b) (hs : b.StaysIn s.heap) (hd : A.depth + 2 < recursionLimit) (x y n : Int) (tx ty tn : Tok) (hx2 : (Builtin.Int.intBits x : Int) - n ≤ 4000) (hy : 0 < y) (hy2 : y < 1073741824)
    (k : ∀ h' tk' p t1 t2, s.heap.StaysIn h' → s.heap.get? p = none → h'.get? p = some { cls := .type "tuple", data := .seq #[.int (x / y) t1, .int (x % y) t2] } → Q (.ref p) { s with heap := h', toks := tk' }) :
    wpAny (model prog w) A (call (.ref 42) [.int x tx, .int y ty, .int n tn]) Q E s := by
  refine' enter0 (S := []) (binds := [(Str.ofString "a", .int x tx), (Str.ofString "b", .int y ty), (Str.ofString "n", .int n tn)]) ?HB19 ?hs19 ?hS19 ?ho19 ?hcd19 ?hroom19 ?hbind19 ?hloc19 ?_ ?c219 ?c319 ?c419 ?c519
  (case HB19 => assumption)
  (case hs19 => assumption)
  (case hS19 => (intro a ha; cases ha))
  (case ho19 => k_is)
  (case hcd19 => k_is)
  (case hroom19 => (simp only [recursionLimit, AA] at *); omega)
  (case hbind19 => exact BindsTo.of_eq rfl)
  (case c519 => decide)
  (case hloc19 => exact locs rfl)
  (case c219 => exact rfl)
  (case c319 => exact rfl)
  (case c419 => exact rfl)
  intro g L h₁ hg hL F st X T hb
  subst hg
  have N : News (hideAll s.heap []) L h₁ [] := News.nil
  
  (with_reducible show wpAny _ _ _ _ _ _)
  k_fold
  repeat' ((fail_if_success (with_reducible show Exists _)); first | (k_unfold; (try dsimp only)) | (walk1; (try ((fail_if_success (with_reducible show wpAny _ _ (subscriptTail _ _ (Value.ref _) (Value.ref _)) _ _ _)); dsimp only))) | (dsimp only; walk1; (try ((fail_if_success (with_reducible show wpAny _ _ (subscriptTail _ _ (Value.ref _) (Value.ref _)) _ _ _)); dsimp only))) | (leave1; (try dsimp only)))
  rename News _ _ _ _ => N'
  rename Fr _ _ _ _ => F'
  rw [fdiv_nn hy, fmod_nn hy] at N'
  exact k _ _ _ _ _ F'.keep (push_new st) (N' _ (.head _)).1
end
end Mine
end

section
open PySem PySem.W PySem.Spec PySem.Calls PyProof.Rows
set_option maxRecDepth 100000
set_option maxHeartbeats 4000000
namespace Mine

section
variable {prog : Program} {w : World} {A : Around} {s : Shared} {loose : List Str} {mean : ExcName → Option Value} {mg mb : Str → Option Value} {b : Heap}
  {Q E : Value → Shared → Prop}

theorem fr_congr {g h : Heap} {L : Addr} {m m' : Str → Option Value} (F : Fr g L h m) (e : ∀ y, m y = m' y) : Fr g L h m' := by
  have : m = m' := funext e
  subst this; exact F

def mrow (v : Value) : Str → Option Value := fun y => if y = Str.ofString "row" then some v else none

set_option pp.maxSteps 3000
set_option pp.deepTerms false
theorem bared_spec (HB : Base w loose mean mg mb b) (hs : b.StaysIn s.heap) (hh : A.handled = none) (hd : A.depth + 4 < recursionLimit) (a : Addr) (vs : List Value) (ns : List Int) (hl : s.heap.IsList a vs.toArray) (hi : IntsAre vs ns) (hsz : ns.length < 1000000)
    (k : ∀ h' tk' r ws, s.heap.StaysIn h' → s.heap.get? r = none → h'.IsList r (List.toArray ws) → IntsAre ws ((ns.dropWhile (· == 0)).reverse) → Q (.ref r) { s with heap := h', toks := tk' }) :
    wpAny (model prog w) A (call (.ref 105) [.ref a]) Q E s := by
  refine' enter0 (S := []) (binds := [(Str.ofString "row", .ref a)]) ?HB24 ?hs24 ?hS24 ?ho24 ?hcd24 ?hroom24 ?hbind24 ?hloc24 ?_ ?c224 ?c324 ?c424 ?c524
  (case HB24 => assumption)
  (case hs24 => assumption)
  (case hS24 => (intro a ha; cases ha))
  (case ho24 => k_is)
  (case hcd24 => k_is)
  (case hroom24 => (simp only [recursionLimit, AA] at *); omega)
  (case hbind24 => exact BindsTo.of_eq rfl)
  (case c524 => decide)
  (case hloc24 => exact locs rfl)
  (case c224 => exact rfl)
  (case c324 => exact rfl)
  (case c424 => exact rfl)
  intro g L h₁ hg hL F st X T hb
  subst hg
  have N : News (hideAll s.heap []) L h₁ [] := News.nil
  
  (with_reducible show wpAny _ _ _ _ _ _)
  k_fold
  refine wpAny_execs_cons (wpAny_While ?_)
  refine codeAny_whileLoop (fun n s' => ∃ h' tk a' vs' ns', s' = { s with heap := h', toks := tk } ∧ Fr (hideAll s.heap []) L h' (mrow (.ref a')) ∧ h'.IsList a' (List.toArray vs') ∧ IntsAre vs' ns' ∧ ns'.dropWhile (· == 0) = ns.dropWhile (· == 0) ∧ ns'.length ≤ ns.length ∧ n = ns'.length) ?_ ns.length ?_
  case refine_2 =>
    refine ⟨h₁, _, a, vs, ns, rfl, fr_congr F ?_, ?_, hi, rfl, Nat.le_refl _, rfl⟩
    · intro y; simp [mrow, List.lookup]; split <;> simp_all
    · exact stays_list st hl
  clear F N
  rintro n s' ⟨h, tk, a', vs', ns', rfl, F, hl', hi', e1, e2, rfl⟩
  have N : News (hideAll s.heap []) L h [] := News.nil
  have hz : vs'.toArray.size ≤ sizeLine := by rw [List.size_toArray, hi'.length, sizeLine_eq]; omega
  repeat' ((fail_if_success (with_reducible show Exists _)); (fail_if_success (with_reducible show wpAny _ _ (call (Value.ref _) _) _ _ _)); first | (k_unfold; (try dsimp only)) | (walk1; (try ((fail_if_success (with_reducible show wpAny _ _ (subscriptTail _ _ (Value.ref _) (Value.ref _)) _ _ _)); dsimp only))) | (dsimp only; walk1; (try ((fail_if_success (with_reducible show wpAny _ _ (subscriptTail _ _ (Value.ref _) (Value.ref _)) _ _ _)); dsimp only))) | (leave1; (try dsimp only)))
  · rename_i hpos _
    refine' iseof_spec ?HB27 ?hs27 ?hd27 _ _ ?kk27
    case HB27 => assumption
    case hs27 => exact fun b' o' e' => Fr.keep (by assumption) _ _ (hb _ _ e')
    case hd27 => (simp only [depth_deeper, AA] at *); omega
    intro h2 tk2 hst
    have F2 := fr_ext F hst
    have N2 := news_ext N hst
    have hl2 := stays_list hst hl'
    clear F N hl'
    dsimp only
    repeat' ((fail_if_success (with_reducible show Exists _)); (fail_if_success (with_reducible show wpAny _ _ (call (Value.ref _) _) _ _ _)); first | (k_unfold; (try dsimp only)) | (walk1; (try ((fail_if_success (with_reducible show wpAny _ _ (subscriptTail _ _ (Value.ref _) (Value.ref _)) _ _ _)); dsimp only))) | (dsimp only; walk1; (try ((fail_if_success (with_reducible show wpAny _ _ (subscriptTail _ _ (Value.ref _) (Value.ref _)) _ _ _)); dsimp only))) | (leave1; (try dsimp only)))
    · rename List.getD _ _ _ = _ => hz0
      rename IntsAre _ (List.drop _ _) => hI
      rename Fr _ _ _ _ => F3
      rename News _ _ _ _ => N3
      have e3 : ∃ r, ns' = 0 :: r := by
        cases ns' with
        | nil => simp at hpos
        | cons x r => exact ⟨r, by simpa using hz0⟩
      obtain ⟨r, rfl⟩ := e3
      refine ⟨r.length, by simp, _, _, _, _, r, rfl, fr_congr F3 ?_, News.isList N3 (.head _), by simpa using hI, by rw [← e1]; simp, by simp at e2; omega, rfl⟩
      intro y; simp only [mrow]; split <;> rfl
    · rename ¬ (List.getD _ _ _ = _) => hz0
      rename IntsAre _ (List.reverse _) => hI
      rename Fr _ _ _ _ => F3
      rename News _ _ _ _ => N3
      have e4 : ns.dropWhile (· == 0) = ns' := by
        rw [← e1]
        cases ns' with
        | nil => rfl
        | cons x r => simp at hz0; simp [hz0]
      rw [← e4] at hI
      refine k _ _ _ _ F3.keep ?_ (News.isList N3 (.head _)) hI
      exact (N3 _ (.head _)).2.2
  · rename ¬ (_ < List.length _) => hz0
    rename IntsAre _ (List.reverse _) => hI
    rename Fr _ _ _ _ => F3
    rename News _ _ _ _ => N3
    have : ns' = [] := by cases ns' with | nil => rfl | cons _ _ => simp at hz0
    subst this
    rw [show ([] : List Int) = ns.dropWhile (· == 0) from e1] at hI
    exact k _ _ _ _ F3.keep (N3 _ (.head _)).2.2 (News.isList N3 (.head _)) hI
end
end Mine
end

section
open PySem PySem.W PySem.Spec PySem.Calls PyProof.Rows
set_option maxRecDepth 100000
set_option maxHeartbeats 4000000
namespace Mine

inductive Tr where
  | leaf (n : Int)
  | node (l r : Tr)
def Tr.leaves : Tr → List Int
  | .leaf n => [n]
  | .node l r => l.leaves ++ r.leaves
def Tr.depth : Tr → Nat
  | .leaf _ => 0
  | .node l r => max l.depth r.depth + 1
inductive Unf (R : Int → Option (Int × Int)) : Int → Tr → Prop where
  | leaf {n : Int} : n < 256 → Unf R n (.leaf n)
  | node {n x y : Int} {t u : Tr} : 256 ≤ n → R n = some (x, y) → Unf R x t → Unf R y u → Unf R n (.node t u)

def PairAt (h : Heap) (v : Value) (x y : Int) : Prop := ∃ l tx ty, v = .ref l ∧ h.IsList l #[.int x tx, .int y ty]
theorem PairAt.keeps {h h' : Heap} {v : Value} {x y : Int} (p : PairAt h v x y) (k : h.StaysIn h') : PairAt h' v x y :=
  let ⟨l, tx, ty, e, q⟩ := p; ⟨l, tx, ty, e, stays_list k q⟩
def Gram (prog : Program) (w : World) (h : Heap) (d : Addr) (R : Int → Option (Int × Int)) : Prop :=
  ∃ f : Int → Option Value, h.MapOf (intKind prog w) d f ∧ ∀ n x y, R n = some (x, y) → ∃ v, f n = some v ∧ PairAt h v x y
theorem mapOf_stays {prog : Program} {w : World} {h h' : Heap} {d : Addr} {f : Int → Option Value} (x : h.MapOf (intKind prog w) d f) (k : h.StaysIn h') : h'.MapOf (intKind prog w) d f :=
  let ⟨o, es, ep, ho, r⟩ := x; ⟨o, es, ep, k _ _ ho, r⟩
theorem Gram.keeps {prog : Program} {w : World} {h h' : Heap} {d : Addr} {R : Int → Option (Int × Int)} (G : Gram prog w h d R) (k : h.StaysIn h') : Gram prog w h' d R :=
  let ⟨f, m, q⟩ := G; ⟨f, mapOf_stays m k, fun n x y e => let ⟨v, e1, p⟩ := q n x y e; ⟨v, e1, p.keeps k⟩⟩

section
variable {prog : Program} {w : World} {A : Around} {s : Shared} {loose : List Str} {mean : ExcName → Option Value} {mg mb : Str → Option Value} {b : Heap}
  {Q E : Value → Shared → Prop}

theorem dict_item {value slice : PySem.Expr} {d : Addr} {f : Int → Option Value} {k : Int} {u : Tok} {v : Value}
    (hm : s.heap.MapOf (intKind prog w) d f) (hv : f k = some v) (h : Q v { s with toks := s.toks + 1 })
    (hs : subscripted slice false (.ref d) (.int k u) = operate [.ref d, .int k u] (getItem (.ref d) (.int k u))) :
    wpAny (model prog w) A (subscriptTail value slice (.ref d) (.int k u)) Q E s :=
  tail_any hm.typeIs slot_dict_getitem.lookup (wpAny_getItem_of (intKind_is prog w k u) hm hv h) hs

set_option pp.maxSteps 3000
set_option pp.deepTerms false
theorem spelled_spec (HB : Base w loose mean mg mb b) (d : Addr) (R : Int → Option (Int × Int)) (t : Tr) : ∀ {A : Around} {s : Shared} {Q E : Value → Shared → Prop} (hs : b.StaysIn s.heap) (hd : A.depth + t.depth + 4 < recursionLimit) (n : Int) (tn : Tok)
    (_ : Gram prog w s.heap d R) (_ : Unf R n t) (_ : t.leaves.length < 1000000)
    (k : ∀ h' tk' r ws, s.heap.StaysIn h' → s.heap.get? r = none → h'.IsList r (List.toArray ws) → IntsAre ws t.leaves → Q (.ref r) { s with heap := h', toks := tk' }),
    wpAny (model prog w) A (call (.ref 91) [.ref d, .int n tn]) Q E s := by
  induction t with
  | leaf n =>
    intro A s Q E hs hd n' tn G U hz k
    cases U with
    | leaf hn =>
    refine' enter0 (S := []) (binds := [(Str.ofString "rules", .ref d), (Str.ofString "symbol", .int n tn)]) ?HB31 ?hs31 ?hS31 ?ho31 ?hcd31 ?hroom31 ?hbind31 ?hloc31 ?_ ?c231 ?c331 ?c431 ?c531
    (case HB31 => assumption)
    (case hs31 => assumption)
    (case hS31 => (intro a ha; cases ha))
    (case ho31 => k_is)
    (case hcd31 => k_is)
    (case hroom31 => (simp only [recursionLimit, AA] at *); omega)
    (case hbind31 => exact BindsTo.of_eq rfl)
    (case c531 => decide)
    (case hloc31 => exact locs rfl)
    (case c231 => exact rfl)
    (case c331 => exact rfl)
    (case c431 => exact rfl)
    intro g L h₁ hg hL F st X T hb
    subst hg
    have N : News (hideAll s.heap []) L h₁ [] := News.nil
    
    (with_reducible show wpAny _ _ _ _ _ _)
    k_fold
    repeat' ((fail_if_success (with_reducible show Exists _)); (fail_if_success (with_reducible show wpAny _ _ (call (Value.ref _) _) _ _ _)); first | (k_unfold; (try dsimp only)) | (walk1; (try ((fail_if_success (with_reducible show wpAny _ _ (subscriptTail _ _ (Value.ref _) (Value.ref _)) _ _ _)); dsimp only))) | (dsimp only; walk1; (try ((fail_if_success (with_reducible show wpAny _ _ (subscriptTail _ _ (Value.ref _) (Value.ref _)) _ _ _)); dsimp only))) | (leave1; (try dsimp only)))
    refine' isnonterminal_spec ?HB34 ?hs34 ?hd34 _ _ ?kk34
    case HB34 => assumption
    case hs34 => exact fun b' o' e' => Fr.keep (by assumption) _ _ (hb _ _ e')
    case hd34 => (simp only [depth_deeper, AA] at *); omega
    intro h2 tk2 hst
    (rename Fr _ _ _ _ => F)
    (rename News _ _ _ _ => N)
    have F' := fr_ext F hst
    have N' := news_ext N hst
    clear F N
    have F := F'
    have N := N'
    clear F' N'
    dsimp only
    repeat' ((fail_if_success (with_reducible show Exists _)); (fail_if_success (with_reducible show wpAny _ _ (call (Value.ref _) _) _ _ _)); first | (k_unfold; (try dsimp only)) | (walk1; (try ((fail_if_success (with_reducible show wpAny _ _ (subscriptTail _ _ (Value.ref _) (Value.ref _)) _ _ _)); dsimp only))) | (dsimp only; walk1; (try ((fail_if_success (with_reducible show wpAny _ _ (subscriptTail _ _ (Value.ref _) (Value.ref _)) _ _ _)); dsimp only))) | (leave1; (try dsimp only)))
    rename Fr _ _ _ _ => F3
    rename News _ _ _ _ => N3
    exact k _ _ _ _ F3.keep (N3 _ (.head _)).2.2 (News.isList N3 (.head _)) (IntsAre.cons _ _ .nil)
  | node t u iht ihu =>
    intro A s Q E hs hd n tn G U hz k
    cases U with
    | node hn hR Ut Uu =>
    refine' enter0 (S := []) (binds := [(Str.ofString "rules", .ref d), (Str.ofString "symbol", .int n tn)]) ?HB38 ?hs38 ?hS38 ?ho38 ?hcd38 ?hroom38 ?hbind38 ?hloc38 ?_ ?c238 ?c338 ?c438 ?c538
    (case HB38 => assumption)
    (case hs38 => assumption)
    (case hS38 => (intro a ha; cases ha))
    (case ho38 => k_is)
    (case hcd38 => k_is)
    (case hroom38 => (simp only [recursionLimit, AA] at *); omega)
    (case hbind38 => exact BindsTo.of_eq rfl)
    (case c538 => decide)
    (case hloc38 => exact locs rfl)
    (case c238 => exact rfl)
    (case c338 => exact rfl)
    (case c438 => exact rfl)
    intro g L h₁ hg hL F st X T hb
    subst hg
    have N : News (hideAll s.heap []) L h₁ [] := News.nil
    
    (with_reducible show wpAny _ _ _ _ _ _)
    k_fold
    obtain ⟨f, hm, hf⟩ := id G
    obtain ⟨v, hv, l, tx, ty, rfl, hl⟩ := hf _ _ _ hR
    have hz1 : t.leaves.length < 1000000 := by simp [Tr.leaves] at hz; omega
    have hz2 : u.leaves.length < 1000000 := by simp [Tr.leaves] at hz; omega
    have hd1 : A.depth + 1 + t.depth + 4 < recursionLimit := by simp only [Tr.depth] at hd; omega
    have hd2 : A.depth + 1 + u.depth + 4 < recursionLimit := by simp only [Tr.depth] at hd; omega
    repeat' ((fail_if_success (with_reducible show Exists _)); (fail_if_success (with_reducible show wpAny _ _ (call (Value.ref _) _) _ _ _)); first | (k_unfold; (try dsimp only)) | (walk1; (try ((fail_if_success (with_reducible show wpAny _ _ (subscriptTail _ _ (Value.ref _) (Value.ref _)) _ _ _)); dsimp only))) | (dsimp only; walk1; (try ((fail_if_success (with_reducible show wpAny _ _ (subscriptTail _ _ (Value.ref _) (Value.ref _)) _ _ _)); dsimp only))) | (leave1; (try dsimp only)))
    refine' isnonterminal_spec ?HB41 ?hs41 ?hd41 _ _ ?kk41
    case HB41 => assumption
    case hs41 => exact fun b' o' e' => Fr.keep (by assumption) _ _ (hb _ _ e')
    case hd41 => (simp only [depth_deeper, AA] at *); omega
    intro h2 tk2 hst
    (rename Fr _ _ _ _ => F)
    (rename News _ _ _ _ => N)
    have F' := fr_ext F hst
    have N' := news_ext N hst
    clear F N
    have F := F'
    have N := N'
    clear F' N'
    dsimp only
    repeat' ((fail_if_success (with_reducible show Exists _)); (fail_if_success (with_reducible show wpAny _ _ (call (Value.ref _) _) _ _ _)); (fail_if_success (with_reducible show wpAny _ _ (subscriptTail _ _ (Value.ref _) (Value.int _ _)) _ _ _)); first | (k_unfold; (try dsimp only)) | (walk1; (try ((fail_if_success (with_reducible show wpAny _ _ (subscriptTail _ _ (Value.ref _) (Value.ref _)) _ _ _)); dsimp only))) | (dsimp only; walk1; (try ((fail_if_success (with_reducible show wpAny _ _ (subscriptTail _ _ (Value.ref _) (Value.ref _)) _ _ _)); dsimp only))) | (leave1; (try dsimp only)))
    refine' dict_item ?m45 ?v45 ?h45 ?s45
    case m45 => exact mapOf_stays hm F.keep
    case v45 => exact hv
    case s45 => with_unfolding_all rfl
    dsimp only
    repeat' ((fail_if_success (with_reducible show Exists _)); (fail_if_success (with_reducible show wpAny _ _ (call (Value.ref _) _) _ _ _)); (fail_if_success (with_reducible show wpAny _ _ (subscriptTail _ _ (Value.ref _) (Value.int _ _)) _ _ _)); first | (k_unfold; (try dsimp only)) | (walk1; (try ((fail_if_success (with_reducible show wpAny _ _ (subscriptTail _ _ (Value.ref _) (Value.ref _)) _ _ _)); dsimp only))) | (dsimp only; walk1; (try ((fail_if_success (with_reducible show wpAny _ _ (subscriptTail _ _ (Value.ref _) (Value.ref _)) _ _ _)); dsimp only))) | (leave1; (try dsimp only)))
    refine' item_litK ?l48 ?h048 ?hh48 ?x48 ?h48 ?s48
    case l48 => exact stays_list F.keep hl
    case h048 => decide
    case hh48 => decide
    case x48 => rfl
    case s48 => with_unfolding_all rfl
    try dsimp only
    repeat' ((fail_if_success (with_reducible show Exists _)); (fail_if_success (with_reducible show wpAny _ _ (call (Value.ref _) _) _ _ _)); (fail_if_success (with_reducible show wpAny _ _ (subscriptTail _ _ (Value.ref _) (Value.int _ _)) _ _ _)); first | (k_unfold; (try dsimp only)) | (walk1; (try ((fail_if_success (with_reducible show wpAny _ _ (subscriptTail _ _ (Value.ref _) (Value.ref _)) _ _ _)); dsimp only))) | (dsimp only; walk1; (try ((fail_if_success (with_reducible show wpAny _ _ (subscriptTail _ _ (Value.ref _) (Value.ref _)) _ _ _)); dsimp only))) | (leave1; (try dsimp only)))
    refine' iht ?hs51 ?hd51 _ _ (G.keeps F.keep) Ut hz1 ?kk51
    case hs51 => exact fun b' o' e' => Fr.keep (by assumption) _ _ (hb _ _ e')
    case hd51 => (simp only [depth_deeper, AA] at *); omega
    intro h3 tk3 r1 ws1 hst3 hn3 hl3 hi3
    (rename Fr _ _ _ _ => F)
    (rename News _ _ _ _ => N)
    have F' := fr_ext F hst3
    have N' := news_ext N hst3
    clear F N
    have F := F'
    have N := N'
    clear F' N'
    dsimp only
    repeat' ((fail_if_success (with_reducible show Exists _)); (fail_if_success (with_reducible show wpAny _ _ (call (Value.ref _) _) _ _ _)); (fail_if_success (with_reducible show wpAny _ _ (subscriptTail _ _ (Value.ref _) (Value.int _ _)) _ _ _)); first | (k_unfold; (try dsimp only)) | (walk1; (try ((fail_if_success (with_reducible show wpAny _ _ (subscriptTail _ _ (Value.ref _) (Value.ref _)) _ _ _)); dsimp only))) | (dsimp only; walk1; (try ((fail_if_success (with_reducible show wpAny _ _ (subscriptTail _ _ (Value.ref _) (Value.ref _)) _ _ _)); dsimp only))) | (leave1; (try dsimp only)))
    refine' dict_item ?m55 ?v55 ?h55 ?s55
    case m55 => exact mapOf_stays hm F.keep
    case v55 => exact hv
    case s55 => with_unfolding_all rfl
    dsimp only
    repeat' ((fail_if_success (with_reducible show Exists _)); (fail_if_success (with_reducible show wpAny _ _ (call (Value.ref _) _) _ _ _)); (fail_if_success (with_reducible show wpAny _ _ (subscriptTail _ _ (Value.ref _) (Value.int _ _)) _ _ _)); first | (k_unfold; (try dsimp only)) | (walk1; (try ((fail_if_success (with_reducible show wpAny _ _ (subscriptTail _ _ (Value.ref _) (Value.ref _)) _ _ _)); dsimp only))) | (dsimp only; walk1; (try ((fail_if_success (with_reducible show wpAny _ _ (subscriptTail _ _ (Value.ref _) (Value.ref _)) _ _ _)); dsimp only))) | (leave1; (try dsimp only)))
    refine' item_litK ?l58 ?h058 ?hh58 ?x58 ?h58 ?s58
    case l58 => exact stays_list F.keep hl
    case h058 => decide
    case hh58 => decide
    case x58 => rfl
    case s58 => with_unfolding_all rfl
    try dsimp only
    repeat' ((fail_if_success (with_reducible show Exists _)); (fail_if_success (with_reducible show wpAny _ _ (call (Value.ref _) _) _ _ _)); (fail_if_success (with_reducible show wpAny _ _ (subscriptTail _ _ (Value.ref _) (Value.int _ _)) _ _ _)); first | (k_unfold; (try dsimp only)) | (walk1; (try ((fail_if_success (with_reducible show wpAny _ _ (subscriptTail _ _ (Value.ref _) (Value.ref _)) _ _ _)); dsimp only))) | (dsimp only; walk1; (try ((fail_if_success (with_reducible show wpAny _ _ (subscriptTail _ _ (Value.ref _) (Value.ref _)) _ _ _)); dsimp only))) | (leave1; (try dsimp only)))
    refine' ihu ?hs61 ?hd61 _ _ (G.keeps F.keep) Uu hz2 ?kk61
    case hs61 => exact fun b' o' e' => Fr.keep (by assumption) _ _ (hb _ _ e')
    case hd61 => (simp only [depth_deeper, AA] at *); omega
    intro h4 tk4 r2 ws2 hst4 hn4 hl4 hi4
    (rename Fr _ _ _ _ => F)
    (rename News _ _ _ _ => N)
    have F' := fr_ext F hst4
    have N' := news_ext N hst4
    clear F N
    have F := F'
    have N := N'
    clear F' N'
    have hl3' := stays_list hst4 hl3
    dsimp only
    repeat' ((fail_if_success (with_reducible show Exists _)); first | (k_unfold; (try dsimp only)) | (walk1; (try ((fail_if_success (with_reducible show wpAny _ _ (subscriptTail _ _ (Value.ref _) (Value.ref _)) _ _ _)); dsimp only))) | (dsimp only; walk1; (try ((fail_if_success (with_reducible show wpAny _ _ (subscriptTail _ _ (Value.ref _) (Value.ref _)) _ _ _)); dsimp only))) | (leave1; (try dsimp only)))
    rename IntsAre _ (_ ++ _) => hI
    rename Fr _ _ _ _ => F3
    rename News _ _ _ _ => N3
    exact k _ _ _ _ F3.keep (N3 _ (.head _)).2.2 (News.isList N3 (.head _)) hI
end
end Mine
end

section
open PySem PySem.W PySem.Spec PySem.Calls PyProof.Rows
set_option maxRecDepth 100000
namespace Mine

def Tr.nodes : Tr → Nat
  | .leaf _ => 0
  | .node t u => t.nodes + u.nodes + 1
def Tr.Oct : Tr → Prop
  | .leaf n => 0 ≤ n ∧ n < 256
  | .node t u => t.Oct ∧ u.Oct
def dvT (dv : Int) : Tr → Int → Tr × Int
  | .leaf o, r => (.leaf ((256 * r + o) / dv), (256 * r + o) % dv)
  | .node t u, r => (.node (dvT dv t r).1 (dvT dv u (dvT dv t r).2).1, (dvT dv u (dvT dv t r).2).2)

theorem dvT_ok {dv : Int} (hdv : 0 < dv) : ∀ (t : Tr) (r : Int), t.Oct → 0 ≤ r → r < dv → (dvT dv t r).1.Oct ∧ 0 ≤ (dvT dv t r).2 ∧ (dvT dv t r).2 < dv
  | .leaf o, r, h, h0, h1 => by
    obtain ⟨a, c⟩ := h
    have e1 : 0 ≤ 256 * r + o := by omega
    have e2 : 256 * r + o < 256 * dv := by omega
    refine ⟨⟨Int.ediv_nonneg e1 (Int.le_of_lt hdv), Int.ediv_lt_of_lt_mul hdv e2⟩, Int.emod_nonneg _ (Int.ne_of_gt hdv), Int.emod_lt_of_pos _ hdv⟩
  | .node t u, r, h, h0, h1 => by
    obtain ⟨a, c⟩ := h
    have p := dvT_ok hdv t r a h0 h1
    have q := dvT_ok hdv u (dvT dv t r).2 c p.2.1 p.2.2
    exact ⟨⟨p.1, q.1⟩, q.2⟩
theorem dvT_nodes (dv : Int) : ∀ (t : Tr) (r : Int), (dvT dv t r).1.nodes = t.nodes
  | .leaf o, r => rfl
  | .node t u, r => by simp [dvT, Tr.nodes, dvT_nodes dv t, dvT_nodes dv u]
theorem dvT_depth (dv : Int) : ∀ (t : Tr) (r : Int), (dvT dv t r).1.depth = t.depth
  | .leaf o, r => rfl
  | .node t u, r => by simp [dvT, Tr.depth, dvT_depth dv t, dvT_depth dv u]
theorem dvT_len (dv : Int) : ∀ (t : Tr) (r : Int), (dvT dv t r).1.leaves.length = t.leaves.length
  | .leaf o, r => rfl
  | .node t u, r => by simp [dvT, Tr.leaves, dvT_len dv t, dvT_len dv u]

theorem Unf.det {R : Int → Option (Int × Int)} {n : Int} {t u : Tr} (h : Unf R n t) (h' : Unf R n u) : t = u := by
  induction h generalizing u with
  | leaf h => cases h' with
    | leaf _ => rfl
    | node h2 _ _ _ => omega
  | node h1 hR _ _ iht ihu => cases h' with
    | leaf _ => omega
    | node _ hR' a c =>
      rw [hR] at hR'
      cases hR'
      rw [iht a, ihu c]
theorem Unf.mono {R R' : Int → Option (Int × Int)} (k : ∀ n p, R n = some p → R' n = some p) {n : Int} {t : Tr} (h : Unf R n t) : Unf R' n t := by
  induction h with
  | leaf h => exact .leaf h
  | node h1 hR _ _ iht ihu => exact .node h1 (k _ _ hR) iht ihu

def nm (dv sy r : Int) : Int := 256 + (sy - 256) * dv + r
theorem nm_inj {dv s r s' r' : Int} (h0 : 0 ≤ r) (h1 : r < dv) (h0' : 0 ≤ r') (h1' : r' < dv) (e : nm dv s r = nm dv s' r') : s = s' ∧ r = r' := by
  unfold nm at e
  have hdv : 0 < dv := by omega
  have e1 : (s - 256) * dv + r = (s' - 256) * dv + r' := by omega
  have a1 : ((s - 256) * dv + r) / dv = s - 256 := by
    rw [Int.add_comm, Int.add_mul_ediv_right _ _ (Int.ne_of_gt hdv), Int.ediv_eq_zero_of_lt h0 h1, Int.zero_add]
  have a2 : ((s' - 256) * dv + r') / dv = s' - 256 := by
    rw [Int.add_comm, Int.add_mul_ediv_right _ _ (Int.ne_of_gt hdv), Int.ediv_eq_zero_of_lt h0' h1', Int.zero_add]
  have es : s = s' := by rw [e1, a2] at a1; omega
  subst es
  exact ⟨rfl, by omega⟩
theorem nm_ge {dv s r : Int} (hs : 256 ≤ s) (h0 : 0 ≤ r) (hdv : 0 < dv) : 256 ≤ nm dv s r := by
  unfold nm
  have := Int.mul_nonneg (show 0 ≤ s - 256 by omega) (Int.le_of_lt hdv)
  omega

/-- what the memo says: each name stands for one symbol and one rest, its rule tells the quotient's tree, the other table the rest -/
def PInv (R : Int → Option (Int × Int)) (dv : Int) (M : Int → Option (Int × Int)) (Lf : Int → Option Int) : Prop :=
  ∀ n p, M n = some p → ∃ sy r t, 256 ≤ sy ∧ 0 ≤ r ∧ r < dv ∧ n = nm dv sy r ∧ Unf R sy t ∧ Unf M n (dvT dv t r).1 ∧ Lf n = some (dvT dv t r).2
theorem PInv.nil {R : Int → Option (Int × Int)} {dv : Int} : PInv R dv (fun _ => none) (fun _ => none) := fun _ _ e => by cases e
/-- the names that a division of t adds stand for trees no greater than t -/
def Small (R : Int → Option (Int × Int)) (dv : Int) (M M' : Int → Option (Int × Int)) (k : Nat) : Prop :=
  ∀ n p, M' n = some p → M n = some p ∨ ∃ sy r t, 0 ≤ r ∧ r < dv ∧ n = nm dv sy r ∧ Unf R sy t ∧ t.nodes ≤ k
theorem PInv.hit {R : Int → Option (Int × Int)} {dv : Int} {M : Int → Option (Int × Int)} {Lf : Int → Option Int} (P : PInv R dv M Lf) {n r : Int} {t : Tr} (U : Unf R n t) (h0 : 0 ≤ r) (h1 : r < dv) {p : Int × Int} (e : M (nm dv n r) = some p) :
    Unf M (nm dv n r) (dvT dv t r).1 ∧ Lf (nm dv n r) = some (dvT dv t r).2 := by
  obtain ⟨sy, r', t', _, a0, a1, en, U', u, l⟩ := P _ _ e
  obtain ⟨rfl, rfl⟩ := nm_inj h0 h1 a0 a1 en
  obtain rfl := U.det U'
  exact ⟨u, l⟩
theorem small_miss {R : Int → Option (Int × Int)} {dv : Int} {M M' : Int → Option (Int × Int)} {k : Nat} (S : Small R dv M M' k) {n r : Int} {t : Tr} (U : Unf R n t) (h0 : 0 ≤ r) (h1 : r < dv) (hk : k < t.nodes) (e : M (nm dv n r) = none) : M' (nm dv n r) = none := by
  cases q : M' (nm dv n r) with
  | none => rfl
  | some p =>
    rcases S _ _ q with h | ⟨sy, r', t', a0, a1, en, U', hn⟩
    · rw [e] at h; cases h
    · obtain ⟨rfl, rfl⟩ := nm_inj h0 h1 a0 a1 en
      obtain rfl := U.det U'
      omega
def put {α : Type} (M : Int → Option α) (n : Int) (p : α) : Int → Option α := fun x => if x = n then some p else M x
theorem put_mono {α : Type} {M : Int → Option α} {n : Int} {p : α} (e : M n = none) : ∀ x y, M x = some y → put M n p x = some y := fun x y h => by
  unfold put
  by_cases hx : x = n
  · subst hx; rw [e] at h; cases h
  · rw [if_neg hx]; exact h
theorem PInv.put {R : Int → Option (Int × Int)} {dv : Int} {M : Int → Option (Int × Int)} {Lf : Int → Option Int} (P : PInv R dv M Lf) {n r x y : Int} {t u : Tr} (U : Unf R n (.node t u)) (hn : 256 ≤ n) (h0 : 0 ≤ r) (h1 : r < dv)
    (e : M (nm dv n r) = none) (hx : Unf M x (dvT dv t r).1) (hy : Unf M y (dvT dv u (dvT dv t r).2).1) :
    PInv R dv (put M (nm dv n r) (x, y)) (Mine.put Lf (nm dv n r) (dvT dv (.node t u) r).2) ∧ Unf (Mine.put M (nm dv n r) (x, y)) (nm dv n r) (dvT dv (.node t u) r).1 := by
  have mono := put_mono (p := (x, y)) e
  have U0 : Unf (Mine.put M (nm dv n r) (x, y)) (nm dv n r) (dvT dv (.node t u) r).1 :=
    .node (nm_ge hn h0 (by omega)) (by unfold Mine.put; rw [if_pos rfl]) (hx.mono mono) (hy.mono mono)
  refine ⟨fun k p q => ?_, U0⟩
  by_cases hk : k = nm dv n r
  · subst hk
    exact ⟨n, r, _, hn, h0, h1, rfl, U, U0, by unfold Mine.put; rw [if_pos rfl]⟩
  · unfold Mine.put at q
    rw [if_neg hk] at q
    obtain ⟨sy, r', t', a, c, d, f, U', v, l⟩ := P _ _ q
    exact ⟨sy, r', t', a, c, d, f, U', v.mono mono, by unfold Mine.put; rw [if_neg hk]; exact l⟩
theorem Small.refl {R : Int → Option (Int × Int)} {dv : Int} {M : Int → Option (Int × Int)} {k : Nat} : Small R dv M M k := fun _ _ e => .inl e
theorem Small.trans {R : Int → Option (Int × Int)} {dv : Int} {M M' M'' : Int → Option (Int × Int)} {k k' l : Nat} (a : Small R dv M M' k) (c : Small R dv M' M'' k') (h : k ≤ l) (h' : k' ≤ l) : Small R dv M M'' l := fun n p e => by
  rcases c n p e with e | ⟨sy, r, t, a0, a1, en, U, hn⟩
  · rcases a n p e with e | ⟨sy, r, t, a0, a1, en, U, hn⟩
    · exact .inl e
    · exact .inr ⟨sy, r, t, a0, a1, en, U, Nat.le_trans hn h⟩
  · exact .inr ⟨sy, r, t, a0, a1, en, U, Nat.le_trans hn h'⟩
theorem Small.put {R : Int → Option (Int × Int)} {dv : Int} {M : Int → Option (Int × Int)} {n r : Int} {p : Int × Int} {t : Tr} (U : Unf R n t) (h0 : 0 ≤ r) (h1 : r < dv) : Small R dv M (put M (nm dv n r) p) t.nodes := fun k q e => by
  unfold Mine.put at e
  by_cases hk : k = nm dv n r
  · exact .inr ⟨n, r, t, h0, h1, hk, U, Nat.le_refl _⟩
  · rw [if_neg hk] at e; exact .inl e

end Mine
end

section
open PySem PySem.W PySem.Spec PySem.Calls PyProof.Rows
set_option maxRecDepth 100000
namespace Mine

theorem after_call {g h h' : Heap} {L : Addr} {m : Str → Option Value} {news : List (Addr × Obj)} {S : List Addr} (F : Fr g L h m) (N : News g L h news) (hS : ∀ a ∈ S, g.get? a = none ∧ a ≠ L) (k : (hideAll h S).StaysIn h') :
    ∃ ext, Fr g L h' m ∧ News g L h' ext ∧ (∀ a o, h'.get? a = some o → a ∉ S → a ≠ L → g.get? a = some o ∨ (a, o) ∈ ext) ∧ (∀ p ∈ ext, p.1 ∉ S) ∧ (∀ p ∈ news, p.1 ∉ S → p ∈ ext) := by
  classical
  have keep : ∀ a o, h.get? a = some o → a ∉ S → h'.get? a = some o := fun a o e hn => k _ _ (hideAll_get S e hn)
  have F' : Fr g L h' m := by
    obtain ⟨oL, es, ep, hL, r⟩ := F.ns
    refine ⟨⟨oL, es, ep, keep _ _ hL (fun hx => (hS L hx).2 rfl), r⟩, fun a o e => keep _ _ (F.keep _ _ e) (fun hx => ?_), F.above⟩
    rw [(hS a hx).1] at e; cases e
  let ext : List (Addr × Obj) := (List.range h'.objs.size).filterMap fun a => (h'.get? a).bind fun o => if (g.get? a = none ∧ a ≠ L) ∧ a ∉ S then some (a, o) else none
  have mem : ∀ a o, h'.get? a = some o → g.get? a = none → a ≠ L → a ∉ S → (a, o) ∈ ext := fun a o e h1 h2 h3 => by
    refine List.mem_filterMap.mpr ⟨a, List.mem_range.mpr (Heap.lt_size e), ?_⟩
    rw [e]
    simp only [Option.bind_some]
    rw [if_pos ⟨⟨h1, h2⟩, h3⟩]
  have mem' : ∀ p ∈ ext, h'.get? p.1 = some p.2 ∧ g.get? p.1 = none ∧ p.1 ≠ L ∧ p.1 ∉ S := fun p hp => by
    obtain ⟨a, _, e⟩ := List.mem_filterMap.mp hp
    cases q : h'.get? a with
    | none => rw [q] at e; cases e
    | some o =>
      rw [q] at e
      simp only [Option.bind_some] at e
      by_cases hc : (g.get? a = none ∧ a ≠ L) ∧ a ∉ S
      · rw [if_pos hc] at e; cases e; exact ⟨q, hc.1.1, hc.1.2, hc.2⟩
      · rw [if_neg hc] at e; cases e
  refine ⟨ext, F', fun p hp => ⟨(mem' p hp).1, (mem' p hp).2.2.1, (mem' p hp).2.1⟩, fun a o e h1 h2 => ?_, fun p hp => (mem' p hp).2.2.2, fun p hp hn => mem _ _ (keep _ _ (N p hp).1 hn) (N p hp).2.2 (N p hp).2.1 hn⟩
  cases q : g.get? a with
  | none => exact .inr (mem _ _ e q h2 h1)
  | some o' => have := F'.keep _ _ q; rw [e] at this; exact .inl this.symm

theorem set_step {g h h' : Heap} {L d : Addr} {m : Str → Option Value} {o o' : Obj} {rest : List (Addr × Obj)} (F : Fr g L h m) (N : News g L h ((d, o) :: rest)) (hr : ∀ p ∈ rest, p.1 ≠ d) (hs : Heap.SameBut d h h') (ho : h'.get? d = some o') :
    Fr g L h' m ∧ News g L h' ((d, o') :: rest) := by
  have hd := N (d, o) (.head _)
  refine ⟨⟨F.ns.sameBut hs (Ne.symm hd.2.1), fun a x e => (hs.2 a fun q => ?_).trans (F.keep _ _ e), F.above⟩, fun p hp => ?_⟩
  · have := hd.2.2; rw [← q, e] at this; cases this
  · rcases List.mem_cons.mp hp with rfl | hp
    · exact ⟨ho, hd.2⟩
    · exact ⟨(hs.2 _ (hr p hp)).trans (N p (.tail _ hp)).1, (N p (.tail _ hp)).2⟩

theorem fresh_facts {g h : Heap} {L p : Addr} {m : Str → Option Value} (F : Fr g L h m) (e : h.get? p = none) : g.get? p = none ∧ p ≠ L := by
  constructor
  · cases q : g.get? p with
    | none => rfl
    | some o => rw [F.keep _ _ q] at e; cases e
  · rintro rfl
    obtain ⟨oL, _, _, hL, _⟩ := F.ns
    rw [hL] at e; cases e
theorem news_cons {g h : Heap} {L p : Addr} {o : Obj} {news : List (Addr × Obj)} (N : News g L h news) (e : h.get? p = some o) (k : g.get? p = none ∧ p ≠ L) : News g L h ((p, o) :: news) := fun q hq => by
  rcases List.mem_cons.mp hq with rfl | hq
  · exact ⟨e, k.2, k.1⟩
  · exact N q hq
theorem fresh_hide {h : Heap} {S : List Addr} {a : Addr} (e : (hideAll h S).get? a = none) (n : a ∉ S) : h.get? a = none := by
  cases q : h.get? a with
  | none => rfl
  | some o => rw [hideAll_get S q n] at e; cases e
theorem stays_hide2 {h h' : Heap} {S : List Addr} (k : (hideAll h S).StaysIn h') : (hideAll h S).StaysIn (hideAll h' S) := fun a o e => hideAll_get S (k _ _ e) fun ha => by rw [hideAll_none _ ha] at e; cases e

theorem list_ne_frame {g h : Heap} {L a : Addr} {m : Str → Option Value} {o : Obj} (F : Fr g L h m) (e : h.get? a = some o) {vs : Array Value} {n : Nat} (hd : o.data = .seq vs n) : a ≠ L := fun q => by
  obtain ⟨oL, es, ep, hL, hdL, _⟩ := F.ns
  rw [q, hL] at e; cases e
  rw [hdL] at hd; cases hd

section
variable {prog : Program} {w : World}

def PairK (K : Addr → Obj → Prop) (v : Value) (x y : Int) : Prop := ∃ l o tx ty n, v = .ref l ∧ K l o ∧ o.cls = .type "list" ∧ o.data = .seq #[.int x tx, .int y ty] n
theorem PairK.mono {K K' : Addr → Obj → Prop} {v : Value} {x y : Int} (p : PairK K v x y) (k : ∀ a o, K a o → K' a o) : PairK K' v x y :=
  let ⟨l, o, tx, ty, n, e, q, r⟩ := p; ⟨l, o, tx, ty, n, e, k _ _ q, r⟩

structure MemoB (prog : Program) (w : World) (P : Value → Int → Int → Prop) (kM kL : List (Int × Value)) (c : Nat) (M : Int → Option (Int × Int)) (Lf : Int → Option Int) : Prop where
  cM : kM.length ≤ c
  cL : kL.length ≤ c
  isM : ∀ n, (valueAt kM n).isSome = (M n).isSome
  isL : ∀ n, (valueAt kL n).isSome = (M n).isSome
  pair : ∀ n x y, M n = some (x, y) → ∃ v, valueAt kM n = some v ∧ P v x y
  left : ∀ n r, Lf n = some r → ∃ t, valueAt kL n = some (.int r t)
theorem MemoB.mono {P P' : Value → Int → Int → Prop} {kM kL : List (Int × Value)} {c c' : Nat} {M : Int → Option (Int × Int)} {Lf : Int → Option Int} (x : MemoB prog w P kM kL c M Lf) (k : ∀ v a c, P v a c → P' v a c) (hc : c ≤ c') : MemoB prog w P' kM kL c' M Lf :=
  ⟨Nat.le_trans x.cM hc, Nat.le_trans x.cL hc, x.isM, x.isL, fun n a c e => let ⟨v, e1, p⟩ := x.pair n a c e; ⟨v, e1, k _ _ _ p⟩, x.left⟩

def MemoAt (prog : Program) (w : World) (h : Heap) (dm dl : Addr) (c : Nat) (M : Int → Option (Int × Int)) (Lf : Int → Option Int) : Prop :=
  ∃ kM kL, h.DictOf (intKind prog w) dm kM ∧ h.DictOf (intKind prog w) dl kL ∧ MemoB prog w (PairAt (hideAll h [dm, dl])) kM kL c M Lf
def MemoO (prog : Program) (w : World) (K : Addr → Obj → Prop) (om ol : Obj) (c : Nat) (M : Int → Option (Int × Int)) (Lf : Int → Option Int) : Prop :=
  ∃ kM kL, om.IsDictOf (intKind prog w) kM ∧ ol.IsDictOf (intKind prog w) kL ∧ MemoB prog w (PairK K) kM kL c M Lf

theorem pairK_of {h : Heap} {v : Value} {x y : Int} {K : Addr → Obj → Prop} (k : ∀ a o (vs : Array Value) n, h.get? a = some o → o.data = .seq vs n → K a o) (p : PairAt h v x y) : PairK K v x y := by
  obtain ⟨l, tx, ty, rfl, o, ho, hc, n, hd⟩ := p
  exact ⟨l, o, tx, ty, n, rfl, k _ _ _ _ ho hd, hc, hd⟩
theorem pairAt_of {h : Heap} {v : Value} {x y : Int} {K : Addr → Obj → Prop} (k : ∀ a o, K a o → h.get? a = some o) (p : PairK K v x y) : PairAt h v x y := by
  obtain ⟨l, o, tx, ty, n, rfl, hK, hc, hd⟩ := p
  exact ⟨l, tx, ty, rfl, o, k _ _ hK, hc, n, hd⟩

theorem memo_in {h : Heap} {dm dl : Addr} {c : Nat} {M : Int → Option (Int × Int)} {Lf : Int → Option Int} {K : Addr → Obj → Prop} (k : ∀ a o (vs : Array Value) n, (hideAll h [dm, dl]).get? a = some o → o.data = .seq vs n → K a o) (x : MemoAt prog w h dm dl c M Lf) :
    ∃ om ol, h.get? dm = some om ∧ h.get? dl = some ol ∧ MemoO prog w K om ol c M Lf := by
  obtain ⟨kM, kL, a, c', r⟩ := x
  obtain ⟨om, e1, d1⟩ := Heap.dictOf_iff.mp a
  obtain ⟨ol, e2, d2⟩ := Heap.dictOf_iff.mp c'
  exact ⟨om, ol, e1, e2, kM, kL, d1, d2, r.mono (fun v x y p => pairK_of k p) (Nat.le_refl _)⟩
theorem memo_out {h : Heap} {dm dl : Addr} {om ol : Obj} {c : Nat} {M : Int → Option (Int × Int)} {Lf : Int → Option Int} {K : Addr → Obj → Prop} (e1 : h.get? dm = some om) (e2 : h.get? dl = some ol) (k : ∀ a o, K a o → h.get? a = some o ∧ a ∉ [dm, dl]) (x : MemoO prog w K om ol c M Lf) :
    MemoAt prog w h dm dl c M Lf := by
  obtain ⟨kM, kL, d1, d2, r⟩ := x
  exact ⟨kM, kL, Heap.dictOf_iff.mpr ⟨_, e1, d1⟩, Heap.dictOf_iff.mpr ⟨_, e2, d2⟩, r.mono (fun v x y p => pairAt_of (fun a o q => hideAll_get _ (k a o q).1 (k a o q).2) p) (Nat.le_refl _)⟩
theorem MemoAt.mono {h : Heap} {dm dl : Addr} {c c' : Nat} {M : Int → Option (Int × Int)} {Lf : Int → Option Int} (x : MemoAt prog w h dm dl c M Lf) (hc : c ≤ c') : MemoAt prog w h dm dl c' M Lf :=
  let ⟨kM, kL, d1, d2, r⟩ := x; ⟨kM, kL, d1, d2, r.mono (fun _ _ _ p => p) hc⟩
theorem MemoO.mono {K K' : Addr → Obj → Prop} {om ol : Obj} {c : Nat} {M : Int → Option (Int × Int)} {Lf : Int → Option Int} (x : MemoO prog w K om ol c M Lf) (k : ∀ a o, K a o → K' a o) : MemoO prog w K' om ol c M Lf :=
  let ⟨kM, kL, d1, d2, r⟩ := x; ⟨kM, kL, d1, d2, r.mono (fun _ _ _ p => p.mono k) (Nat.le_refl _)⟩

theorem valueAt_new {kvs : List (Int × Value)} {k : Int} {v : Value} (h : valueAt kvs k = none) (x : Int) : valueAt (stored kvs k v) x = if x = k then some v else valueAt kvs x := by
  rw [stored_absent h]
  unfold valueAt at h ⊢
  rw [List.find?_append]
  by_cases hx : x = k
  · subst hx
    rw [if_pos rfl]
    cases q : kvs.find? (fun kv => decide (kv.1 = x)) with
    | none => simp
    | some y => rw [q] at h; cases h
  · rw [if_neg hx]
    cases q : kvs.find? (fun kv => decide (kv.1 = x)) with
    | none => simp [Ne.symm hx]
    | some y => simp
theorem MemoB.put {P P' : Value → Int → Int → Prop} {kM kL : List (Int × Value)} {c : Nat} {M : Int → Option (Int × Int)} {Lf : Int → Option Int} (X : MemoB prog w P kM kL c M Lf) (k : ∀ v a c, P v a c → P' v a c) {n x y r : Int} {t : Tok} {v : Value} (e : M n = none) (hv : P' v x y) :
    MemoB prog w P' (stored kM n v) (stored kL n (.int r t)) (c + 1) (put M n (x, y)) (Mine.put Lf n r) := by
  have eM : valueAt kM n = none := by have := X.isM n; rw [e] at this; simpa using this
  have eL : valueAt kL n = none := by have := X.isL n; rw [e] at this; simpa using this
  refine ⟨Nat.le_trans (stored_length_le _ _ _) (Nat.succ_le_succ X.cM), Nat.le_trans (stored_length_le _ _ _) (Nat.succ_le_succ X.cL), fun z => ?_, fun z => ?_, fun z a c q => ?_, fun z a q => ?_⟩
  · rw [valueAt_new eM]
    unfold Mine.put
    by_cases hz : z = n
    · rw [if_pos hz, if_pos hz]; rfl
    · rw [if_neg hz, if_neg hz]; exact X.isM z
  · rw [valueAt_new eL]
    unfold Mine.put
    by_cases hz : z = n
    · rw [if_pos hz, if_pos hz]; rfl
    · rw [if_neg hz, if_neg hz]; exact X.isL z
  · rw [valueAt_new eM]
    unfold Mine.put at q
    by_cases hz : z = n
    · rw [if_pos hz] at q; cases q; exact ⟨v, by rw [if_pos hz], hv⟩
    · rw [if_neg hz] at q ⊢; obtain ⟨v', e1, p⟩ := X.pair _ _ _ q; exact ⟨v', e1, k _ _ _ p⟩
  · rw [valueAt_new eL]
    unfold Mine.put at q
    by_cases hz : z = n
    · rw [if_pos hz] at q; cases q; exact ⟨t, by rw [if_pos hz]⟩
    · rw [if_neg hz] at q ⊢; exact X.left _ _ q
end
end Mine
end

section
open PySem PySem.W PySem.Spec PySem.Calls PyProof.Rows
set_option maxRecDepth 100000
set_option maxHeartbeats 4000000
namespace Mine

section
variable {prog : Program} {w : World} {loose : List Str} {mean : ExcName → Option Value} {mg mb : Str → Option Value} {b : Heap}

set_option pp.maxSteps 3000
set_option pp.deepTerms false
theorem divided_spec (HB : Base w loose mean mg mb b) (d dm dl : Addr) (R : Int → Option (Int × Int)) (dv : Int) (td : Tok) (hdv : 0 < dv) (hdv2 : dv < 1073741824) (hbm : b.get? dm = none) (hbl : b.get? dl = none) (hne : dm ≠ dl) (hlo : (dm == sysModules) = false) (t : Tr) :
    ∀ {dp un : Nat} {fr : Option (List Env)} {gd : Option (List Code)} {s : Shared} {Q E : Value → Shared → Prop} (hs : b.StaysIn s.heap) (hd : dp + t.depth + 4 < recursionLimit) (n : Int) (tn : Tok) (r : Int) (tr : Tok) (c : Nat) (M : Int → Option (Int × Int)) (Lf : Int → Option Int)
    (_ : Gram prog w (hideAll s.heap [dm, dl]) d R) (_ : Unf R n t) (_ : t.Oct) (_ : 0 ≤ r) (_ : r < dv) (_ : PInv R dv M Lf) (_ : MemoAt prog w s.heap dm dl c M Lf) (_ : c + t.nodes < 1000000)
    (k : ∀ h' tk' p q tq tr' M' Lf', (hideAll s.heap [dm, dl]).StaysIn h' → s.heap.get? p = none → h'.get? p = some { cls := .type "tuple", data := .seq #[.int q tq, .int (dvT dv t r).2 tr'] } →
      PInv R dv M' Lf' → MemoAt prog w h' dm dl (c + t.nodes) M' Lf' → (∀ x y, M x = some y → M' x = some y) → Small R dv M M' t.nodes → Unf M' q (dvT dv t r).1 → Q (.ref p) { s with heap := h', toks := tk' }),
    wpAny (model prog w) (AA dp un fr gd) (call (.ref 98) [.ref d, .int n tn, .int r tr, .int dv td, .ref dm, .ref dl]) Q E s := by
  induction t with
  | leaf o =>
    intro dp un fr gd s Q E hs hd n tn r tr c M Lf G U ho h0 h1 P X hc k
    cases U with
    | leaf hn =>
    obtain ⟨om, ol, e1, e2, O⟩ := memo_in (K := fun a o => (hideAll s.heap [dm, dl]).get? a = some o) (fun _ _ _ _ e _ => e) X
    refine' enter0 (S := [dm, dl]) (binds := [(Str.ofString "rules", .ref d), (Str.ofString "symbol", .int o tn), (Str.ofString "rest", .int r tr), (Str.ofString "divisor", .int dv td), (Str.ofString "made", .ref dm), (Str.ofString "left", .ref dl)]) ?HB65 ?hs65 ?hS65 ?ho65 ?hcd65 ?hroom65 ?hbind65 ?hloc65 ?_ ?c265 ?c365 ?c465 ?c565
    (case HB65 => assumption)
    (case hs65 => assumption)
    (case hS65 => (intro a ha; simp at ha; rcases ha with rfl | rfl <;> assumption))
    (case ho65 => k_is)
    (case hcd65 => k_is)
    (case hroom65 => (simp only [recursionLimit, AA] at *); omega)
    (case hbind65 => exact BindsTo.of_eq rfl)
    (case c565 => decide)
    (case hloc65 => exact locs rfl)
    (case c265 => exact rfl)
    (case c365 => exact rfl)
    (case c465 => exact rfl)
    intro g L h₁ hg hL F st X T hb
    have hgm : g.get? dm = none := by rw [hg]; exact hideAll_none _ (.head _)
    have hgl : g.get? dl = none := by rw [hg]; exact hideAll_none _ (.tail _ (.head _))
    have hLm : dm ≠ L := by rw [hL]; exact Nat.ne_of_lt (Heap.lt_size e1)
    have hLl : dl ≠ L := by rw [hL]; exact Nat.ne_of_lt (Heap.lt_size e2)
    have N : News g L h₁ [(dm, om), (dl, ol)] := fun p hp => by
      rcases List.mem_cons.mp hp with rfl | hp
      · exact ⟨st _ _ e1, hLm, hgm⟩
      · obtain rfl := List.mem_singleton.mp hp; exact ⟨st _ _ e2, hLl, hgl⟩
    (with_reducible show wpAny _ _ _ _ _ _)
    k_fold
    repeat' ((fail_if_success (with_reducible show Exists _)); (fail_if_success (with_reducible show wpAny _ _ (call (Value.ref _) _) _ _ _)); first | (k_unfold; (try dsimp only)) | (walk1; (try ((fail_if_success (with_reducible show wpAny _ _ (subscriptTail _ _ (Value.ref _) (Value.ref _)) _ _ _)); dsimp only))) | (dsimp only; walk1; (try ((fail_if_success (with_reducible show wpAny _ _ (subscriptTail _ _ (Value.ref _) (Value.ref _)) _ _ _)); dsimp only))) | (leave1; (try dsimp only)))
    refine' isterminal_spec ?HB67 ?hs67 ?hd67 _ _ ?kk67
    case HB67 => assumption
    case hs67 => exact fun b' o' e' => Fr.keep (by assumption) _ _ (hb _ _ e')
    case hd67 => (simp only [depth_deeper, AA] at *); omega
    intro h2 tk2 hst
    (rename Fr _ _ _ _ => F)
    (rename News _ _ _ _ => N)
    have F' := fr_ext F hst
    have N' := news_ext N hst
    clear F N
    have F := F'
    have N := N'
    clear F' N'
    dsimp only
    repeat' ((fail_if_success (with_reducible show Exists _)); (fail_if_success (with_reducible show wpAny _ _ (call (Value.ref _) _) _ _ _)); first | (k_unfold; (try dsimp only)) | (walk1; (try ((fail_if_success (with_reducible show wpAny _ _ (subscriptTail _ _ (Value.ref _) (Value.ref _)) _ _ _)); dsimp only))) | (dsimp only; walk1; (try ((fail_if_success (with_reducible show wpAny _ _ (subscriptTail _ _ (Value.ref _) (Value.ref _)) _ _ _)); dsimp only))) | (leave1; (try dsimp only)))
    rename Fr _ _ _ _ => F3
    rename News _ _ _ _ => N3
    rw [fdiv_nn hdv, fmod_nn hdv] at N3
    subst hg
    refine k _ _ _ _ _ _ M Lf F3.keep (push_new fun _ _ e => hst _ _ (st _ _ e)) (N3 _ (.head _)).1 P ?_ (fun _ _ e => e) Small.refl (Unf.leaf (dvT_ok hdv _ _ ho h0 h1).1.2)
    refine memo_out (N3 (dm, om) (.tail _ (.head _))).1 (N3 (dl, ol) (.tail _ (.tail _ (.head _)))).1 (fun a o q => ⟨F3.keep _ _ q, fun ha => ?_⟩) O
    simp at ha
    rcases ha with rfl | rfl
    · rw [hgm] at q; cases q
    · rw [hgl] at q; cases q
  | node t u iht ihu =>
    intro dp un fr gd s Q E hs hd n tn r tr c M Lf G U ho h0 h1 P X hc k
    have U0 := U
    cases U with
    | node hn hR Ut Uu =>
    obtain ⟨om, ol, e1, e2, O⟩ := memo_in (K := fun a o => (hideAll s.heap [dm, dl]).get? a = some o) (fun _ _ _ _ e _ => e) X
    refine' enter0 (S := [dm, dl]) (binds := [(Str.ofString "rules", .ref d), (Str.ofString "symbol", .int n tn), (Str.ofString "rest", .int r tr), (Str.ofString "divisor", .int dv td), (Str.ofString "made", .ref dm), (Str.ofString "left", .ref dl)]) ?HB70 ?hs70 ?hS70 ?ho70 ?hcd70 ?hroom70 ?hbind70 ?hloc70 ?_ ?c270 ?c370 ?c470 ?c570
    (case HB70 => assumption)
    (case hs70 => assumption)
    (case hS70 => (intro a ha; simp at ha; rcases ha with rfl | rfl <;> assumption))
    (case ho70 => k_is)
    (case hcd70 => k_is)
    (case hroom70 => (simp only [recursionLimit, AA] at *); omega)
    (case hbind70 => exact BindsTo.of_eq rfl)
    (case c570 => decide)
    (case hloc70 => exact locs rfl)
    (case c270 => exact rfl)
    (case c370 => exact rfl)
    (case c470 => exact rfl)
    intro g L h₁ hg hL F st X T hb
    have hgm : g.get? dm = none := by rw [hg]; exact hideAll_none _ (.head _)
    have hgl : g.get? dl = none := by rw [hg]; exact hideAll_none _ (.tail _ (.head _))
    have hLm : dm ≠ L := by rw [hL]; exact Nat.ne_of_lt (Heap.lt_size e1)
    have hLl : dl ≠ L := by rw [hL]; exact Nat.ne_of_lt (Heap.lt_size e2)
    have N : News g L h₁ [(dm, om), (dl, ol)] := fun p hp => by
      rcases List.mem_cons.mp hp with rfl | hp
      · exact ⟨st _ _ e1, hLm, hgm⟩
      · obtain rfl := List.mem_singleton.mp hp; exact ⟨st _ _ e2, hLl, hgl⟩
    (with_reducible show wpAny _ _ _ _ _ _)
    k_fold
    have G0 : Gram prog w g d R := hg ▸ G
    obtain ⟨f, hm, hf⟩ := id G0
    obtain ⟨v, hv, l, tx, ty, rfl, hl⟩ := hf _ _ _ hR
    have hd1 : dp + 1 + t.depth + 4 < recursionLimit := by simp only [Tr.depth] at hd; omega
    have hd2 : dp + 1 + u.depth + 4 < recursionLimit := by simp only [Tr.depth] at hd; omega
    repeat' ((fail_if_success (with_reducible show Exists _)); (fail_if_success (with_reducible show wpAny _ _ (call (Value.ref _) _) _ _ _)); first | (k_unfold; (try dsimp only)) | (walk1; (try ((fail_if_success (with_reducible show wpAny _ _ (subscriptTail _ _ (Value.ref _) (Value.ref _)) _ _ _)); dsimp only))) | (dsimp only; walk1; (try ((fail_if_success (with_reducible show wpAny _ _ (subscriptTail _ _ (Value.ref _) (Value.ref _)) _ _ _)); dsimp only))) | (leave1; (try dsimp only)))
    refine' isterminal_spec ?HB72 ?hs72 ?hd72 _ _ ?kk72
    case HB72 => assumption
    case hs72 => exact fun b' o' e' => Fr.keep (by assumption) _ _ (hb _ _ e')
    case hd72 => (simp only [depth_deeper, AA] at *); omega
    intro h2 tk2 hst
    (rename Fr _ _ _ _ => F)
    (rename News _ _ _ _ => N)
    have F' := fr_ext F hst
    have N' := news_ext N hst
    clear F N
    have F := F'
    have N := N'
    clear F' N'
    dsimp only
    repeat' ((fail_if_success (with_reducible show Exists _)); (fail_if_success (with_reducible show wpAny _ _ (call (Value.ref _) _) _ _ _)); (fail_if_success (with_reducible show wpAny _ _ (compareOp _ _ (Value.ref _)) _ _ _)); first | (k_unfold; (try dsimp only)) | (walk1; (try ((fail_if_success (with_reducible show wpAny _ _ (subscriptTail _ _ (Value.ref _) (Value.ref _)) _ _ _)); dsimp only))) | (dsimp only; walk1; (try ((fail_if_success (with_reducible show wpAny _ _ (subscriptTail _ _ (Value.ref _) (Value.ref _)) _ _ _)); dsimp only))) | (leave1; (try dsimp only)))
    (rename Fr _ _ _ _ => F)
    (rename News _ _ _ _ => N)
    have hS : ∀ a ∈ [dm, dl], g.get? a = none := by intro a ha; simp at ha; rcases ha with rfl | rfl <;> assumption
    have hSL : ∀ a ∈ [dm, dl], g.get? a = none ∧ a ≠ L := by intro a ha; simp at ha; rcases ha with rfl | rfl <;> exact ⟨by assumption, by assumption⟩
    obtain ⟨kM, kL, dM, dL, MB⟩ := id O
    refine' wpAny_notIn_of (f := valueAt kM) ?key1 ?hdd1 ?hmm1 ?hh1
    case key1 => exact intKind_is _ _ _ _
    case hdd1 => exact hlo
    case hmm1 => exact (Heap.dictOf_iff.mpr ⟨_, (N (dm, om) (.head _)).1, dM⟩).mapOf
    have eM := MB.isM (nm dv n r)
    cases hM : M (nm dv n r) with
    | some pr =>
      rw [hM] at eM
      rw [show (valueAt kM (256 + (n - 256) * dv + r)).isSome = true from eM]
      obtain ⟨uh, lh⟩ := P.hit U0 h0 h1 hM
      obtain ⟨tl, hvl⟩ := MB.left _ _ lh
      dsimp only [Bool.not_true]
      repeat' ((fail_if_success (with_reducible show Exists _)); (fail_if_success (with_reducible show wpAny _ _ (call (Value.ref _) _) _ _ _)); (fail_if_success (with_reducible show wpAny _ _ (subscriptTail _ _ (Value.ref _) (Value.int _ _)) _ _ _)); first | (k_unfold; (try dsimp only)) | (walk1; (try ((fail_if_success (with_reducible show wpAny _ _ (subscriptTail _ _ (Value.ref _) (Value.ref _)) _ _ _)); dsimp only))) | (dsimp only; walk1; (try ((fail_if_success (with_reducible show wpAny _ _ (subscriptTail _ _ (Value.ref _) (Value.ref _)) _ _ _)); dsimp only))) | (leave1; (try dsimp only)))
      refine' dict_item ?m78 ?v78 ?h78 ?s78
      case m78 => exact (Heap.dictOf_iff.mpr ⟨_, (N (dl, ol) (.tail _ (.head _))).1, dL⟩).mapOf
      case v78 => exact hvl
      case s78 => with_unfolding_all rfl
      dsimp only
      repeat' ((fail_if_success (with_reducible show Exists _)); first | (k_unfold; (try dsimp only)) | (walk1; (try ((fail_if_success (with_reducible show wpAny _ _ (subscriptTail _ _ (Value.ref _) (Value.ref _)) _ _ _)); dsimp only))) | (dsimp only; walk1; (try ((fail_if_success (with_reducible show wpAny _ _ (subscriptTail _ _ (Value.ref _) (Value.ref _)) _ _ _)); dsimp only))) | (leave1; (try dsimp only)))
      rename _ ∧ _ => l1
      (rename Fr _ _ _ _ => F)
      (rename News _ _ _ _ => N)
      have hD := (N _ (.head _)).2.2
      rw [hg] at hD
      subst hg
      refine k _ _ _ _ _ _ M Lf F.keep (fresh_hide hD ?_) (N _ (.head _)).1 P (MemoAt.mono (memo_out (N (dm, om) (.tail _ (.head _))).1 (N (dl, ol) (.tail _ (.tail _ (.head _)))).1 (fun a o q => ⟨F.keep _ _ q, fun ha => ?_⟩) O) (Nat.le_add_right _ _)) (fun _ _ e => e) Small.refl uh
      · simp; exact ⟨Nat.ne_of_gt l1.1, Nat.ne_of_gt l1.2⟩
      · rw [hideAll_none _ ha] at q; cases q
    | none =>
      rw [hM] at eM
      rw [show (valueAt kM (256 + (n - 256) * dv + r)).isSome = false from eM]
      dsimp only [Bool.not_false]
      repeat' ((fail_if_success (with_reducible show Exists _)); (fail_if_success (with_reducible show wpAny _ _ (call (Value.ref _) _) _ _ _)); (fail_if_success (with_reducible show wpAny _ _ (subscriptTail _ _ (Value.ref _) (Value.int _ _)) _ _ _)); first | (k_unfold; (try dsimp only)) | (walk1; (try ((fail_if_success (with_reducible show wpAny _ _ (subscriptTail _ _ (Value.ref _) (Value.ref _)) _ _ _)); dsimp only))) | (dsimp only; walk1; (try ((fail_if_success (with_reducible show wpAny _ _ (subscriptTail _ _ (Value.ref _) (Value.ref _)) _ _ _)); dsimp only))) | (leave1; (try dsimp only)))
      refine' dict_item ?m83 ?v83 ?h83 ?s83
      case m83 => exact mapOf_stays hm F.keep
      case v83 => exact hv
      case s83 => with_unfolding_all rfl
      dsimp only
      repeat' ((fail_if_success (with_reducible show Exists _)); (fail_if_success (with_reducible show wpAny _ _ (call (Value.ref _) _) _ _ _)); (fail_if_success (with_reducible show wpAny _ _ (subscriptTail _ _ (Value.ref _) (Value.int _ _)) _ _ _)); first | (k_unfold; (try dsimp only)) | (walk1; (try ((fail_if_success (with_reducible show wpAny _ _ (subscriptTail _ _ (Value.ref _) (Value.ref _)) _ _ _)); dsimp only))) | (dsimp only; walk1; (try ((fail_if_success (with_reducible show wpAny _ _ (subscriptTail _ _ (Value.ref _) (Value.ref _)) _ _ _)); dsimp only))) | (leave1; (try dsimp only)))
      refine' item_litK ?l86 ?h086 ?hh86 ?x86 ?h86 ?s86
      case l86 => exact stays_list F.keep hl
      case h086 => decide
      case hh86 => decide
      case x86 => rfl
      case s86 => with_unfolding_all rfl
      try dsimp only
      repeat' ((fail_if_success (with_reducible show Exists _)); (fail_if_success (with_reducible show wpAny _ _ (call (Value.ref _) _) _ _ _)); (fail_if_success (with_reducible show wpAny _ _ (subscriptTail _ _ (Value.ref _) (Value.int _ _)) _ _ _)); first | (k_unfold; (try dsimp only)) | (walk1; (try ((fail_if_success (with_reducible show wpAny _ _ (subscriptTail _ _ (Value.ref _) (Value.ref _)) _ _ _)); dsimp only))) | (dsimp only; walk1; (try ((fail_if_success (with_reducible show wpAny _ _ (subscriptTail _ _ (Value.ref _) (Value.ref _)) _ _ _)); dsimp only))) | (leave1; (try dsimp only)))
      have Xn := memo_out (prog := prog) (w := w) (N (dm, om) (.head _)).1 (N (dl, ol) (.tail _ (.head _))).1 (K := fun a o => (hideAll s.heap [dm, dl]).get? a = some o) (fun a o q => ⟨F.keep _ _ (hg ▸ q), fun ha => by have := hS a ha; rw [hg, q] at this; cases this⟩) O
      refine' iht ?hs89 ?hd89 _ _ _ _ c M Lf (G0.keeps (stays_hide F.keep hS)) Ut ho.1 h0 h1 P Xn (by simp only [Tr.nodes] at hc; omega) ?kk89
      case hs89 => exact fun b' o' e' => Fr.keep (by assumption) _ _ (hb _ _ e')
      case hd89 => (simp only [depth_deeper, AA] at *); omega
      intro h3 tk3 p1 q1 tq1 tr1 M1 L1 st3 hp3 hg3 P1 X1 mono1 S1 U1
      obtain ⟨ext1, F3, N3, full3, off3, old3⟩ := after_call (S := [dm, dl]) F N hSL st3
      obtain ⟨om1, ol1, e31, e32, O1⟩ := memo_in (K := fun a o => g.get? a = some o ∨ (a, o) ∈ ext1) (fun a o vs z e hd => full3 a o (of_hideAll _ e) (fun ha => by rw [hideAll_none _ ha] at e; cases e) (list_ne_frame F3 (of_hideAll _ e) hd)) X1
      have N4 : News g L h3 ((p1, { cls := .type "tuple", data := .seq #[.int q1 tq1, .int (dvT dv t r).2 tr1] }) :: (dm, om1) :: (dl, ol1) :: ext1) := by
        exact news_cons (news_cons (news_cons N3 e32 (hSL _ (by simp))) e31 (hSL _ (by simp))) hg3 (fresh_facts F hp3)
      clear N N3 F
      have F := F3
      clear F3
      dsimp only
      repeat' ((fail_if_success (with_reducible show Exists _)); (fail_if_success (with_reducible show wpAny _ _ (call (Value.ref _) _) _ _ _)); (fail_if_success (with_reducible show wpAny _ _ (subscriptTail _ _ (Value.ref _) (Value.int _ _)) _ _ _)); first | (k_unfold; (try dsimp only)) | (walk1; (try ((fail_if_success (with_reducible show wpAny _ _ (subscriptTail _ _ (Value.ref _) (Value.ref _)) _ _ _)); dsimp only))) | (dsimp only; walk1; (try ((fail_if_success (with_reducible show wpAny _ _ (subscriptTail _ _ (Value.ref _) (Value.ref _)) _ _ _)); dsimp only))) | (leave1; (try dsimp only)))
      (rename Fr _ _ _ _ => F)
      (rename News _ _ _ _ => N)
      refine' dict_item ?m93 ?v93 ?h93 ?s93
      case m93 => exact mapOf_stays hm F.keep
      case v93 => exact hv
      case s93 => with_unfolding_all rfl
      dsimp only
      repeat' ((fail_if_success (with_reducible show Exists _)); (fail_if_success (with_reducible show wpAny _ _ (call (Value.ref _) _) _ _ _)); (fail_if_success (with_reducible show wpAny _ _ (subscriptTail _ _ (Value.ref _) (Value.int _ _)) _ _ _)); first | (k_unfold; (try dsimp only)) | (walk1; (try ((fail_if_success (with_reducible show wpAny _ _ (subscriptTail _ _ (Value.ref _) (Value.ref _)) _ _ _)); dsimp only))) | (dsimp only; walk1; (try ((fail_if_success (with_reducible show wpAny _ _ (subscriptTail _ _ (Value.ref _) (Value.ref _)) _ _ _)); dsimp only))) | (leave1; (try dsimp only)))
      refine' item_litK ?l96 ?h096 ?hh96 ?x96 ?h96 ?s96
      case l96 => exact stays_list F.keep hl
      case h096 => decide
      case hh96 => decide
      case x96 => rfl
      case s96 => with_unfolding_all rfl
      try dsimp only
      repeat' ((fail_if_success (with_reducible show Exists _)); (fail_if_success (with_reducible show wpAny _ _ (call (Value.ref _) _) _ _ _)); (fail_if_success (with_reducible show wpAny _ _ (subscriptTail _ _ (Value.ref _) (Value.int _ _)) _ _ _)); first | (k_unfold; (try dsimp only)) | (walk1; (try ((fail_if_success (with_reducible show wpAny _ _ (subscriptTail _ _ (Value.ref _) (Value.ref _)) _ _ _)); dsimp only))) | (dsimp only; walk1; (try ((fail_if_success (with_reducible show wpAny _ _ (subscriptTail _ _ (Value.ref _) (Value.ref _)) _ _ _)); dsimp only))) | (leave1; (try dsimp only)))
      have Xn1 := memo_out (prog := prog) (w := w) (N (dm, om1) (.tail _ (.head _))).1 (N (dl, ol1) (.tail _ (.tail _ (.head _)))).1 (K := fun a o => g.get? a = some o ∨ (a, o) ∈ ext1)
        (fun a o q => q.elim (fun q => ⟨F.keep _ _ q, fun ha => by have := hS a ha; rw [q] at this; cases this⟩) fun q => ⟨(N (a, o) (.tail _ (.tail _ (.tail _ q)))).1, off3 _ q⟩) O1
      have k2 := dvT_ok hdv t r ho.1 h0 h1
      refine' ihu ?hs99 ?hd99 _ _ _ _ (c + t.nodes) M1 L1 (G0.keeps (stays_hide F.keep hS)) Uu ho.2 k2.2.1 k2.2.2 P1 Xn1 (by simp only [Tr.nodes] at hc; omega) ?kk99
      case hs99 => exact fun b' o' e' => Fr.keep (by assumption) _ _ (hb _ _ e')
      case hd99 => (simp only [depth_deeper, AA] at *); omega
      intro h4 tk4 p2 q2 tq2 tr2 M2 L2 st4 hp4 hg4 P2 X2 mono2 S2 U2
      obtain ⟨ext2, F4, N4', full4, off4, old4⟩ := after_call (S := [dm, dl]) F N hSL st4
      obtain ⟨om2, ol2, e41, e42, O2⟩ := memo_in (K := fun a o => g.get? a = some o ∨ (a, o) ∈ ext2) (fun a o vs z e hd => full4 a o (of_hideAll _ e) (fun ha => by rw [hideAll_none _ ha] at e; cases e) (list_ne_frame F4 (of_hideAll _ e) hd)) X2
      have N5 : News g L h4 ((p2, { cls := .type "tuple", data := .seq #[.int q2 tq2, .int (dvT dv u (dvT dv t r).2).2 tr2] }) :: (dm, om2) :: (dl, ol2) :: ext2) :=
        news_cons (news_cons (news_cons N4' e42 (hSL _ (by simp))) e41 (hSL _ (by simp))) hg4 (fresh_facts F hp4)
      clear N N4' F
      have F := F4
      clear F4
      dsimp only
      repeat' ((fail_if_success (with_reducible show Exists _)); (fail_if_success (with_reducible show wpAny _ _ (call (Value.ref _) _) _ _ _)); (fail_if_success (with_reducible show wpAny _ _ (subscriptTail _ _ (Value.ref _) (Value.int _ _)) _ _ _)); (fail_if_success (with_reducible show wpAny _ _ (setItem _ _ _) _ _ _)); first | (k_unfold; (try dsimp only)) | (walk1; (try ((fail_if_success (with_reducible show wpAny _ _ (subscriptTail _ _ (Value.ref _) (Value.ref _)) _ _ _)); dsimp only))) | (dsimp only; walk1; (try ((fail_if_success (with_reducible show wpAny _ _ (subscriptTail _ _ (Value.ref _) (Value.ref _)) _ _ _)); dsimp only))) | (leave1; (try dsimp only)))
      rename _ ∧ _ => l1
      rename Addr => l2
      (rename Fr _ _ _ _ => F)
      (rename News _ _ _ _ => N)
      obtain ⟨kM2, kL2, dM2, dL2, MB2⟩ := id O2
      have hmiss : M2 (nm dv n r) = none := small_miss (Small.trans S1 S2 (Nat.le_max_left _ _) (Nat.le_max_right _ _)) U0 h0 h1 (by simp only [Tr.nodes]; omega) hM
      have eM2 : valueAt kM2 (nm dv n r) = none := by have := MB2.isM (nm dv n r); rw [hmiss] at this; simpa using this
      have eL2 : valueAt kL2 (nm dv n r) = none := by have := MB2.isL (nm dv n r); rw [hmiss] at this; simpa using this
      have szM : kM2.length ≤ sizeLine := by rw [sizeLine_eq]; have := MB2.cM; simp only [Tr.nodes] at hc; omega
      have szL : kL2.length ≤ sizeLine := by rw [sizeLine_eq]; have := MB2.cL; simp only [Tr.nodes] at hc; omega
      have N6 : News g L _ ((dm, om2) :: (l2, W.listOf #[Value.int q1 tq1, Value.int q2 tq2] 0) :: (dl, ol2) :: ext2) := news_sub N (fun p hp => by simp at hp ⊢; rcases hp with h | h | h | h <;> simp [h])
      refine' wpAny_setItem_pairs (kvs := kM2) ?key2 ?hm2 ?hQ2 ?hsz2
      case key2 => exact intKind_is _ _ _ _
      case hm2 => exact Heap.dictOf_iff.mpr ⟨_, (N6 (dm, om2) (.head _)).1, dM2⟩
      case hsz2 => exact szM
      intro h5 hm5 hs5
      obtain ⟨om3, e5, d5⟩ := Heap.dictOf_iff.mp hm5
      obtain ⟨F5, N5⟩ := set_step F N6 (fun p hp => by
        simp at hp
        rcases hp with rfl | rfl | hp
        · exact Nat.ne_of_gt l1.2.1
        · exact Ne.symm hne
        · exact fun q => off4 _ hp (by simp [q])) hs5 e5
      clear F N N6
      have F := F5
      have N : News g L h5 ((dl, ol2) :: (dm, om3) :: (l2, W.listOf #[Value.int q1 tq1, Value.int q2 tq2] 0) :: ext2) := news_sub N5 (fun p hp => by simp at hp ⊢; rcases hp with h | h | h | h <;> simp [h])
      clear F5 N5
      dsimp only
      repeat' ((fail_if_success (with_reducible show Exists _)); (fail_if_success (with_reducible show wpAny _ _ (call (Value.ref _) _) _ _ _)); (fail_if_success (with_reducible show wpAny _ _ (subscriptTail _ _ (Value.ref _) (Value.int _ _)) _ _ _)); (fail_if_success (with_reducible show wpAny _ _ (setItem _ _ _) _ _ _)); first | (k_unfold; (try dsimp only)) | (walk1; (try ((fail_if_success (with_reducible show wpAny _ _ (subscriptTail _ _ (Value.ref _) (Value.ref _)) _ _ _)); dsimp only))) | (dsimp only; walk1; (try ((fail_if_success (with_reducible show wpAny _ _ (subscriptTail _ _ (Value.ref _) (Value.ref _)) _ _ _)); dsimp only))) | (leave1; (try dsimp only)))
      (rename Fr _ _ _ _ => F)
      (rename News _ _ _ _ => N)
      refine' wpAny_setItem_pairs (kvs := kL2) ?key3 ?hm3 ?hQ3 ?hsz3
      case key3 => exact intKind_is _ _ _ _
      case hm3 => exact Heap.dictOf_iff.mpr ⟨_, (N (dl, ol2) (.head _)).1, dL2⟩
      case hsz3 => exact szL
      intro h6 hm6 hs6
      obtain ⟨ol3, e6, d6⟩ := Heap.dictOf_iff.mp hm6
      obtain ⟨F6, N6⟩ := set_step F N (fun p hp => by
        simp at hp
        rcases hp with rfl | rfl | hp
        · exact hne
        · exact Nat.ne_of_gt l1.2.2.1
        · exact fun q => off4 _ hp (by simp [q])) hs6 e6
      clear F N
      have F := F6
      have N := N6
      clear F6 N6
      dsimp only
      repeat' ((fail_if_success (with_reducible show Exists _)); (fail_if_success (with_reducible show wpAny _ _ (call (Value.ref _) _) _ _ _)); (fail_if_success (with_reducible show wpAny _ _ (subscriptTail _ _ (Value.ref _) (Value.int _ _)) _ _ _)); first | (k_unfold; (try dsimp only)) | (walk1; (try ((fail_if_success (with_reducible show wpAny _ _ (subscriptTail _ _ (Value.ref _) (Value.ref _)) _ _ _)); dsimp only))) | (dsimp only; walk1; (try ((fail_if_success (with_reducible show wpAny _ _ (subscriptTail _ _ (Value.ref _) (Value.ref _)) _ _ _)); dsimp only))) | (leave1; (try dsimp only)))
      (rename Fr _ _ _ _ => F)
      (rename News _ _ _ _ => N)
      refine' dict_item ?m107 ?v107 ?h107 ?s107
      case m107 => exact hm6.mapOf
      case v107 => exact (valueAt_new eL2 _).trans (if_pos rfl)
      case s107 => with_unfolding_all rfl
      dsimp only
      repeat' ((fail_if_success (with_reducible show Exists _)); first | (k_unfold; (try dsimp only)) | (walk1; (try ((fail_if_success (with_reducible show wpAny _ _ (subscriptTail _ _ (Value.ref _) (Value.ref _)) _ _ _)); dsimp only))) | (dsimp only; walk1; (try ((fail_if_success (with_reducible show wpAny _ _ (subscriptTail _ _ (Value.ref _) (Value.ref _)) _ _ _)); dsimp only))) | (leave1; (try dsimp only)))
      rename _ ∧ _ => l3
      (rename Fr _ _ _ _ => F)
      (rename News _ _ _ _ => N)
      have hD := (N _ (.head _)).2.2
      rw [hg] at hD
      obtain ⟨PP, UU⟩ := P2.put U0 hn h0 h1 hmiss (U1.mono mono2) U2
      subst hg
      refine k _ _ _ _ _ _ _ _ F.keep (fresh_hide hD ?_) (N _ (.head _)).1 PP (MemoAt.mono (memo_out (N (dm, om3) (.tail _ (.tail _ (.head _)))).1 (N (dl, ol3) (.tail _ (.head _))).1
        (K := fun a o => ((hideAll s.heap [dm, dl]).get? a = some o ∨ (a, o) ∈ ext2) ∨ (a, o) = (l2, W.listOf #[Value.int q1 tq1, Value.int q2 tq2] 0)) (fun a o q => ?_) ⟨_, _, d5, d6, MB2.put (fun _ _ _ p => p.mono fun _ _ q => .inl q) hmiss ?_⟩) ?_)
        (fun x y e => put_mono hmiss _ _ (mono2 _ _ (mono1 _ _ e))) (Small.trans (Small.trans S1 S2 (Nat.le_max_left _ _) (Nat.le_max_right _ _)) (Small.put U0 h0 h1) ?_ (Nat.le_refl _)) UU
      · simp; exact ⟨Nat.ne_of_gt l3.2.1, Nat.ne_of_gt l3.1⟩
      · rcases q with (q | q) | q
        · exact ⟨F.keep _ _ q, fun ha => by have := hS a ha; rw [q] at this; cases this⟩
        · exact ⟨(N (a, o) (.tail _ (.tail _ (.tail _ (.tail _ q))))).1, off4 _ q⟩
        · cases q
          exact ⟨(N _ (.tail _ (.tail _ (.tail _ (.head _))))).1, by simp; exact ⟨Nat.ne_of_gt l1.2.1, Nat.ne_of_gt l1.2.2.1⟩⟩
      · exact ⟨l2, _, _, _, _, rfl, .inr rfl, rfl, rfl⟩
      · simp only [Tr.nodes]; omega
      · simp only [Tr.nodes]; omega
end
end Mine
end

section
open PySem PySem.W PySem.Spec PySem.Calls PyProof.Rows
set_option maxRecDepth 100000
namespace Mine

section
variable {prog : Program} {w : World} {A : Around} {s : Shared} {loose : List Str} {mean : ExcName → Option Value} {mg mb : Str → Option Value} {b : Heap}
  {Q E : Value → Shared → Prop}

theorem enterC {S : List Addr} {name qual : Str} {params : Arguments} {body : List Stmt} {scope : Scope} {dV kV doc pm cdv ct oc : Value} {an od : Option Addr} {osl : Array (Option Value)} {f : Addr} {vals : List Value} {binds : List (Str × Value)}
    (HB : Base w loose mean mg mb b) (hs : b.StaysIn s.heap) (hS : ∀ a ∈ S, b.get? a = none)
    (ho : (hd.heap_39 w.params).lookup f = some ⟨oc, od, .func (fnOf name qual params body scope dV kV doc pm an cdv ct), osl⟩) (hcd : codeIn (hd.heap_39 w.params) cdv qual = true) (hroom : A.depth < recursionLimit)
    (hbind : BindsTo s (fnOf name qual params body scope dV kV doc pm an cdv ct) ⟨vals, []⟩ binds) (hkind : (binds.all fun y => scope.names.lookup y.1 == some .local || scope.names.lookup y.1 == some .cell) = true)
    (hnd : ((cellsFrom 0 scope.names []).map (·.1)).Nodup)
    (h : ∀ g L h₁ tk cells, g = hideAll s.heap S → L = s.heap.objs.size → Fr g L h₁ (bindL (envOfC qual scope L f cdv).kindOf binds fun _ => none) → News g L h₁ cells →
      CellsAre (bindC (envOfC qual scope L f cdv).kindOf binds fun _ => none) (cellsFrom (L + 1) scope.names []) cells → s.heap.StaysIn h₁ → (hd.heap_39 w.params).In g → Top topProg loose mean mg mb g → b.StaysIn g →
      wpAny (model prog w) (A.deeper (envOfC qual scope L f cdv)) (execs body (envOfC qual scope L f cdv))
        (fun fl s' => Q (match fl with | .ret v => v | _ => .none) s') (fun _ _ => False)
        { s with heap := h₁, toks := tk })
    (hco : scope.isCoroutine = false) (hgen : scope.isGenerator = false) (hk : scope.kind = .function) : wpAny (model prog w) A (call (.ref f) vals) Q E s := by
  have st := stays_hide hs hS
  refine wpAny_call (codeAny_call_function hroom ((HB.X.keeps hs) _ _ ho) rfl hco hgen rfl (codeRec_of (HB.X.keeps hs) hcd) (hbind _ _ _ _ ?_))
  refine wpAny_newFunctionEnv_cells hk (kindsX hkind _) fun env' he s' x => ?_
  subst he
  refine ⟨(HB.T.nolimit.keeps hs).keeps x.toInCall.keep, codeAny_func ?_⟩
  obtain ⟨h₁, tk, rfl, _⟩ := x.done
  have hk₁ := x.toInCall.keep
  obtain ⟨cells, NC, Y⟩ := Cl.news (h₀ := s.heap) (Nat.le_refl _) fun n c hm => ⟨x.cell n c (lookup_of_mem_nodup (cellsFrom_names scope.names 0 (s.heap.objs.size + 1) [] [] rfl ▸ hnd) hm), x.above n c hm⟩
  refine wpAny_mono (h _ s.heap.objs.size h₁ tk cells rfl rfl ⟨x.toInCall.ns, fun b o e => hk₁ b o (of_hideAll _ e), Nat.le_of_eq (hideAll_size _ _)⟩ (fun p hp => ⟨(NC p hp).1, (NC p hp).2.1, ?_⟩) Y hk₁ (HB.X.keeps st) (HB.T.keeps st) st) (fun fl s' hl => hl) (fun _ _ x => x.elim)
  cases q : (hideAll s.heap S).get? p.1 with
  | none => rfl
  | some o => have := of_hideAll _ q; rw [(NC p hp).2.2] at this; cases this

theorem enterX {S : List Addr} {name qual : Str} {params : Arguments} {body : List Stmt} {scope : Scope} {cl : List (Str × Addr)} {dV kV doc pm cdv ct : Value} {an : Option Addr} {fo : Obj} {f : Addr} {vals : List Value} {binds : List (Str × Value)}
    (HB : Base w loose mean mg mb b) (hs : b.StaysIn s.heap) (hS : ∀ a ∈ S, b.get? a = none)
    (ho : s.heap.get? f = some fo) (hdt : fo.data = .func (fnX name qual params body scope cl dV kV doc pm an cdv ct)) (hcd : s.heap.CodeRec cdv qual) (hroom : A.depth < recursionLimit)
    (hbind : BindsTo s (fnX name qual params body scope cl dV kV doc pm an cdv ct) ⟨vals, []⟩ binds) (hloc : ∀ y ∈ binds, scope.names.lookup y.1 = some .local)
    (h : ∀ g L h₁, g = hideAll s.heap S → L = s.heap.objs.size → Fr g L h₁ (fun y => binds.reverse.lookup y) → s.heap.StaysIn h₁ → (Mine.hd.heap_39 w.params).In g → Top topProg loose mean mg mb g → b.StaysIn g →
      wpAny (model prog w) (A.deeper (envX qual scope L f cdv cl)) (execs body (envX qual scope L f cdv cl))
        (fun fl s' => Q (match fl with | .ret v => v | _ => .none) s') (fun _ _ => False)
        { s with heap := h₁, toks := s.toks + binds.length })
    (hco : scope.isCoroutine = false) (hgen : scope.isGenerator = false) (hk : scope.kind = .function)
    (hcell : ∀ x ∈ scope.names, x.2 ≠ .cell) : wpAny (model prog w) A (call (.ref f) vals) Q E s := by
  have st := stays_hide hs hS
  refine wpAny_call (codeAny_call_def (fd := fnX name qual params body scope cl dV kV doc pm an cdv ct) (body := body) (binds := binds) hroom ho hdt (HB.T.nolimit.keeps hs) hcd rfl hbind hcell hloc (fun h₁ hns hk₁ => ?_) hco hgen hk)
  exact wpAny_mono (h _ s.heap.objs.size h₁ rfl rfl ⟨hns, fun b o e => hk₁ b o (of_hideAll _ e), Nat.le_of_eq (hideAll_size _ _)⟩ hk₁ (HB.X.keeps st) (HB.T.keeps st) st) (fun fl s' hl => hl) (fun _ _ x => x.elim)
end

def RecAt (h : Heap) (qual : Str) (c' : Addr) : Prop := (hideAll h [58, 51]).CodeRec (.ref c') qual
def TabIs (ps : Array Value) (ln cl : Int) (P : Addr → Prop) : Prop := ps = #[] ∨ ∃ c', ps = #[rawInt ln, rawInt cl, .ref c'] ∧ P c'
def TabSt (h : Heap) (P : Addr) (ln cl : Int) (qual : Str) : Prop := ∃ ps, h.get? P = some (tabObj ps) ∧ TabIs ps ln cl (RecAt h qual)
theorem RecAt.keeps {h h' : Heap} {qual : Str} {c' : Addr} (x : RecAt h qual c') (k : (hideAll h [58, 51]).StaysIn h') : RecAt h' qual c' := Heap.CodeRec.keeps x (stays_hide2 k)
theorem RecAt.rec {h : Heap} {qual : Str} {c' : Addr} (x : RecAt h qual c') : h.CodeRec (.ref c') qual := Heap.CodeRec.keeps x fun _ _ e => of_hideAll _ e
theorem TabIs.mono {ps : Array Value} {ln cl : Int} {P P' : Addr → Prop} (x : TabIs ps ln cl P) (k : ∀ c, P c → P' c) : TabIs ps ln cl P' := x.imp id fun ⟨c, e, p⟩ => ⟨c, e, k c p⟩
theorem TabSt.keeps {h h' : Heap} {P : Addr} {ln cl : Int} {qual : Str} (x : TabSt h P ln cl qual) (k : (hideAll h [58, 51]).StaysIn h') (e : ∀ o, h.get? P = some o → h'.get? P = some o) : TabSt h' P ln cl qual :=
  let ⟨ps, e1, t⟩ := x; ⟨ps, e _ e1, t.mono fun _ r => r.keeps k⟩
theorem hide_sub {h h' : Heap} {S S' : List Addr} (k : (hideAll h S).StaysIn h') (hS : ∀ a ∈ S, a ∈ S') : (hideAll h S').StaysIn h' := fun a o e => k _ _ (hideAll_get S (of_hideAll _ e) fun ha => by rw [hideAll_none _ (hS a ha)] at e; cases e)
theorem stays_any {h h' : Heap} (k : h.StaysIn h') (S : List Addr) : (hideAll h S).StaysIn h' := fun a o e => k _ _ (of_hideAll _ e)

section
variable {prog : Program} {w : World} {A : Around} {s : Shared} {g : Heap} {L a : Addr} {m : Str → Option Value} {cn : Str} {cs : Scope} {ccd : Value} {cl : List (Str × Addr)} {x : Str} {pos : Pos} {v : Value} {c : Addr}
  {Q E : Value → Shared → Prop}
theorem fnAt_F {h : Heap} {q : Addr} (F : Fr g L h m) (x : FnAt q g) : FnAt q h := let ⟨oc, od, fd, sl, e⟩ := x; ⟨oc, od, fd, sl, F.keep _ _ e⟩
theorem nameX_G (F : Fr g L s.heap m) (hc : cl.lookup x = some c) (hv : g.IsCell c (some v)) (h : Q v s)
    (hk : cs.kind = .function) (hx : (envX cn cs L a ccd cl).kindOf x = some .free) (hb : (x == ("__debug__" : Str)) = false) (hn : (x == ("__classdict__" : Str)) = false) :
    wpAny (model prog w) A (eval (.Name x pos) (envX cn cs L a ccd cl)) Q E s := wpAny_Name (wpAny_loadName_free hk hx hc (hv.keeps F.keep) h hn) hb
end
end Mine
end

section
open PySem PySem.W PySem.Spec PySem.Calls PyProof.Rows
set_option maxRecDepth 100000
namespace Mine

/-- the whole number whose figures to the base B are these, the lowest first -/
def valB (B : Int) : List Int → Int
  | [] => 0
  | d :: r => d + B * valB B r
theorem valB_append (B : Int) : ∀ xs ys : List Int, valB B (xs ++ ys) = valB B xs + B ^ xs.length * valB B ys
  | [], ys => by simp [valB]
  | d :: r, ys => by
    simp only [List.cons_append, valB, List.length_cons, valB_append B r ys, Int.pow_succ]
    rw [Int.mul_add, Int.add_assoc, Int.mul_comm (B ^ r.length) B, Int.mul_assoc]
def Figs (B : Int) (xs : List Int) : Prop := ∀ d ∈ xs, 0 ≤ d ∧ d < B
theorem Figs.drop {B : Int} {xs : List Int} (h : Figs B xs) (k : Nat) : Figs B (xs.drop k) := fun d hd => h d (List.mem_of_mem_drop hd)
theorem Figs.take {B : Int} {xs : List Int} (h : Figs B xs) (k : Nat) : Figs B (xs.take k) := fun d hd => h d (List.mem_of_mem_take hd)
theorem valB_bounds {B : Int} (hB : 0 < B) : ∀ {xs : List Int}, Figs B xs → 0 ≤ valB B xs ∧ valB B xs < B ^ xs.length
  | [], _ => by simp [valB]
  | d :: r, h => by
    have ih := valB_bounds hB (xs := r) fun x hx => h x (.tail _ hx)
    have hd := h d (.head _)
    simp only [valB, List.length_cons, Int.pow_succ]
    have p1 : 0 ≤ B * valB B r := Int.mul_nonneg (Int.le_of_lt hB) ih.1
    have p2 : B * (valB B r + 1) ≤ B * B ^ r.length := Int.mul_le_mul_of_nonneg_left (by omega) (Int.le_of_lt hB)
    rw [Int.mul_add, Int.mul_one] at p2
    rw [Int.mul_comm (B ^ r.length) B]
    omega
theorem pow_mul_toNat (n k : Int) (hn : 0 ≤ n) (hk : 0 ≤ k) : (2 : Int) ^ (k * n).toNat = (2 ^ n.toNat) ^ k.toNat := by
  rw [← Int.pow_mul]
  congr 1
  have : (k * n).toNat = k.toNat * n.toNat := by
    rw [Int.toNat_mul hk hn]
  rw [this, Nat.mul_comm]
theorem bits_of_lt {x : Int} {k : Nat} (h0 : 0 ≤ x) (h : x < 2 ^ k) : Builtin.Int.intBits x ≤ k := by
  refine intBits_le ?_
  have : (x.natAbs : Int) < ((2 ^ k : Nat) : Int) := by
    rw [Int.natAbs_of_nonneg h0]
    simpa using h
  exact Int.ofNat_lt.mp this
theorem seg_split {α : Type} (xs : List α) {a m b : Nat} (h1 : a ≤ m) (h2 : m ≤ b) : (xs.drop a).take (b - a) = (xs.drop a).take (m - a) ++ (xs.drop m).take (b - m) := by
  have e : b - a = (m - a) + (b - m) := by omega
  rw [e, List.take_add, List.drop_drop]
  congr 3
  omega
theorem seg_one {xs : List Int} {a : Nat} (h : a < xs.length) : (xs.drop a).take 1 = [xs.getD a 0] := by
  rw [List.drop_eq_getElem_cons h, List.take_succ_cons, List.take_zero]
  simp [List.getD, h]
theorem ints_get {vs : List Value} {ns : List Int} (h : IntsAre vs ns) : ∀ {i : Nat}, i < ns.length → ∃ t, vs[i]? = some (.int (ns.getD i 0) t) := by
  induction h with
  | nil => intro i hi; simp at hi
  | cons n t _ ih =>
    intro i hi
    cases i with
    | zero => exact ⟨t, rfl⟩
    | succ i => simpa using ih (by simpa using hi)
theorem two_pow_le {x y : Nat} (h : x ≤ y) : (2 : Int) ^ x ≤ 2 ^ y := by
  have := Nat.pow_le_pow_right (n := 2) (by decide) h
  exact_mod_cast this
theorem mul_bound {x n a c : Int} (h0 : 0 ≤ x) (h1 : x ≤ a) (h2 : 0 ≤ n) (h3 : n ≤ c) : 0 ≤ x * n ∧ x * n ≤ a * c :=
  ⟨Int.mul_nonneg h0 h2, Int.mul_le_mul h1 h3 h2 (Int.le_trans h0 h1)⟩
theorem val_bits {n : Int} {xs : List Int} (h0 : 0 < n) (h1 : n ≤ 64) (hl : xs.length ≤ 1000) (hf : Figs (2 ^ n.toNat) xs) : Builtin.Int.intBits (valB (2 ^ n.toNat) xs) ≤ 64000 := by
  have hb := valB_bounds (B := 2 ^ n.toNat) (Int.pow_pos (by decide)) hf
  refine bits_of_lt hb.1 (Int.lt_of_lt_of_le hb.2 ?_)
  rw [← Int.pow_mul]
  refine two_pow_le ?_
  have : n.toNat ≤ 64 := by omega
  exact Nat.mul_le_mul this hl
end Mine
end

section
open PySem PySem.W PySem.Spec PySem.Calls PyProof.Rows
set_option maxRecDepth 100000
set_option maxHeartbeats 4000000
namespace Mine

/-- of a def whose first statement is a def: that inner one's name, parameters, body and scope -/
def innerOf (K : Frag) (f : Addr) : Option (Str × Arguments × List Stmt × Scope) := match K.lookup f with
  | some ⟨_, _, .func fd, _⟩ => (match fd.body with
    | .stmts (st :: rest) => (match st with
      | .FunctionDef name ps body _ _ _ scope _ _ _ => some (name, ps, body, scope)
      | _ => (match rest with
        | .FunctionDef name ps body _ _ _ scope _ _ _ :: _ => some (name, ps, body, scope)
        | _ => none))
    | _ => none)
  | _ => none

section
variable {prog : Program} {w : World} {loose : List Str} {mean : ExcName → Option Value} {mg mb : Str → Option Value} {b : Heap}
theorem innerOf_63 {P : Params} {x y : Str × Arguments × List Stmt × Scope} (e : innerOf (hd.heap_39 P) 63 = some x) (h : innerOf (hd.heap_39 P) 63 = some y) : x = y := Option.some.inj (e.symm.trans h)

local macro_rules | `(tactic| walk_at "eval Name") => `(tactic| (k_here; (with_reducible rename Fr _ _ _ _ => kF); with_unfolding_all refine' nameX_G ?F ?c ?v ?_ ?a ?b ?c2 ?d; (case a => rfl); (case b => rfl); (case c2 => decide); (case d => decide); (case F => exact kF); (case c => rfl); (case v => assumption); k_whole))

local macro_rules | `(tactic| walk_at "FnAt") => `(tactic| exact fnAt_F (by assumption) (by assumption))
local macro_rules | `(tactic| walk_at "callWith ref") => `(tactic| (k_here; k_dflt (refine' callWith_F ?k1 ?_; (case k1 => exact fnAt_F (by assumption) (by assumption)); k_whole)))

set_option pp.maxSteps 3000
set_option pp.deepTerms false
theorem inner_d (HB : Base w loose mean mg mb b) {f c' c1 c2 c3 dg : Addr} {name qual : Str} {prs : Arguments} {body : List Stmt} {scope : Scope} (hI : innerOf (hd.heap_39 w.params) 63 = some (name, prs, body, scope)) {doc pm ctv : Value}
    {vs : List Value} {ds : List Int} {n : Int} {tn : Tok} (hi : IntsAre vs ds) (hn0 : 0 < n) (hn1 : n ≤ 64) (hlen : ds.length ≤ 1000) (hfig : Figs (2 ^ n.toNat) ds) (k : Nat) :
    ∀ {dp un : Nat} {fr : Option (List Env)} {gd : Option (List Code)} {s : Shared} {Q E : Value → Shared → Prop} (hs : b.StaysIn s.heap) (hd : dp + k + 5 < recursionLimit) (lo hi : Int) (tl th : Tok)
      (_ : s.heap.get? f = some (fnMade name qual prs body scope [(Str.ofString "n", c2), (Str.ofString "inner", c1), (Str.ofString "digits", c3)] doc pm c' ctv)) (_ : s.heap.CodeRec (.ref c') qual)
      (_ : s.heap.IsCell c3 (some (.ref dg))) (_ : s.heap.IsCell c2 (some (.int n tn))) (_ : s.heap.IsCell c1 (some (.ref f))) (_ : s.heap.IsList dg vs.toArray)
      (_ : (hi - lo).toNat ≤ k) (_ : 0 ≤ lo) (_ : lo < hi) (_ : hi ≤ ds.length)
      (kk : ∀ h' tk' t, s.heap.StaysIn h' → Q (.int (valB (2 ^ n.toNat) ((ds.drop lo.toNat).take (hi.toNat - lo.toNat))) t) { s with heap := h', toks := tk' }),
    wpAny (model prog w) (AA dp un fr gd) (call (.ref f) [.int lo tl, .int hi th]) Q E s := by
  have hI' := innerOf_63 (P := w.params) rfl hI
  cases hI'
  clear hI
  induction k with
  | zero => intros; omega
  | succ k ih =>
    intro dp un fr gd s Q E hs hd lo hi' tl th hf hrec hc3 hc2 hc1 hl hk h0 hlt hle kk
    refine' enterX (S := []) (binds := [(Str.ofString "L", .int lo tl), (Str.ofString "R", .int hi' th)]) ?HB111 ?hs111 ?hS111 ?ho111 ?hdt111 ?hcd111 ?hroom111 ?hbind111 ?hloc111 ?_ ?c2111 ?c3111 ?c4111 ?c5111
    (case HB111 => assumption)
    (case hs111 => assumption)
    (case hS111 => (intro a ha; cases ha))
    (case ho111 => assumption)
    (case hdt111 => exact rfl)
    (case hcd111 => assumption)
    (case hroom111 => (simp only [recursionLimit, AA] at *); omega)
    (case hbind111 => exact BindsTo.of_eq rfl)
    (case c5111 => decide)
    (case hloc111 => exact locs rfl)
    (case c2111 => exact rfl)
    (case c3111 => exact rfl)
    (case c4111 => exact rfl)
    intro g L h₁ hg hL F st X T hb
    subst hg
    have N : News (hideAll s.heap []) L h₁ [] := News.nil
    have hc3 : (hideAll s.heap []).IsCell c3 (some (.ref dg)) := hc3
    have hc2 : (hideAll s.heap []).IsCell c2 (some (.int n tn)) := hc2
    have hc1 : (hideAll s.heap []).IsCell c1 (some (.ref f)) := hc1
    have hl : (hideAll s.heap []).IsList dg vs.toArray := hl
    have hfn : FnAt f (hideAll s.heap []) := ⟨_, _, _, _, hf⟩
    (with_reducible show wpAny _ _ _ _ _ _)
    k_fold
    repeat' ((fail_if_success (with_reducible show Exists _)); (fail_if_success (with_reducible show wpAny _ _ (call (Value.ref _) _) _ _ _)); (fail_if_success (with_reducible show wpAny _ _ (subscriptTail _ _ (Value.ref _) (Value.int _ _)) _ _ _)); first | (k_unfold; (try dsimp only)) | (walk1; (try ((fail_if_success (with_reducible show wpAny _ _ (subscriptTail _ _ (Value.ref _) (Value.ref _)) _ _ _)); dsimp only))) | (dsimp only; walk1; (try ((fail_if_success (with_reducible show wpAny _ _ (subscriptTail _ _ (Value.ref _) (Value.ref _)) _ _ _)); dsimp only))) | (leave1; (try dsimp only)))
    · rename _ + _ = _ => hone
      (rename Fr _ _ _ _ => F)
      (rename News _ _ _ _ => N)
      obtain ⟨tv, hv⟩ := ints_get hi (i := lo.toNat) (by omega)
      refine' item_litK ?l ?h0 ?hh ?x ?h ?s
      case l => exact stays_list F.keep hl
      case h0 => exact h0
      case hh => omega
      case x => exact hv
      case s => with_unfolding_all rfl
      k_unfold
      dsimp only
      have e : ds.getD lo.toNat 0 = valB (2 ^ n.toNat) ((ds.drop lo.toNat).take (hi'.toNat - lo.toNat)) := by
        rw [show hi'.toNat - lo.toNat = 1 by omega, seg_one (by omega)]
        simp [valB]
      rw [e]
      exact kk _ _ _ F.keep
    · rename _ + _ ≠ _ => hone
      (rename Fr _ _ _ _ => F)
      (rename News _ _ _ _ => N)
      have hmid : (lo + hi').fdiv (2 ^ Int.toNat 1) = (lo + hi') / 2 := fdiv_nn (by decide)
      rw [hmid]
      rw [hmid] at F
      generalize em : (lo + hi') / 2 = mid at F ⊢
      have m1 : lo < mid := by omega
      have m2 : mid < hi' := by omega
      have hb2 := val_bits hn0 hn1 (xs := (ds.drop mid.toNat).take (hi'.toNat - mid.toNat)) (by simp; omega) ((hfig.drop _).take _)
      have hsh := mul_bound (x := mid - lo) (n := n) (a := 1000) (c := 64) (by omega) (by omega) (by omega) hn1
      refine' ih ?hs115 ?hd115 _ _ _ _ (F.keep _ _ hf) (hrec.keeps F.keep) (hc3.keeps F.keep) (hc2.keeps F.keep) (hc1.keeps F.keep) (stays_list F.keep hl) (by omega) (by omega) m2 hle ?kk115
      case hs115 => exact fun b' o' e' => Fr.keep (by assumption) _ _ (hb _ _ e')
      case hd115 => (simp only [depth_deeper, AA] at *); omega
      intro h3 tk3 t3 st3
      (rename Fr _ _ _ _ => F)
      (rename News _ _ _ _ => N)
      have F' := fr_ext F st3
      have N' := news_ext N st3
      clear F N
      have F := F'
      have N := N'
      clear F' N'
      dsimp only
      repeat' ((fail_if_success (with_reducible show Exists _)); (fail_if_success (with_reducible show wpAny _ _ (call (Value.ref _) _) _ _ _)); (fail_if_success (with_reducible show wpAny _ _ (binaryOp Operator.LShift _ _) _ _ _)); first | (k_unfold; (try dsimp only)) | (walk1; (try ((fail_if_success (with_reducible show wpAny _ _ (subscriptTail _ _ (Value.ref _) (Value.ref _)) _ _ _)); dsimp only))) | (dsimp only; walk1; (try ((fail_if_success (with_reducible show wpAny _ _ (subscriptTail _ _ (Value.ref _) (Value.ref _)) _ _ _)); dsimp only))) | (leave1; (try dsimp only)))
      refine' lshift_int ?sn ?ss ?sh
      case sn => exact hsh.1
      case ss =>
        rw [show (2 : Int) ^ 27 = 134217728 by decide]
        omega
      repeat' ((fail_if_success (with_reducible show Exists _)); (fail_if_success (with_reducible show wpAny _ _ (call (Value.ref _) _) _ _ _)); first | (k_unfold; (try dsimp only)) | (walk1; (try ((fail_if_success (with_reducible show wpAny _ _ (subscriptTail _ _ (Value.ref _) (Value.ref _)) _ _ _)); dsimp only))) | (dsimp only; walk1; (try ((fail_if_success (with_reducible show wpAny _ _ (subscriptTail _ _ (Value.ref _) (Value.ref _)) _ _ _)); dsimp only))) | (leave1; (try dsimp only)))
      (rename Fr _ _ _ _ => F)
      (rename News _ _ _ _ => N)
      refine' ih ?hs120 ?hd120 _ _ _ _ (F.keep _ _ hf) (hrec.keeps F.keep) (hc3.keeps F.keep) (hc2.keeps F.keep) (hc1.keeps F.keep) (stays_list F.keep hl) (by omega) h0 m1 (by omega) ?kk120
      case hs120 => exact fun b' o' e' => Fr.keep (by assumption) _ _ (hb _ _ e')
      case hd120 => (simp only [depth_deeper, AA] at *); omega
      intro h4 tk4 t4 st4
      (rename Fr _ _ _ _ => F)
      (rename News _ _ _ _ => N)
      have F' := fr_ext F st4
      have N' := news_ext N st4
      clear F N
      have F := F'
      have N := N'
      clear F' N'
      dsimp only
      repeat' ((fail_if_success (with_reducible show Exists _)); first | (k_unfold; (try dsimp only)) | (walk1; (try ((fail_if_success (with_reducible show wpAny _ _ (subscriptTail _ _ (Value.ref _) (Value.ref _)) _ _ _)); dsimp only))) | (dsimp only; walk1; (try ((fail_if_success (with_reducible show wpAny _ _ (subscriptTail _ _ (Value.ref _) (Value.ref _)) _ _ _)); dsimp only))) | (leave1; (try dsimp only)))
      (rename Fr _ _ _ _ => F)
      (rename News _ _ _ _ => N)
      try dsimp only
      have e : valB (2 ^ n.toNat) ((ds.drop mid.toNat).take (hi'.toNat - mid.toNat)) * 2 ^ ((mid - lo) * n).toNat + valB (2 ^ n.toNat) ((ds.drop lo.toNat).take (mid.toNat - lo.toNat)) = valB (2 ^ n.toNat) ((ds.drop lo.toNat).take (hi'.toNat - lo.toNat)) := by
        rw [seg_split ds (a := lo.toNat) (m := mid.toNat) (b := hi'.toNat) (by omega) (by omega), valB_append, pow_mul_toNat _ _ (by omega) (by omega)]
        rw [show ((ds.drop lo.toNat).take (mid.toNat - lo.toNat)).length = (mid - lo).toNat by simp; omega]
        rw [Int.mul_comm, Int.add_comm]
      rw [e]
      exact kk _ _ _ F.keep
end
end Mine
end

section
open PySem PySem.W PySem.Spec PySem.Calls PyProof.Rows
set_option maxRecDepth 100000
set_option maxHeartbeats 4000000
namespace Mine

def qD : Str := Str.ofString "_digits2int.<locals>.inner"

section
variable {prog : Program} {w : World} {loose : List Str} {mean : ExcName → Option Value} {mg mb : Str → Option Value} {b : Heap}

theorem rec_hide {h : Heap} {c' : Addr} {q : Str} (x : h.CodeRec (.ref c') q) (n1 : c' ≠ 58) (n2 : c' ≠ 51) : RecAt h q c' := by
  obtain ⟨c, oc, vs, t, e, ho, r⟩ := x
  cases e
  exact ⟨_, oc, vs, t, rfl, hideAll_get _ ho (by simp; exact ⟨n1, n2⟩), r⟩

set_option pp.maxSteps 3000
set_option pp.deepTerms false
theorem digits2int_spec (HB : Base w loose mean mg mb b) {dp un : Nat} {fr : Option (List Env)} {gd : Option (List Code)} {s : Shared} {Q E : Value → Shared → Prop} (hs : b.StaysIn s.heap) (hd : dp + 200 < recursionLimit)
   (dg : Addr) (vs : List Value) (ds : List Int) (n : Int) (tn : Tok) (hl : (hideAll s.heap [58]).IsList dg vs.toArray) (hi : IntsAre vs ds) (hn0 : 0 < n) (hn1 : n ≤ 64) (hlen : ds.length ≤ 150) (hfig : Figs (2 ^ n.toNat) ds) (hT : TabSt s.heap 58 56 4 qD)
   (kk : ∀ h' tk' t, (hideAll s.heap [58]).StaysIn h' → TabSt h' 58 56 4 qD → Q (.int (valB (2 ^ n.toNat) ds) t) { s with heap := h', toks := tk' }) :
    wpAny (model prog w) (AA dp un fr gd) (call (.ref 63) [.ref dg, .int n tn]) Q E s := by
  obtain ⟨ps, hP, hps⟩ := hT
  refine' enterC (S := [58]) (binds := [(Str.ofString "digits", .ref dg), (Str.ofString "n", .int n tn)]) ?HB125 ?hs125 ?hS125 ?ho125 ?hcd125 ?hroom125 ?hbind125 ?hkind125 ?hnd125 ?_ ?c2125 ?c3125 ?c4125
  (case HB125 => assumption)
  (case hs125 => assumption)
  (case hS125 => (intro a ha; simp at ha; subst ha; exact HB.n58))
  (case ho125 => k_is)
  (case hcd125 => k_is)
  (case hroom125 => (simp only [recursionLimit, AA] at *); omega)
  (case hbind125 => exact BindsTo.of_eq rfl)
  (case hkind125 => exact rfl)
  (case hnd125 => decide +kernel)
  (case c2125 => exact rfl)
  (case c3125 => exact rfl)
  (case c4125 => exact rfl)
  intro g L h₁ tk cells hg hL F N Y st X T hb
  obtain ⟨o1, o2, o3, rfl, d1, d2, d3⟩ := CellsAre.three Y
  have hg58 : g.get? 58 = none := by rw [hg]; exact hideAll_none _ (.head _)
  have hL58 : 58 < L := by rw [hL]; exact Heap.lt_size hP
  have C58 : CodeHd g 62 58 := HB.c58.keeps hb
  have N' : News g L h₁ [(L + 1 + 1 + 1, o1), (L + 1 + 1, o2), (L + 1, o3), (58, tabObj ps)] := fun p hp => by
    simp only [List.mem_cons, List.not_mem_nil, or_false] at hp
    rcases hp with rfl | rfl | rfl | rfl
    · exact N _ (.head _)
    · exact N _ (.tail _ (.head _))
    · exact N _ (.tail _ (.tail _ (.head _)))
    · exact ⟨st _ _ hP, Nat.ne_of_lt hL58, hg58⟩
  clear N
  have N := N'
  clear N'
  replace d1 : o1.data = .cell none := d1
  replace d2 : o2.data = .cell (some (.int n tn)) := d2
  replace d3 : o3.data = .cell (some (.ref dg)) := d3
  clear Y
  have hlg : g.IsList dg vs.toArray := by rw [hg]; exact hl
  clear hl
  (with_reducible show wpAny _ _ _ _ _ _)
  k_fold
  rcases hps with rfl | ⟨c₀, rfl, hrec⟩
  · skip
    repeat' ((fail_if_success (with_reducible show Exists _)); (fail_if_success (with_reducible show wpAny _ _ (call (Value.ref _) _) _ _ _)); first | (k_unfold; (try dsimp only)) | (walk1; (try ((fail_if_success (with_reducible show wpAny _ _ (subscriptTail _ _ (Value.ref _) (Value.ref _)) _ _ _)); dsimp only))) | (dsimp only; walk1; (try ((fail_if_success (with_reducible show wpAny _ _ (subscriptTail _ _ (Value.ref _) (Value.ref _)) _ _ _)); dsimp only))) | (leave1; (try dsimp only)))
    · rename _ ∧ _ => l1
      (rename Fr _ _ _ _ => F)
      (rename News _ _ _ _ => N)
      refine' inner_d HB (c1 := L + 1 + 1 + 1) (c2 := L + 1 + 1) (c3 := L + 1) (dg := dg) ?hI127 hi hn0 hn1 (by omega) hfig ds.length ?hs127 ?hd127 _ _ _ _ ?hf127 ?hr127 ?hcc3127 ?hcc2127 ?hcc1127 ?hl127 ?k1127 ?k2127 ?k3127 ?k4127 ?kk127
      case hf127 => exact (N _ (.head _)).1
      case hI127 => exact rfl
      case hs127 => exact fun b' o' e' => F.keep _ _ (hb _ _ e')
      case hd127 => (simp only [depth_deeper, AA] at *); omega
      case hr127 => exact codeRec_news N (by k_mem) (by assumption) (by assumption)
      case hcc3127 => exact ⟨_, (N (L + 1, o3) (by k_mem)).1, d3⟩
      case hcc2127 => exact ⟨_, (N (L + 1 + 1, o2) (by k_mem)).1, d2⟩
      case hcc1127 => exact ⟨_, (N (L + 1 + 1 + 1, _) (by k_mem)).1, by assumption⟩
      case hl127 => exact stays_list F.keep hlg
      case k1127 => omega
      case k2127 => omega
      case k3127 => omega
      case k4127 => omega
      intro h3 tk3 t3 st3
      (rename Fr _ _ _ _ => F)
      (rename News _ _ _ _ => N)
      have F' := fr_ext F st3
      have N' := news_ext N st3
      clear F N
      have F := F'
      have N := N'
      clear F' N'
      (try dsimp only)
      (try k_unfold)
      (try dsimp only)
      rw [show valB (2 ^ n.toNat) (List.take (Int.toNat (↑ds.length) - Int.toNat 0) (List.drop (Int.toNat 0) ds)) = valB (2 ^ n.toNat) ds by simp]
      refine kk _ _ _ (hg ▸ F.keep) ⟨_, (N (58, _) (by k_mem)).1, .inr ⟨_, rfl, rec_hide (codeRec_news N (by k_mem) (by assumption) (by assumption)) (Nat.ne_of_gt l1.2.2.2) (Nat.ne_of_gt (Nat.lt_trans (by decide) l1.2.2.2))⟩⟩
    · rename _ ∧ _ => l1
      (rename Fr _ _ _ _ => F)
      (rename News _ _ _ _ => N)
      have : ds = [] := by cases ds with | nil => rfl | cons _ _ => simp at *
      subst this
      refine kk _ _ _ (hg ▸ F.keep) ⟨_, (N (58, _) (by k_mem)).1, .inr ⟨_, rfl, rec_hide (codeRec_news N (by k_mem) (by assumption) (by assumption)) (Nat.ne_of_gt l1.2.2.2) (Nat.ne_of_gt (Nat.lt_trans (by decide) l1.2.2.2))⟩⟩
  · have hrg : g.CodeRec (.ref c₀) qD := Heap.CodeRec.keeps hrec fun a o e => by
      rw [hg]
      exact hideAll_get _ (of_hideAll _ e) fun ha => by rw [hideAll_none _ (show a ∈ [58, 51] by simp at ha; simp [ha])] at e; cases e
    repeat' ((fail_if_success (with_reducible show Exists _)); (fail_if_success (with_reducible show wpAny _ _ (call (Value.ref _) _) _ _ _)); first | (k_unfold; (try dsimp only)) | (walk1; (try ((fail_if_success (with_reducible show wpAny _ _ (subscriptTail _ _ (Value.ref _) (Value.ref _)) _ _ _)); dsimp only))) | (dsimp only; walk1; (try ((fail_if_success (with_reducible show wpAny _ _ (subscriptTail _ _ (Value.ref _) (Value.ref _)) _ _ _)); dsimp only))) | (leave1; (try dsimp only)))
    · skip
      (rename Fr _ _ _ _ => F)
      (rename News _ _ _ _ => N)
      refine' inner_d HB (c1 := L + 1 + 1 + 1) (c2 := L + 1 + 1) (c3 := L + 1) (dg := dg) ?hI132 hi hn0 hn1 (by omega) hfig ds.length ?hs132 ?hd132 _ _ _ _ ?hf132 ?hr132 ?hcc3132 ?hcc2132 ?hcc1132 ?hl132 ?k1132 ?k2132 ?k3132 ?k4132 ?kk132
      case hf132 => exact (N _ (.head _)).1
      case hI132 => exact rfl
      case hs132 => exact fun b' o' e' => F.keep _ _ (hb _ _ e')
      case hd132 => (simp only [depth_deeper, AA] at *); omega
      case hr132 => exact Heap.CodeRec.keeps hrg F.keep
      case hcc3132 => exact ⟨_, (N (L + 1, o3) (by k_mem)).1, d3⟩
      case hcc2132 => exact ⟨_, (N (L + 1 + 1, o2) (by k_mem)).1, d2⟩
      case hcc1132 => exact ⟨_, (N (L + 1 + 1 + 1, _) (by k_mem)).1, by assumption⟩
      case hl132 => exact stays_list F.keep hlg
      case k1132 => omega
      case k2132 => omega
      case k3132 => omega
      case k4132 => omega
      intro h3 tk3 t3 st3
      (rename Fr _ _ _ _ => F)
      (rename News _ _ _ _ => N)
      have F' := fr_ext F st3
      have N' := news_ext N st3
      clear F N
      have F := F'
      have N := N'
      clear F' N'
      (try dsimp only)
      (try k_unfold)
      (try dsimp only)
      rw [show valB (2 ^ n.toNat) (List.take (Int.toNat (↑ds.length) - Int.toNat 0) (List.drop (Int.toNat 0) ds)) = valB (2 ^ n.toNat) ds by simp]
      refine kk _ _ _ (hg ▸ F.keep) ⟨_, (N (58, _) (by k_mem)).1, .inr ⟨_, rfl, hrec.keeps (hide_sub (hg ▸ F.keep) (by simp))⟩⟩
    · skip
      (rename Fr _ _ _ _ => F)
      (rename News _ _ _ _ => N)
      have : ds = [] := by cases ds with | nil => rfl | cons _ _ => simp at *
      subst this
      refine kk _ _ _ (hg ▸ F.keep) ⟨_, (N (58, _) (by k_mem)).1, .inr ⟨_, rfl, hrec.keeps (hide_sub (hg ▸ F.keep) (by simp))⟩⟩
end
end Mine
end

section
open PySem PySem.W PySem.Spec PySem.Calls PyProof.Rows
set_option maxRecDepth 100000
namespace Mine

theorem ediv_ediv_pos {a b c : Int} (h : 0 ≤ b) : a / b / c = a / (b * c) := by
  rw [Int.ediv_ediv, if_neg (fun q => by omega), Int.sub_zero]
theorem and_high : ∀ (k : Nat) (x : Int), Builtin.bitAnd x (x / 2 ^ k * 2 ^ k) = x / 2 ^ k * 2 ^ k
  | 0, x => by simp [bitAnd_self]
  | k + 1, x => by
    have e : x / 2 ^ (k + 1) = x / 2 / 2 ^ k := by
      rw [Int.pow_succ, Int.mul_comm, ediv_ediv_pos (by decide)]
    have p : x / 2 ^ (k + 1) * 2 ^ (k + 1) = 2 * (x / 2 / 2 ^ k * 2 ^ k) := by
      rw [e, Int.pow_succ, ← Int.mul_assoc, Int.mul_comm _ 2]
    rw [p, kbt_halves]
    have e1 : 2 * (x / 2 / 2 ^ k * 2 ^ k) / 2 = x / 2 / 2 ^ k * 2 ^ k := by omega
    have e2 : ¬ (x % 2 = 1 ∧ 2 * (x / 2 / 2 ^ k * 2 ^ k) % 2 = 1) := by omega
    rw [e1, if_neg e2, and_high k (x / 2)]
    omega
theorem xor_low (k : Nat) (x : Int) : Builtin.bitXor x (x / 2 ^ k * 2 ^ k) = x % 2 ^ k := by
  rw [bitXor_and, and_high]
  have := Int.mul_ediv_add_emod x (2 ^ k)
  rw [Int.mul_comm] at this
  omega

/-- the k lowest figures of x to the base B, the lowest first -/
def dgs (B : Int) : Nat → Int → List Int
  | 0, _ => []
  | k + 1, x => x % B :: dgs B k (x / B)
theorem dgs_length (B : Int) : ∀ (k : Nat) (x : Int), (dgs B k x).length = k
  | 0, _ => rfl
  | k + 1, x => by simp [dgs, dgs_length B k]
theorem dgs_figs {B : Int} (hB : 0 < B) : ∀ (k : Nat) (x : Int), Figs B (dgs B k x)
  | 0, _ => fun _ h => by cases h
  | k + 1, x => fun d h => by
    rcases List.mem_cons.mp h with rfl | h
    · exact ⟨Int.emod_nonneg _ (Int.ne_of_gt hB), Int.emod_lt_of_pos _ hB⟩
    · exact dgs_figs hB k _ d h
theorem dgs_val {B : Int} (hB : 0 < B) : ∀ (k : Nat) (x : Int), 0 ≤ x → x < B ^ k → valB B (dgs B k x) = x
  | 0, x, h0, h1 => by simp at h1; simp [dgs, valB]; omega
  | k + 1, x, h0, h1 => by
    have a : x / B < B ^ k := Int.ediv_lt_of_lt_mul hB (by rw [Int.pow_succ] at h1; exact h1)
    have ih := dgs_val hB k (x / B) (Int.ediv_nonneg h0 (Int.le_of_lt hB)) a
    simp only [dgs, valB, ih]
    have := Int.mul_ediv_add_emod x B
    omega
theorem emod_mul_pos {B c x : Int} (hB : 0 < B) : x % (B * c) = x % B + B * (x / B % c) := by
  have h1 := Int.emod_def x (B * c)
  have h2 := Int.emod_def (x / B) c
  have h3 := Int.emod_def x B
  have h4 : x / (B * c) = x / B / c := (ediv_ediv_pos (Int.le_of_lt hB)).symm
  rw [h1, h2, h3, h4, Int.mul_sub, Int.mul_assoc]
  omega
theorem dgs_add {B : Int} (hB : 0 < B) : ∀ (i j : Nat) (x : Int), dgs B (i + j) x = dgs B i (x % B ^ i) ++ dgs B j (x / B ^ i)
  | 0, j, x => by simp [dgs]
  | i + 1, j, x => by
    have e : i + 1 + j = (i + j) + 1 := by omega
    rw [e]
    simp only [dgs, List.cons_append]
    rw [dgs_add hB i j (x / B)]
    have hp : (0 : Int) < B ^ i := Int.pow_pos hB
    have p : B ^ (i + 1) = B * B ^ i := by rw [Int.pow_succ, Int.mul_comm]
    have q1 : x % B ^ (i + 1) = x % B + B * (x / B % B ^ i) := by rw [p]; exact emod_mul_pos hB
    have r0 := Int.emod_nonneg x (Int.ne_of_gt hB)
    have r1 := Int.emod_lt_of_pos x hB
    have q2 : x % B ^ (i + 1) % B = x % B := by rw [q1, Int.add_mul_emod_self_left, Int.emod_emod_of_dvd _ (Int.dvd_refl B)]
    have q3 : x % B ^ (i + 1) / B = x / B % B ^ i := by
      rw [q1, Int.add_mul_ediv_left _ _ (Int.ne_of_gt hB), Int.ediv_eq_zero_of_lt r0 r1, Int.zero_add]
    have q4 : x / B ^ (i + 1) = x / B / B ^ i := by rw [p, ediv_ediv_pos (Int.le_of_lt hB)]
    rw [q2, q3, q4]

def splice (cur : List Int) (lo : Nat) (xs : List Int) : List Int := cur.take lo ++ xs ++ cur.drop (lo + xs.length)
theorem splice_splice {cur : List Int} {lo : Nat} (h : lo ≤ cur.length) (xs ys : List Int) : splice (splice cur lo xs) (lo + xs.length) ys = splice cur lo (xs ++ ys) := by
  unfold splice
  have e1 : (cur.take lo ++ xs).length = lo + xs.length := by simp; omega
  have e2 : List.take (lo + xs.length) (cur.take lo ++ xs ++ cur.drop (lo + xs.length)) = cur.take lo ++ xs := by rw [← e1, List.take_left]
  have e3 : List.drop (lo + xs.length + ys.length) (cur.take lo ++ xs ++ cur.drop (lo + xs.length)) = cur.drop (lo + (xs ++ ys).length) := by
    rw [show lo + xs.length + ys.length = (cur.take lo ++ xs).length + ys.length by omega, ← List.drop_drop, List.drop_left, List.drop_drop]
    congr 1
    simp; omega
  rw [e2, e3]
  simp
theorem splice_one {cur : List Int} {i : Nat} (h : i < cur.length) (x : Int) : cur.set i x = splice cur i [x] := by
  unfold splice
  rw [List.set_eq_take_append_cons_drop, if_pos h]
  simp
theorem splice_length {cur : List Int} {lo : Nat} {xs : List Int} (h : lo + xs.length ≤ cur.length) : (splice cur lo xs).length = cur.length := by
  unfold splice
  simp; omega
theorem ints_set {vs : List Value} {ns : List Int} (h : IntsAre vs ns) : ∀ (i : Nat) (x : Int) (t : Tok), IntsAre (vs.set i (.int x t)) (ns.set i x) := by
  induction h with
  | nil => intro i x t; exact .nil
  | cons n t' h ih =>
    intro i x t
    cases i with
    | zero => exact .cons _ _ h
    | succ i => exact .cons _ _ (ih i x t)
end Mine
end

section
open PySem PySem.W PySem.Spec PySem.Calls PyProof.Rows
set_option maxRecDepth 100000
set_option maxHeartbeats 4000000
namespace Mine

section
variable {prog : Program} {w : World} {loose : List Str} {mean : ExcName → Option Value} {mg mb : Str → Option Value} {b : Heap}
theorem innerOf_56 {P : Params} {x y : Str × Arguments × List Stmt × Scope} (e : innerOf (hd.heap_39 P) 56 = some x) (h : innerOf (hd.heap_39 P) 56 = some y) : x = y := Option.some.inj (e.symm.trans h)

local macro_rules | `(tactic| walk_at "eval Name") => `(tactic| (k_here; (with_reducible rename Fr _ _ _ _ => kF); with_unfolding_all refine' nameX_G ?F ?c ?v ?_ ?a ?b ?c2 ?d; (case a => rfl); (case b => rfl); (case c2 => decide); (case d => decide); (case F => exact kF); (case c => rfl); (case v => assumption); k_whole))
local macro_rules | `(tactic| walk_at "FnAt") => `(tactic| exact fnAt_F (by assumption) (by assumption))
local macro_rules | `(tactic| walk_at "callWith ref") => `(tactic| (k_here; k_dflt (refine' callWith_F ?k1 ?_; (case k1 => exact fnAt_F (by assumption) (by assumption)); k_whole)))

set_option pp.maxSteps 3000
set_option pp.deepTerms false
theorem inner_i (HB : Base w loose mean mg mb b) {f c' c1 c2 c3 al : Addr} {name qual : Str} {prs : Arguments} {body : List Stmt} {scope : Scope} (hI : innerOf (hd.heap_39 w.params) 56 = some (name, prs, body, scope)) {doc pm ctv : Value}
    {n : Int} {tn : Tok} (hn0 : 0 < n) (hn1 : n ≤ 64) (hbl : b.get? al = none) (k : Nat) :
    ∀ {dp un : Nat} {fr : Option (List Env)} {gd : Option (List Code)} {s : Shared} {Q E : Value → Shared → Prop} (hs : b.StaysIn s.heap) (hd : dp + k + 5 < recursionLimit) (x lo hi : Int) (tx tl th : Tok) (vs : List Value) (cur : List Int)
      (_ : s.heap.get? f = some (fnMade name qual prs body scope [(Str.ofString "n", c2), (Str.ofString "inner", c1), (Str.ofString "a_digits", c3)] doc pm c' ctv)) (_ : s.heap.CodeRec (.ref c') qual)
      (_ : s.heap.IsCell c3 (some (.ref al))) (_ : s.heap.IsCell c2 (some (.int n tn))) (_ : s.heap.IsCell c1 (some (.ref f))) (_ : s.heap.IsList al vs.toArray) (_ : IntsAre vs cur) (_ : cur.length ≤ 1000)
      (_ : (hi - lo).toNat ≤ k) (_ : 0 ≤ lo) (_ : lo < hi) (_ : hi ≤ cur.length) (_ : 0 ≤ x) (_ : x < (2 ^ n.toNat) ^ (hi - lo).toNat)
      (kk : ∀ h' tk' ws, (hideAll s.heap [al]).StaysIn h' → h'.IsList al (List.toArray ws) → IntsAre ws (splice cur lo.toNat (dgs (2 ^ n.toNat) (hi - lo).toNat x)) → Q .none { s with heap := h', toks := tk' }),
    wpAny (model prog w) (AA dp un fr gd) (call (.ref f) [.int x tx, .int lo tl, .int hi th]) Q E s := by
  have hI' := innerOf_56 (P := w.params) rfl hI
  cases hI'
  clear hI
  induction k with
  | zero => intros; omega
  | succ k ih =>
    intro dp un fr gd s Q E hs hd x lo hi tx tl th vs cur hf hrec hc3 hc2 hc1 hl hint hcl hk h0 hlt hle hx0 hx1 kk
    have hlo : ∃ ol, s.heap.get? al = some ol ∧ ol.cls = .type "list" := by obtain ⟨o, e, c, _⟩ := hl; exact ⟨o, e, c⟩
    have hfl : f ≠ al := fun q => by
      obtain ⟨o, e, c⟩ := hlo
      rw [← q, hf] at e; cases e; exact absurd c (by simp)
    obtain ⟨ol, hol, hcls, nl, hdl⟩ := id hl
    have cellne : ∀ c v, s.heap.IsCell c v → c ≠ al := fun c v q q2 => by
      obtain ⟨o, e, d⟩ := q
      rw [q2, hol] at e; cases e; rw [hdl] at d; cases d
    have recne : ∀ {q : Str} {h : Heap}, h.CodeRec (.ref c') q → h.get? al = some ol → c' ≠ al := fun {q h} r e2 e3 => by
      obtain ⟨c, oc, vs, t, e4, e5, e6, _⟩ := r
      cases e4
      rw [e3, e2] at e5; cases e5; rw [hdl] at e6; cases e6
    refine' enterX (S := [al]) (binds := [(Str.ofString "x", .int x tx), (Str.ofString "L", .int lo tl), (Str.ofString "R", .int hi th)]) ?HB137 ?hs137 ?hS137 ?ho137 ?hdt137 ?hcd137 ?hroom137 ?hbind137 ?hloc137 ?_ ?c2137 ?c3137 ?c4137 ?c5137
    (case HB137 => assumption)
    (case hs137 => assumption)
    (case hS137 => (intro a ha; simp at ha; subst ha; exact hbl))
    (case ho137 => assumption)
    (case hdt137 => exact rfl)
    (case hcd137 => assumption)
    (case hroom137 => (simp only [recursionLimit, AA] at *); omega)
    (case hbind137 => exact BindsTo.of_eq rfl)
    (case c5137 => decide)
    (case hloc137 => exact locs rfl)
    (case c2137 => exact rfl)
    (case c3137 => exact rfl)
    (case c4137 => exact rfl)
    intro g L h₁ hg hL F st X T hb
    have hgal : g.get? al = none := by rw [hg]; exact hideAll_none _ (.head _)
    have hLal : al ≠ L := by rw [hL]; exact Nat.ne_of_lt (Heap.lt_size hol)
    have N : News g L h₁ [(al, ol)] := fun p hp => by
      obtain rfl := List.mem_singleton.mp hp
      exact ⟨st _ _ hol, hLal, hgal⟩
    have toG : ∀ a o, a ≠ al → s.heap.get? a = some o → g.get? a = some o := fun a o n e => by rw [hg]; exact hideAll_get _ e (by simp [n])
    have hfg : g.get? f = _ := toG _ _ hfl hf
    have hrg : g.CodeRec (.ref c') qual := by
      have hne := recne hrec hol
      obtain ⟨c, oc, vs, t, e4, e5, r⟩ := hrec
      cases e4
      exact ⟨_, oc, vs, t, rfl, toG _ _ hne e5, r⟩
    replace hc3 : g.IsCell c3 (some (.ref al)) := let ⟨o, e, d⟩ := hc3; ⟨o, toG _ _ (cellne _ _ hc3) e, d⟩
    replace hc2 : g.IsCell c2 (some (.int n tn)) := let ⟨o, e, d⟩ := hc2; ⟨o, toG _ _ (cellne _ _ hc2) e, d⟩
    replace hc1 : g.IsCell c1 (some (.ref f)) := let ⟨o, e, d⟩ := hc1; ⟨o, toG _ _ (cellne _ _ hc1) e, d⟩
    have hfn : FnAt f g := ⟨_, _, _, _, hfg⟩
    (with_reducible show wpAny _ _ _ _ _ _)
    k_fold
    repeat' ((fail_if_success (with_reducible show Exists _)); (fail_if_success (with_reducible show wpAny _ _ (call (Value.ref _) _) _ _ _)); (fail_if_success (with_reducible show wpAny _ _ (setItem _ _ _) _ _ _)); (fail_if_success (with_reducible show wpAny _ _ (binaryOp Operator.RShift _ _) _ _ _)); first | (k_unfold; (try dsimp only)) | (walk1; (try ((fail_if_success (with_reducible show wpAny _ _ (subscriptTail _ _ (Value.ref _) (Value.ref _)) _ _ _)); dsimp only))) | (dsimp only; walk1; (try ((fail_if_success (with_reducible show wpAny _ _ (subscriptTail _ _ (Value.ref _) (Value.ref _)) _ _ _)); dsimp only))) | (leave1; (try dsimp only)))
    · rename _ + _ = _ => hone
      (rename Fr _ _ _ _ => F)
      (rename News _ _ _ _ => N)
      refine' wpAny_setItem_list (items := vs.toArray) ?l ?h0 ?hf ?hn ?hQ
      case l => exact ⟨ol, (N (al, ol) (.head _)).1, hcls, nl, hdl⟩
      case h0 => exact h0
      case hf => omega
      case hn => rw [List.size_toArray, hint.length]; omega
      intro h2 hl2 hs2
      obtain ⟨ol2, hol2, hcls2, nl2, hdl2⟩ := id hl2
      obtain ⟨F2, N2⟩ := set_step F N (fun p hp => by cases hp) hs2 hol2
      clear F N
      have F := F2
      have N := N2
      clear F2 N2
      dsimp only
      repeat' ((fail_if_success (with_reducible show Exists _)); first | (k_unfold; (try dsimp only)) | (walk1; (try ((fail_if_success (with_reducible show wpAny _ _ (subscriptTail _ _ (Value.ref _) (Value.ref _)) _ _ _)); dsimp only))) | (dsimp only; walk1; (try ((fail_if_success (with_reducible show wpAny _ _ (subscriptTail _ _ (Value.ref _) (Value.ref _)) _ _ _)); dsimp only))) | (leave1; (try dsimp only)))
      (rename Fr _ _ _ _ => F)
      (rename News _ _ _ _ => N)
      have e1 : (hi - lo).toNat = 1 := by omega
      have e2 : splice cur lo.toNat (dgs (2 ^ n.toNat) (hi - lo).toNat x) = cur.set lo.toNat x := by
        rw [e1] at hx1 ⊢
        rw [splice_one (by omega)]
        simp only [Int.pow_one] at hx1
        simp only [dgs, Int.emod_eq_of_lt hx0 hx1]
      refine kk _ _ ((vs.set lo.toNat (.int x tx))) (hg ▸ F.keep) ?_ (by rw [e2]; exact ints_set hint _ _ _)
      have e3 : (vs.toArray.setIfInBounds lo.toNat (Value.int x tx)) = List.toArray (vs.set lo.toNat (.int x tx)) := by simp
      rw [← e3]
      exact hl2
    · rename _ + _ ≠ _ => hone
      (rename Fr _ _ _ _ => F)
      (rename News _ _ _ _ => N)
      refine' rshift_int ?r0 ?rq
      case r0 => decide
      have hmid : (lo + hi).fdiv (2 ^ Int.toNat 1) = (lo + hi) / 2 := fdiv_nn (by decide)
      rw [hmid]
      generalize em : (lo + hi) / 2 = mid
      have m1 : lo < mid := by omega
      have m2 : mid < hi := by omega
      have hsh := mul_bound (x := mid - lo) (n := n) (a := 1000) (c := 64) (by omega) (by omega) (by omega) hn1
      have eS := pow_mul_toNat n (mid - lo) (by omega) (by omega)
      dsimp only
      repeat' ((fail_if_success (with_reducible show Exists _)); (fail_if_success (with_reducible show wpAny _ _ (call (Value.ref _) _) _ _ _)); (fail_if_success (with_reducible show wpAny _ _ (binaryOp Operator.RShift _ _) _ _ _)); first | (k_unfold; (try dsimp only)) | (walk1; (try ((fail_if_success (with_reducible show wpAny _ _ (subscriptTail _ _ (Value.ref _) (Value.ref _)) _ _ _)); dsimp only))) | (dsimp only; walk1; (try ((fail_if_success (with_reducible show wpAny _ _ (subscriptTail _ _ (Value.ref _) (Value.ref _)) _ _ _)); dsimp only))) | (leave1; (try dsimp only)))
      (rename Fr _ _ _ _ => F)
      (rename News _ _ _ _ => N)
      refine' rshift_int ?r1 ?rq1
      case r1 => exact hsh.1
      rw [fdiv_nn (Int.pow_pos (by decide))]
      dsimp only
      repeat' ((fail_if_success (with_reducible show Exists _)); (fail_if_success (with_reducible show wpAny _ _ (call (Value.ref _) _) _ _ _)); (fail_if_success (with_reducible show wpAny _ _ (binaryOp Operator.LShift _ _) _ _ _)); first | (k_unfold; (try dsimp only)) | (walk1; (try ((fail_if_success (with_reducible show wpAny _ _ (subscriptTail _ _ (Value.ref _) (Value.ref _)) _ _ _)); dsimp only))) | (dsimp only; walk1; (try ((fail_if_success (with_reducible show wpAny _ _ (subscriptTail _ _ (Value.ref _) (Value.ref _)) _ _ _)); dsimp only))) | (leave1; (try dsimp only)))
      (rename Fr _ _ _ _ => F)
      (rename News _ _ _ _ => N)
      have hB : (0 : Int) < 2 ^ n.toNat := Int.pow_pos (by decide)
      have hsplit : (2 ^ n.toNat : Int) ^ (hi - lo).toNat = (2 ^ n.toNat) ^ (hi - mid).toNat * (2 ^ n.toNat) ^ (mid - lo).toNat := by
        rw [← Int.pow_add]; congr 1; omega
      have hBm : (0 : Int) < (2 ^ n.toNat) ^ (mid - lo).toNat := Int.pow_pos hB
      have hup0 : 0 ≤ x / (2 ^ n.toNat) ^ (mid - lo).toNat := Int.ediv_nonneg hx0 (Int.le_of_lt hBm)
      have hup1 : x / (2 ^ n.toNat) ^ (mid - lo).toNat < (2 ^ n.toNat) ^ (hi - mid).toNat := Int.ediv_lt_of_lt_mul hBm (by rw [← hsplit]; exact hx1)
      have hlw0 : 0 ≤ x % (2 ^ n.toNat) ^ (mid - lo).toNat := Int.emod_nonneg _ (Int.ne_of_gt hBm)
      have hlw1 : x % (2 ^ n.toNat) ^ (mid - lo).toNat < (2 ^ n.toNat) ^ (mid - lo).toNat := Int.emod_lt_of_pos _ hBm
      have hub : Builtin.Int.intBits (x / (2 ^ n.toNat) ^ (mid - lo).toNat) ≤ 64000 := by
        refine bits_of_lt hup0 (Int.lt_of_lt_of_le hup1 ?_)
        rw [← Int.pow_mul]
        refine two_pow_le (Nat.mul_le_mul (show n.toNat ≤ 64 by omega) (show (hi - mid).toNat ≤ 1000 by omega))
      refine' lshift_int ?ls0 ?ls1 ?lsq
      case ls0 => exact hsh.1
      case ls1 =>
        rw [eS, show (2 : Int) ^ 27 = 134217728 by decide]
        omega
      dsimp only
      repeat' ((fail_if_success (with_reducible show Exists _)); (fail_if_success (with_reducible show wpAny _ _ (call (Value.ref _) _) _ _ _)); (fail_if_success (with_reducible show wpAny _ _ (binaryOp Operator.BitXor _ _) _ _ _)); first | (k_unfold; (try dsimp only)) | (walk1; (try ((fail_if_success (with_reducible show wpAny _ _ (subscriptTail _ _ (Value.ref _) (Value.ref _)) _ _ _)); dsimp only))) | (dsimp only; walk1; (try ((fail_if_success (with_reducible show wpAny _ _ (subscriptTail _ _ (Value.ref _) (Value.ref _)) _ _ _)); dsimp only))) | (leave1; (try dsimp only)))
      refine xor_int ?_
      rw [xor_low, eS]
      rw [eS] at F
      dsimp only
      repeat' ((fail_if_success (with_reducible show Exists _)); (fail_if_success (with_reducible show wpAny _ _ (call (Value.ref _) _) _ _ _)); first | (k_unfold; (try dsimp only)) | (walk1; (try ((fail_if_success (with_reducible show wpAny _ _ (subscriptTail _ _ (Value.ref _) (Value.ref _)) _ _ _)); dsimp only))) | (dsimp only; walk1; (try ((fail_if_success (with_reducible show wpAny _ _ (subscriptTail _ _ (Value.ref _) (Value.ref _)) _ _ _)); dsimp only))) | (leave1; (try dsimp only)))
      (rename Fr _ _ _ _ => F)
      (rename News _ _ _ _ => N)
      have hSL : ∀ a ∈ [al], g.get? a = none ∧ a ≠ L := by intro a ha; simp at ha; subst ha; exact ⟨hgal, hLal⟩
      refine' ih ?hs150 ?hd150 _ _ _ _ _ _ vs cur (F.keep _ _ hfg) (hrg.keeps F.keep) (hc3.keeps F.keep) (hc2.keeps F.keep) (hc1.keeps F.keep) ⟨ol, (N (al, ol) (.head _)).1, hcls, nl, hdl⟩ hint hcl (by omega) h0 m1 (by omega) hlw0 hlw1 ?kk150
      case hs150 => exact fun b' o' e' => Fr.keep (by assumption) _ _ (hb _ _ e')
      case hd150 => (simp only [depth_deeper, AA] at *); omega
      intro h3 tk3 ws3 st3 hl3 hi3
      obtain ⟨ext1, F3, N3, full3, off3, old3⟩ := after_call (S := [al]) F N hSL st3
      obtain ⟨ol3, hol3, hcls3, nl3, hdl3⟩ := id hl3
      have N4 : News g L h3 [(al, ol3)] := news_cons News.nil hol3 (hSL _ (by simp))
      clear F N N3
      have F := F3
      have N := N4
      clear F3 N4
      dsimp only
      repeat' ((fail_if_success (with_reducible show Exists _)); (fail_if_success (with_reducible show wpAny _ _ (call (Value.ref _) _) _ _ _)); first | (k_unfold; (try dsimp only)) | (walk1; (try ((fail_if_success (with_reducible show wpAny _ _ (subscriptTail _ _ (Value.ref _) (Value.ref _)) _ _ _)); dsimp only))) | (dsimp only; walk1; (try ((fail_if_success (with_reducible show wpAny _ _ (subscriptTail _ _ (Value.ref _) (Value.ref _)) _ _ _)); dsimp only))) | (leave1; (try dsimp only)))
      (rename Fr _ _ _ _ => F)
      (rename News _ _ _ _ => N)
      have hlen1 : (splice cur lo.toNat (dgs (2 ^ n.toNat) (mid - lo).toNat (x % (2 ^ n.toNat) ^ (mid - lo).toNat))).length = cur.length := splice_length (by rw [dgs_length]; omega)
      refine' ih ?hs153 ?hd153 _ _ _ _ _ _ ws3 _ (F.keep _ _ hfg) (hrg.keeps F.keep) (hc3.keeps F.keep) (hc2.keeps F.keep) (hc1.keeps F.keep) ⟨ol3, (N (al, ol3) (.head _)).1, hcls3, nl3, hdl3⟩ hi3 (by omega) (by omega) (by omega) m2 (by omega) hup0 hup1 ?kk153
      case hs153 => exact fun b' o' e' => Fr.keep (by assumption) _ _ (hb _ _ e')
      case hd153 => (simp only [depth_deeper, AA] at *); omega
      intro h4 tk4 ws4 st4 hl4 hi4
      obtain ⟨ext2, F4, N4, full4, off4, old4⟩ := after_call (S := [al]) F N hSL st4
      obtain ⟨ol4, hol4, hcls4, nl4, hdl4⟩ := id hl4
      have N5 : News g L h4 [(al, ol4)] := news_cons News.nil hol4 (hSL _ (by simp))
      clear F N N4
      have F := F4
      have N := N5
      clear F4 N5
      dsimp only
      repeat' ((fail_if_success (with_reducible show Exists _)); first | (k_unfold; (try dsimp only)) | (walk1; (try ((fail_if_success (with_reducible show wpAny _ _ (subscriptTail _ _ (Value.ref _) (Value.ref _)) _ _ _)); dsimp only))) | (dsimp only; walk1; (try ((fail_if_success (with_reducible show wpAny _ _ (subscriptTail _ _ (Value.ref _) (Value.ref _)) _ _ _)); dsimp only))) | (leave1; (try dsimp only)))
      have em1 : mid.toNat = lo.toNat + (dgs (2 ^ n.toNat) (mid - lo).toNat (x % (2 ^ n.toNat) ^ (mid - lo).toNat)).length := by rw [dgs_length]; omega
      rw [em1, splice_splice (by omega), ← dgs_add hB, show (mid - lo).toNat + (hi - mid).toNat = (hi - lo).toNat by omega] at hi4
      exact kk _ _ _ (hg ▸ F.keep) hl4 hi4
end
end Mine
end

section
open PySem PySem.W PySem.Spec PySem.Calls PyProof.Rows
set_option maxRecDepth 100000
set_option maxHeartbeats 4000000
namespace Mine

def qI : Str := Str.ofString "_int2digits.<locals>.inner"

section
variable {prog : Program} {w : World} {loose : List Str} {mean : ExcName → Option Value} {mg mb : Str → Option Value} {b : Heap}

theorem not_mem1 {a b : Nat} (h : a < b ∨ b < a) : a ∉ [b] := by
  simp
  omega
theorem codeHd_lt {g : Heap} {c P : Addr} (C : CodeHd g c P) : c < g.objs.size := let ⟨_, _, _, _, _, _, _, _, _, e, _⟩ := C; Heap.lt_size e
theorem none_of {b g : Heap} {a : Addr} (k : b.StaysIn g) (e : g.get? a = none) : b.get? a = none := by
  cases q : b.get? a with
  | none => rfl
  | some o => rw [k _ _ q] at e; cases e
theorem bits_le_mul {a n : Int} {m : Nat} (hn : 0 < n) (hm : ((Builtin.Int.intBits a : Int) + n - 1) / n = m) : (Builtin.Int.intBits a : Int) ≤ n * m := by
  have := Int.lt_mul_ediv_self_add (x := (Builtin.Int.intBits a : Int) + n - 1) hn
  rw [hm] at this
  omega
theorem bits_fit {a n : Int} {m : Nat} (hn : 0 < n) (hm : ((Builtin.Int.intBits a : Int) + n - 1) / n = m) (ha : 0 ≤ a) : a < (2 ^ n.toNat) ^ m := by
  have h1 := natAbs_lt_pow_bits a
  have h2 := bits_le_mul hn hm
  have h3 : Builtin.Int.intBits a ≤ n.toNat * m := by
    have : ((n.toNat * m : Nat) : Int) = n * m := by rw [Int.natCast_mul, Int.toNat_of_nonneg (Int.le_of_lt hn)]
    omega
  have h4 : (a.natAbs : Int) < 2 ^ Builtin.Int.intBits a := by exact_mod_cast h1
  rw [Int.natAbs_of_nonneg ha] at h4
  rw [← Int.pow_mul]
  exact Int.lt_of_lt_of_le h4 (two_pow_le h3)
theorem bits_pos {a n : Int} {m : Nat} (hn : 0 < n) (hm : ((Builtin.Int.intBits a : Int) + n - 1) / n = m) (ha : 0 ≤ a) (h0 : a ≠ 0) : 0 < m := by
  have := bits_fit hn hm ha
  cases m with
  | zero => simp at this; omega
  | succ m => exact Nat.succ_pos m
theorem bits_zero {n : Int} {m : Nat} (hn : 0 < n) (hm : ((Builtin.Int.intBits 0 : Int) + n - 1) / n = m) : m = 0 := by
  have e : (Builtin.Int.intBits 0 : Int) = 0 := rfl
  rw [e, Int.ediv_eq_zero_of_lt (by omega) (by omega)] at hm
  omega
theorem splice_all {m : Nat} {xs : List Int} (h : xs.length = m) (z : Int) : splice (List.replicate m z) 0 xs = xs := by
  unfold splice
  simp [h]
theorem ints_rep (x : Int) (t : Tok) : ∀ m : Nat, IntsAre (List.replicate m (.int x t)) (List.replicate m x)
  | 0 => .nil
  | m + 1 => .cons _ _ (ints_rep x t m)
theorem mul_zeros {A : Around} {s : Shared} {Q E : Value → Shared → Prop} {g : Heap} {L l : Addr} {mm : Str → Option Value} {news : List (Addr × Obj)} {t u : Tok} {m : Nat} (F : Fr g L s.heap mm) (N : News g L s.heap ((l, W.listOf #[.int 0 t] 0) :: news)) (hm : m ≤ 1000)
    (h : ∀ al h' ol vs nl, Fr g L h' mm → News g L h' ((al, ol) :: news) → (∀ p ∈ news, p.1 < al) → s.heap.objs.size = al → ol.cls = .type "list" → ol.data = .seq (List.toArray vs) nl → IntsAre vs (List.replicate m 0) → Q (.ref al) { s with heap := h' }) :
    wpAny (model prog w) A (binaryOp .Mult (.ref l) (.int (m : Int) u)) Q E s := by
  refine mul_list F N (N _ (.head _)).1 (by omega) (by omega) (by simp; omega) fun h' F' N' => ?_
  rw [listMul_foldl_if] at N'
  refine h _ h' { cls := .type "list", data := .seq (List.toArray (List.replicate m (.int 0 t))) } (List.replicate m (.int 0 t)) 0 F' (fun p hp => ?_) (fun p hp => Heap.lt_size (N p (.tail _ hp)).1) rfl rfl rfl (ints_rep 0 t m)
  · rcases List.mem_cons.mp hp with rfl | hp
    · have := N' _ (.head _)
      simpa using this
    · exact N' _ (.tail _ (.tail _ hp))

set_option pp.maxSteps 3000
set_option pp.deepTerms false
theorem int2digits_spec (HB : Base w loose mean mg mb b) {dp un : Nat} {fr : Option (List Env)} {gd : Option (List Code)} {s : Shared} {Q E : Value → Shared → Prop} (hs : b.StaysIn s.heap) (hd : dp + 200 < recursionLimit)
   (a n : Int) (ta tn : Tok) (ha : 0 ≤ a) (hn0 : 0 < n) (hn1 : n ≤ 64) (m : Nat) (hm : ((Builtin.Int.intBits a : Int) + n - 1) / n = m) (hm1 : m ≤ 150) (hT : TabSt s.heap 51 41 4 qI)
   (kk : ∀ h' tk' r ws, (hideAll s.heap [51]).StaysIn h' → TabSt h' 51 41 4 qI → s.heap.get? r = none → h'.IsList r (List.toArray ws) → IntsAre ws (dgs (2 ^ n.toNat) m a) → Q (.ref r) { s with heap := h', toks := tk' }) :
    wpAny (model prog w) (AA dp un fr gd) (call (.ref 56) [.int a ta, .int n tn]) Q E s := by
  obtain ⟨ps, hP, hps⟩ := hT
  refine' enterC (S := [51]) (binds := [(Str.ofString "a", .int a ta), (Str.ofString "n", .int n tn)]) ?HB156 ?hs156 ?hS156 ?ho156 ?hcd156 ?hroom156 ?hbind156 ?hkind156 ?hnd156 ?_ ?c2156 ?c3156 ?c4156
  (case HB156 => assumption)
  (case hs156 => assumption)
  (case hS156 => (intro a ha; simp at ha; subst ha; exact HB.n51))
  (case ho156 => k_is)
  (case hcd156 => k_is)
  (case hroom156 => (simp only [recursionLimit, AA] at *); omega)
  (case hbind156 => exact BindsTo.of_eq rfl)
  (case hkind156 => exact rfl)
  (case hnd156 => decide +kernel)
  (case c2156 => exact rfl)
  (case c3156 => exact rfl)
  (case c4156 => exact rfl)
  intro g L h₁ tk cells hg hL F N Y st X T hb
  obtain ⟨o1, o2, o3, rfl, d1, d2, d3⟩ := CellsAre.three Y
  have hg51 : g.get? 51 = none := by rw [hg]; exact hideAll_none _ (.head _)
  have hL51 : 51 < L := by rw [hL]; exact Heap.lt_size hP
  have C51 : CodeHd g 55 51 := HB.c51.keeps hb
  have hL62 : 62 < L := Nat.lt_of_lt_of_le (codeHd_lt (HB.c58.keeps hb)) F.above
  have N' : News g L h₁ [(L + 1 + 1 + 1, o1), (L + 1 + 1, o2), (L + 1, o3), (51, tabObj ps)] := fun p hp => by
    simp only [List.mem_cons, List.not_mem_nil, or_false] at hp
    rcases hp with rfl | rfl | rfl | rfl
    · exact N _ (.head _)
    · exact N _ (.tail _ (.head _))
    · exact N _ (.tail _ (.tail _ (.head _)))
    · exact ⟨st _ _ hP, Nat.ne_of_lt hL51, hg51⟩
  clear N
  have N := N'
  clear N'
  replace d1 : o1.data = .cell none := d1
  replace d2 : o2.data = .cell none := d2
  replace d3 : o3.data = .cell (some (.int n tn)) := d3
  clear Y
  (with_reducible show wpAny _ _ _ _ _ _)
  k_fold
  repeat' ((fail_if_success (with_reducible show Exists _)); (fail_if_success (with_reducible show wpAny _ _ (call (Value.ref _) _) _ _ _)); (fail_if_success (with_reducible show wpAny _ _ (binaryOp Operator.Mult _ _) _ _ _)); first | (k_unfold; (try dsimp only)) | (walk1; (try ((fail_if_success (with_reducible show wpAny _ _ (subscriptTail _ _ (Value.ref _) (Value.ref _)) _ _ _)); dsimp only))) | (dsimp only; walk1; (try ((fail_if_success (with_reducible show wpAny _ _ (subscriptTail _ _ (Value.ref _) (Value.ref _)) _ _ _)); dsimp only))) | (leave1; (try dsimp only)))
  (rename Fr _ _ _ _ => F)
  (rename News _ _ _ _ => N)
  rw [show (↑(Builtin.Int.intBits a) + n - 1).fdiv n = (m : Int) by rw [fdiv_nn hn0]; exact hm]
  refine' mul_zeros ?F ?N ?hm ?h
  case F => exact F
  case N => exact N
  case hm => omega
  intro al h2 ol vs nl F2 N2 l2 hal hcl hdl hint
  k_lt l2
  clear F N
  have F := F2
  have N := N2
  clear F2 N2
  dsimp only
  rcases hps with rfl | ⟨c₀, rfl, hrec⟩
  · skip
    repeat' ((fail_if_success (with_reducible show Exists _)); (fail_if_success (with_reducible show wpAny _ _ (call (Value.ref _) _) _ _ _)); (fail_if_success (with_reducible show wpAny _ _ (call (Value.builtin "len") _) _ _ _)); first | (k_unfold; (try dsimp only)) | (walk1; (try ((fail_if_success (with_reducible show wpAny _ _ (subscriptTail _ _ (Value.ref _) (Value.ref _)) _ _ _)); dsimp only))) | (dsimp only; walk1; (try ((fail_if_success (with_reducible show wpAny _ _ (subscriptTail _ _ (Value.ref _) (Value.ref _)) _ _ _)); dsimp only))) | (leave1; (try dsimp only)))
    · rename _ ∧ _ => l3
      (rename Fr _ _ _ _ => F)
      (rename News _ _ _ _ => N)
      have hsz : vs.toArray.size = m := by simp [hint.length]
      refine' call_len_list (items := vs.toArray) ?lhl160 ?lfit160 ?lh160
      case lhl160 => exact ⟨ol, (N (al, ol) (by k_mem)).1, hcl, nl, hdl⟩
      case lfit160 => rw [hsz]; omega
      rw [hsz]
      dsimp only
      repeat' ((fail_if_success (with_reducible show Exists _)); (fail_if_success (with_reducible show wpAny _ _ (call (Value.ref _) _) _ _ _)); first | (k_unfold; (try dsimp only)) | (walk1; (try ((fail_if_success (with_reducible show wpAny _ _ (subscriptTail _ _ (Value.ref _) (Value.ref _)) _ _ _)); dsimp only))) | (dsimp only; walk1; (try ((fail_if_success (with_reducible show wpAny _ _ (subscriptTail _ _ (Value.ref _) (Value.ref _)) _ _ _)); dsimp only))) | (leave1; (try dsimp only)))
      (rename Fr _ _ _ _ => F)
      (rename News _ _ _ _ => N)
      have hgal : g.get? al = none := (N (al, ol) (by k_mem)).2.2
      have hm0 : 0 < m := bits_pos hn0 hm ha (by assumption)
      have hSL : ∀ x ∈ [al], g.get? x = none ∧ x ≠ L := by intro x hx; simp at hx; subst hx; exact ⟨hgal, (N (_, ol) (by k_mem)).2.1⟩
      refine' inner_i HB (c1 := L + 1 + 1 + 1) (c2 := L + 1) (c3 := L + 1 + 1) (al := al) ?hI160 hn0 hn1 ?hbl160 m ?hs160 ?hd160 _ _ _ _ _ _ vs (List.replicate m 0) ?hf160 ?hr160 ?hcc3160 ?hcc2160 ?hcc1160 ?hl160 hint ?hcl160 ?k1160 ?k2160 ?k3160 ?k4160 ?k5160 ?k6160 ?kk160
      case hf160 => exact (N _ (.head _)).1
      case hI160 => exact rfl
      case hbl160 => exact none_of hb hgal
      case hs160 => exact fun b' o' e' => F.keep _ _ (hb _ _ e')
      case hd160 => (simp only [depth_deeper, AA] at *); omega
      case hr160 => exact codeRec_news N (by k_mem) (by assumption) (by assumption)
      case hcc3160 => exact ⟨_, (N (L + 1 + 1, _) (by k_mem)).1, by assumption⟩
      case hcc2160 => exact ⟨_, (N (L + 1, o3) (by k_mem)).1, d3⟩
      case hcc1160 => exact ⟨_, (N (L + 1 + 1 + 1, _) (by k_mem)).1, by assumption⟩
      case hl160 => exact ⟨ol, (N (al, ol) (by k_mem)).1, hcl, nl, hdl⟩
      case hcl160 => simp; omega
      case k1160 => omega
      case k2160 => omega
      case k3160 => omega
      case k4160 => simp
      case k5160 => exact ha
      case k6160 => rw [show ((m : Int) - 0).toNat = m by omega]; exact bits_fit hn0 hm ha
      intro h3 tk3 ws3 st3 hl3 hi3
      obtain ⟨ext1, F3, N3, full3, off3, old3⟩ := after_call (S := [al]) F N hSL st3
      obtain ⟨ol3, hol3, hcl3, nl3, hdl3⟩ := id hl3
      have N5 := news_cons (news_cons (news_cons (News.nil (h₀ := g) (L := L) (h := h3)) hol3 (hSL _ (by simp))) (N3 _ (old3 (51, _) (by k_mem) (not_mem1 (by omega)))).1 ⟨hg51, Nat.ne_of_lt hL51⟩) (N3 _ (old3 (L + 1 + 1, _) (by k_mem) (not_mem1 (by omega)))).1 (N3 _ (old3 (L + 1 + 1, _) (by k_mem) (not_mem1 (by omega)))).2.symm
      have hrc := rec_hide (codeRec_news N3 (old3 _ (.tail _ (.head _)) (not_mem1 (by omega))) (by assumption) (by assumption)) (Nat.ne_of_gt (by omega)) (Nat.ne_of_gt (by omega))
      clear F N N3
      have F := F3
      have N := N5
      clear F3 N5
      (try dsimp only)
      repeat' ((fail_if_success (with_reducible show Exists _)); first | (k_unfold; (try dsimp only)) | (walk1; (try ((fail_if_success (with_reducible show wpAny _ _ (subscriptTail _ _ (Value.ref _) (Value.ref _)) _ _ _)); dsimp only))) | (dsimp only; walk1; (try ((fail_if_success (with_reducible show wpAny _ _ (subscriptTail _ _ (Value.ref _) (Value.ref _)) _ _ _)); dsimp only))) | (leave1; (try dsimp only)))
      (rename Fr _ _ _ _ => F)
      (rename News _ _ _ _ => N)
      rw [show ((m : Int) - 0).toNat = m by omega, show Int.toNat 0 = 0 by rfl, splice_all (dgs_length _ _ _)] at hi3
      refine kk _ _ al ws3 (hg ▸ F.keep) ⟨_, (N (51, _) (by k_mem)).1, .inr ⟨_, rfl, hrc⟩⟩ (fresh_hide (hg ▸ hgal) (not_mem1 (by omega))) ⟨ol3, (N (al, ol3) (by k_mem)).1, hcl3, nl3, hdl3⟩ hi3
    · rename _ ∧ _ => l3
      (rename Fr _ _ _ _ => F)
      (rename News _ _ _ _ => N)
      (rename (_ : Int) = 0 => hz0)
      subst hz0
      have hm0 := bits_zero hn0 hm
      subst hm0
      have hgal : g.get? al = none := (N (al, ol) (by k_mem)).2.2
      refine kk _ _ al vs (hg ▸ F.keep) ⟨_, (N (51, _) (by k_mem)).1, .inr ⟨_, rfl, rec_hide (codeRec_news N (by k_mem) (by assumption) (by assumption)) (Nat.ne_of_gt (by omega)) (Nat.ne_of_gt (by omega))⟩⟩ (fresh_hide (hg ▸ hgal) (not_mem1 (by omega))) ⟨ol, (N (al, ol) (by k_mem)).1, hcl, nl, hdl⟩ hint
  · have hrg : g.CodeRec (.ref c₀) qI := Heap.CodeRec.keeps hrec fun a o e => by
      rw [hg]
      exact hideAll_get _ (of_hideAll _ e) fun ha => by rw [hideAll_none _ (show a ∈ [58, 51] by simp at ha; simp [ha])] at e; cases e
    repeat' ((fail_if_success (with_reducible show Exists _)); (fail_if_success (with_reducible show wpAny _ _ (call (Value.ref _) _) _ _ _)); (fail_if_success (with_reducible show wpAny _ _ (call (Value.builtin "len") _) _ _ _)); first | (k_unfold; (try dsimp only)) | (walk1; (try ((fail_if_success (with_reducible show wpAny _ _ (subscriptTail _ _ (Value.ref _) (Value.ref _)) _ _ _)); dsimp only))) | (dsimp only; walk1; (try ((fail_if_success (with_reducible show wpAny _ _ (subscriptTail _ _ (Value.ref _) (Value.ref _)) _ _ _)); dsimp only))) | (leave1; (try dsimp only)))
    · rename _ ∧ _ => l3
      (rename Fr _ _ _ _ => F)
      (rename News _ _ _ _ => N)
      have hsz : vs.toArray.size = m := by simp [hint.length]
      refine' call_len_list (items := vs.toArray) ?lhl170 ?lfit170 ?lh170
      case lhl170 => exact ⟨ol, (N (al, ol) (by k_mem)).1, hcl, nl, hdl⟩
      case lfit170 => rw [hsz]; omega
      rw [hsz]
      dsimp only
      repeat' ((fail_if_success (with_reducible show Exists _)); (fail_if_success (with_reducible show wpAny _ _ (call (Value.ref _) _) _ _ _)); first | (k_unfold; (try dsimp only)) | (walk1; (try ((fail_if_success (with_reducible show wpAny _ _ (subscriptTail _ _ (Value.ref _) (Value.ref _)) _ _ _)); dsimp only))) | (dsimp only; walk1; (try ((fail_if_success (with_reducible show wpAny _ _ (subscriptTail _ _ (Value.ref _) (Value.ref _)) _ _ _)); dsimp only))) | (leave1; (try dsimp only)))
      (rename Fr _ _ _ _ => F)
      (rename News _ _ _ _ => N)
      have hgal : g.get? al = none := (N (al, ol) (by k_mem)).2.2
      have hm0 : 0 < m := bits_pos hn0 hm ha (by assumption)
      have hSL : ∀ x ∈ [al], g.get? x = none ∧ x ≠ L := by intro x hx; simp at hx; subst hx; exact ⟨hgal, (N (_, ol) (by k_mem)).2.1⟩
      refine' inner_i HB (c1 := L + 1 + 1 + 1) (c2 := L + 1) (c3 := L + 1 + 1) (al := al) ?hI170 hn0 hn1 ?hbl170 m ?hs170 ?hd170 _ _ _ _ _ _ vs (List.replicate m 0) ?hf170 ?hr170 ?hcc3170 ?hcc2170 ?hcc1170 ?hl170 hint ?hcl170 ?k1170 ?k2170 ?k3170 ?k4170 ?k5170 ?k6170 ?kk170
      case hf170 => exact (N _ (.head _)).1
      case hI170 => exact rfl
      case hbl170 => exact none_of hb hgal
      case hs170 => exact fun b' o' e' => F.keep _ _ (hb _ _ e')
      case hd170 => (simp only [depth_deeper, AA] at *); omega
      case hr170 => exact Heap.CodeRec.keeps hrg F.keep
      case hcc3170 => exact ⟨_, (N (L + 1 + 1, _) (by k_mem)).1, by assumption⟩
      case hcc2170 => exact ⟨_, (N (L + 1, o3) (by k_mem)).1, d3⟩
      case hcc1170 => exact ⟨_, (N (L + 1 + 1 + 1, _) (by k_mem)).1, by assumption⟩
      case hl170 => exact ⟨ol, (N (al, ol) (by k_mem)).1, hcl, nl, hdl⟩
      case hcl170 => simp; omega
      case k1170 => omega
      case k2170 => omega
      case k3170 => omega
      case k4170 => simp
      case k5170 => exact ha
      case k6170 => rw [show ((m : Int) - 0).toNat = m by omega]; exact bits_fit hn0 hm ha
      intro h3 tk3 ws3 st3 hl3 hi3
      obtain ⟨ext1, F3, N3, full3, off3, old3⟩ := after_call (S := [al]) F N hSL st3
      obtain ⟨ol3, hol3, hcl3, nl3, hdl3⟩ := id hl3
      have N5 := news_cons (news_cons (news_cons (News.nil (h₀ := g) (L := L) (h := h3)) hol3 (hSL _ (by simp))) (N3 _ (old3 (51, _) (by k_mem) (not_mem1 (by omega)))).1 ⟨hg51, Nat.ne_of_lt hL51⟩) (N3 _ (old3 (L + 1 + 1, _) (by k_mem) (not_mem1 (by omega)))).1 (N3 _ (old3 (L + 1 + 1, _) (by k_mem) (not_mem1 (by omega)))).2.symm
      clear F N N3
      have F := F3
      have N := N5
      clear F3 N5
      (try dsimp only)
      repeat' ((fail_if_success (with_reducible show Exists _)); first | (k_unfold; (try dsimp only)) | (walk1; (try ((fail_if_success (with_reducible show wpAny _ _ (subscriptTail _ _ (Value.ref _) (Value.ref _)) _ _ _)); dsimp only))) | (dsimp only; walk1; (try ((fail_if_success (with_reducible show wpAny _ _ (subscriptTail _ _ (Value.ref _) (Value.ref _)) _ _ _)); dsimp only))) | (leave1; (try dsimp only)))
      (rename Fr _ _ _ _ => F)
      (rename News _ _ _ _ => N)
      rw [show ((m : Int) - 0).toNat = m by omega, show Int.toNat 0 = 0 by rfl, splice_all (dgs_length _ _ _)] at hi3
      refine kk _ _ al ws3 (hg ▸ F.keep) ⟨_, (N (51, _) (by k_mem)).1, .inr ⟨_, rfl, hrec.keeps (hide_sub (hg ▸ F.keep) (by simp))⟩⟩ (fresh_hide (hg ▸ hgal) (not_mem1 (by omega))) ⟨ol3, (N (al, ol3) (by k_mem)).1, hcl3, nl3, hdl3⟩ hi3
    · rename _ ∧ _ => l3
      (rename Fr _ _ _ _ => F)
      (rename News _ _ _ _ => N)
      (rename (_ : Int) = 0 => hz0)
      subst hz0
      have hm0 := bits_zero hn0 hm
      subst hm0
      have hgal : g.get? al = none := (N (al, ol) (by k_mem)).2.2
      refine kk _ _ al vs (hg ▸ F.keep) ⟨_, (N (51, _) (by k_mem)).1, .inr ⟨_, rfl, hrec.keeps (hide_sub (hg ▸ F.keep) (by simp))⟩⟩ (fresh_hide (hg ▸ hgal) (not_mem1 (by omega))) ⟨ol, (N (al, ol) (by k_mem)).1, hcl, nl, hdl⟩ hint
end
end Mine
end

section
open PySem PySem.W PySem.Spec PySem.Calls PyProof.Rows
set_option maxRecDepth 100000
namespace Mine

/-- long division, figure by figure, the highest first: the quotient's figures and the last rest -/
def divL (B d : Int) : List Int → Int → List Int × Int
  | [], r => ([], r)
  | x :: xs, r => ((r * B + x) / d :: (divL B d xs ((r * B + x) % d)).1, (divL B d xs ((r * B + x) % d)).2)
theorem divL_length (B d : Int) : ∀ (xs : List Int) (r : Int), (divL B d xs r).1.length = xs.length
  | [], _ => rfl
  | x :: xs, r => by simp [divL, divL_length B d xs]
theorem divL_ok {B d : Int} (hB : 0 < B) (hd : 0 < d) : ∀ (xs : List Int) (r : Int), Figs B xs → 0 ≤ r → r < d →
    0 ≤ (divL B d xs r).2 ∧ (divL B d xs r).2 < d ∧ Figs B (divL B d xs r).1 ∧ r * B ^ xs.length + valB B xs.reverse = d * valB B (divL B d xs r).1.reverse + (divL B d xs r).2
  | [], r, _, h0, h1 => by simp [divL, valB, h0, h1]; exact fun _ h => by cases h
  | x :: xs, r, hf, h0, h1 => by
    have hx := hf x (.head _)
    have e0 : 0 ≤ r * B := Int.mul_nonneg h0 (Int.le_of_lt hB)
    have e1 : (r + 1) * B ≤ d * B := Int.mul_le_mul_of_nonneg_right (by omega) (Int.le_of_lt hB)
    rw [Int.add_mul, Int.one_mul, Int.mul_comm d B] at e1
    have q0 : 0 ≤ (r * B + x) / d := Int.ediv_nonneg (by omega) (Int.le_of_lt hd)
    have q1 : (r * B + x) / d < B := Int.ediv_lt_of_lt_mul hd (by omega)
    have r0 := Int.emod_nonneg (r * B + x) (Int.ne_of_gt hd)
    have r1 := Int.emod_lt_of_pos (r * B + x) hd
    obtain ⟨a, c, f, e⟩ := divL_ok hB hd xs ((r * B + x) % d) (fun y hy => hf y (.tail _ hy)) r0 r1
    refine ⟨a, c, ?_, ?_⟩
    · intro y hy
      simp only [divL] at hy
      rcases List.mem_cons.mp hy with rfl | hy
      · exact ⟨q0, q1⟩
      · exact f y hy
    · simp only [divL, List.reverse_cons, valB_append, List.length_reverse, divL_length, List.length_cons, valB, Int.mul_zero, Int.add_zero]
      have h := Int.mul_ediv_add_emod (r * B + x) d
      generalize hq : (r * B + x) / d = q at h e ⊢
      generalize hr : (r * B + x) % d = r' at h e ⊢
      generalize hP : B ^ xs.length = P at e ⊢
      rw [Int.pow_succ, hP]
      have key : r * (P * B) + P * x = d * (P * q) + r' * P := by
        have : r * (P * B) + P * x = P * (r * B + x) := by
          rw [Int.mul_add, ← Int.mul_assoc, ← Int.mul_assoc, Int.mul_comm r P]
        rw [this, ← h, Int.mul_add, Int.mul_comm P r']
        congr 1
        rw [← Int.mul_assoc, Int.mul_comm P d, Int.mul_assoc]
      rw [Int.mul_add]
      omega
theorem divL_val {B d a : Int} (hB : 0 < B) (hd : 0 < d) {xs : List Int} (hf : Figs B xs) (e : valB B xs = a) :
    valB B (divL B d xs.reverse 0).1.reverse = a / d ∧ (divL B d xs.reverse 0).2 = a % d := by
  obtain ⟨a0, a1, _, h⟩ := divL_ok hB hd xs.reverse 0 (fun y hy => hf y (List.mem_reverse.mp hy)) (Int.le_refl _) hd
  rw [List.reverse_reverse, Int.zero_mul, Int.zero_add, e] at h
  generalize valB B (divL B d xs.reverse 0).1.reverse = q at h ⊢
  generalize (divL B d xs.reverse 0).2 = r at h a0 a1 ⊢
  subst h
  constructor
  · rw [Int.add_comm, Int.add_mul_ediv_left _ _ (Int.ne_of_gt hd), Int.ediv_eq_zero_of_lt a0 a1, Int.zero_add]
  · rw [Int.add_comm, Int.add_mul_emod_self_left, Int.emod_eq_of_lt a0 a1]
/-- one figure more -/
theorem divL_snoc (B d : Int) : ∀ (xs : List Int) (x r : Int), divL B d (xs ++ [x]) r = ((divL B d xs r).1 ++ [((divL B d xs r).2 * B + x) / d], ((divL B d xs r).2 * B + x) % d)
  | [], x, r => by simp [divL]
  | y :: ys, x, r => by simp [divL, divL_snoc B d ys]
end Mine
end

section
open PySem PySem.W PySem.Spec PySem.Calls PyProof.Rows
set_option maxRecDepth 100000
namespace Mine

theorem TabIs.at {h h' : Heap} {ps : Array Value} {P : Addr} {ln cl : Int} {q : Str} (x : TabIs ps ln cl (RecAt h q)) (e : h'.get? P = some (tabObj ps)) (k : (hideAll h [58, 51]).StaysIn h') : TabSt h' P ln cl q := ⟨ps, e, x.mono fun _ r => r.keeps k⟩

def RecK (K : Addr → Obj → Prop) (q : Str) (c' : Addr) : Prop := ∃ oc vs t, K c' oc ∧ oc.data = .fields vs ∧ vs[1]? = some (.str q t) ∧ c' ≠ 58 ∧ c' ≠ 51
theorem recK_in {h : Heap} {K : Addr → Obj → Prop} {q : Str} {c' : Addr} (x : RecAt h q c') (k : ∀ a o vs, h.get? a = some o → o.data = .fields vs → a ≠ 58 → a ≠ 51 → K a o) : RecK K q c' := by
  obtain ⟨c, oc, vs, t, e, ho, hd, hv⟩ := x
  cases e
  have n : c' ∉ [58, 51] := fun hx => by rw [hideAll_none _ hx] at ho; cases ho
  have n1 : c' ≠ 58 := fun q => n (by rw [q]; simp)
  have n2 : c' ≠ 51 := fun q => n (by rw [q]; simp)
  exact ⟨oc, vs, t, k _ _ _ (of_hideAll _ ho) hd n1 n2, hd, hv, n1, n2⟩
theorem recK_out {h : Heap} {K : Addr → Obj → Prop} {q : Str} {c' : Addr} (x : RecK K q c') (k : ∀ a o, K a o → a ≠ 58 → a ≠ 51 → h.get? a = some o) : RecAt h q c' := by
  obtain ⟨oc, vs, t, hK, hd, hv, n1, n2⟩ := x
  exact rec_hide ⟨c', oc, vs, t, rfl, k _ _ hK n1 n2, hd, hv⟩ n1 n2
theorem tab_in {h : Heap} {P : Addr} {K : Addr → Obj → Prop} {q : Str} {ln cl : Int} (x : TabSt h P ln cl q) (k : ∀ a o vs, h.get? a = some o → o.data = .fields vs → a ≠ 58 → a ≠ 51 → K a o) : ∃ ps, h.get? P = some (tabObj ps) ∧ TabIs ps ln cl (RecK K q) :=
  let ⟨ps, e, t⟩ := x; ⟨ps, e, t.mono fun _ r => recK_in r k⟩
theorem tab_out {h : Heap} {P : Addr} {K : Addr → Obj → Prop} {q : Str} {ln cl : Int} {ps : Array Value} (x : TabIs ps ln cl (RecK K q)) (e : h.get? P = some (tabObj ps)) (k : ∀ a o, K a o → a ≠ 58 → a ≠ 51 → h.get? a = some o) : TabSt h P ln cl q := ⟨ps, e, x.mono fun _ r => recK_out r k⟩
theorem fields_ne_frame {g h : Heap} {L a : Addr} {m : Str → Option Value} {o : Obj} (F : Fr g L h m) (e : h.get? a = some o) {vs : Array Value} (hd : o.data = .fields vs) : a ≠ L := fun q => by
  obtain ⟨oL, es, ep, hL, hdL, _⟩ := F.ns
  rw [q, hL] at e; cases e
  rw [hdL] at hd; cases hd

theorem digits_count {x n : Int} (hn : 0 < n) (hb : Builtin.Int.intBits x ≤ 140) : ∃ m : Nat, ((Builtin.Int.intBits x : Int) + n - 1) / n = m ∧ m ≤ 140 := by
  have h0 : 0 ≤ ((Builtin.Int.intBits x : Int) + n - 1) / n := Int.ediv_nonneg (by omega) (by omega)
  have h1 : ((Builtin.Int.intBits x : Int) + n - 1) / n < 141 := by
    refine Int.ediv_lt_of_lt_mul hn ?_
    omega
  exact ⟨(((Builtin.Int.intBits x : Int) + n - 1) / n).toNat, by omega, by omega⟩
theorem bits_of_pos {d : Int} (h0 : 0 < d) (h1 : d < 1073741824) : 0 < (Builtin.Int.intBits d : Int) ∧ (Builtin.Int.intBits d : Int) ≤ 30 ∧ d < 2 ^ Builtin.Int.intBits d := by
  have a := natAbs_lt_pow_bits d
  have e : (d.natAbs : Int) = d := Int.natAbs_of_nonneg (Int.le_of_lt h0)
  have b : d < 2 ^ Builtin.Int.intBits d := by
    rw [← e]
    have : (d.natAbs : Int) < ((2 ^ Builtin.Int.intBits d : Nat) : Int) := by exact_mod_cast a
    simpa [e] using this
  refine ⟨?_, ?_, b⟩
  · cases q : Builtin.Int.intBits d with
    | zero => rw [q] at b; simp at b; omega
    | succ k => omega
  · have := intBits_le (a := d) (k := 30) (by omega)
    omega
theorem ext_step {g h h' : Heap} {L d : Addr} {m : Str → Option Value} {o : Obj} {rest : List (Addr × Obj)} (F : Fr g L h m) (N : News g L h ((d, o) :: rest)) (hr : ∀ p ∈ rest, p.1 ≠ d) (he : Heap.ExtBut d h h') : Fr g L h' m ∧ News g L h' rest := by
  have hd := N (d, o) (.head _)
  refine ⟨⟨F.ns.extBut he (Ne.symm hd.2.1), fun a x e => he a x (fun q => ?_) (F.keep _ _ e), F.above⟩, fun p hp => ⟨he _ _ (hr p hp) (N p (.tail _ hp)).1, (N p (.tail _ hp)).2⟩⟩
  rw [← q, e] at hd
  cases hd.2.2
theorem take_rev {D : List Int} {j : Nat} (h : j < D.length) : D.reverse.take (D.length - j) = D.reverse.take (D.length - (j + 1)) ++ [D.getD j 0] := by
  have e : D.length - j = D.length - (j + 1) + 1 := by omega
  rw [e, List.take_succ]
  have h2 : D.length - (j + 1) < D.reverse.length := by simp; omega
  rw [List.getElem?_eq_getElem h2, List.getElem_reverse]
  simp only [Option.toList_some]
  congr 2
  have h3 : D.length - 1 - (D.length - (j + 1)) = j := by omega
  simp only [h3]
  simp [List.getD, h]
theorem shift_bits {r d x : Int} {nn : Nat} (h0 : 0 ≤ r) (h1 : r < d) (hd : d < 1073741824) (hn : (nn : Int) ≤ 30) (x0 : 0 ≤ x) (x1 : x < 2 ^ nn) : (Builtin.Int.intBits (r * 2 ^ nn + x) : Int) ≤ 61 := by
  have hp : (2 : Int) ^ nn ≤ 2 ^ 30 := two_pow_le (by omega)
  have hp0 : (0 : Int) ≤ 2 ^ nn := Int.le_of_lt (Int.pow_pos (by decide))
  have e : r * 2 ^ nn ≤ r * 2 ^ 30 := Int.mul_le_mul_of_nonneg_left hp h0
  have e0 : 0 ≤ r * 2 ^ nn := Int.mul_nonneg h0 hp0
  have e3 : (2 : Int) ^ 30 = 1073741824 := by decide
  rw [e3] at hp e
  generalize r * 2 ^ nn = z at e e0 ⊢
  generalize (2 : Int) ^ nn = y at hp hp0 x1
  have := intBits_le (a := z + x) (k := 61) (by omega)
  omega
theorem head_ne {q a : Addr} {o o' : Obj} {r : List (Addr × Obj)} (h : ∀ p ∈ (q, o) :: r, p.1 < a) : ∀ p ∈ (q, o') :: r, p.1 ≠ a := fun p hp => by
  rcases List.mem_cons.mp hp with rfl | hp
  · exact Nat.ne_of_lt (h (q, o) (.head _))
  · exact Nat.ne_of_lt (h p (.tail _ hp))
theorem allLt_lt {d : Addr} : ∀ {l : List (Addr × Obj)}, AllLt d l → ∀ p ∈ l, p.1 < d
  | [], _, _, hp => (nomatch hp)
  | q :: r, h, p, hp => by
    rcases List.mem_cons.mp hp with rfl | hp
    · exact h.1
    · exact allLt_lt h.2 p hp
theorem allLt_ne {d : Addr} {l : List (Addr × Obj)} (h : AllLt d l) : ∀ p ∈ l, p.1 ≠ d := fun p hp => Nat.ne_of_lt (allLt_lt h p hp)
end Mine
end

section
open PySem PySem.W PySem.Spec PySem.Calls PyProof.Rows
set_option maxRecDepth 100000
set_option maxHeartbeats 4000000
namespace Mine

theorem not_mem2 {a b c : Nat} (h : b < a) (h' : c < a) : a ∉ [b, c] := by simp; omega
section
variable {prog : Program} {w : World} {loose : List Str} {mean : ExcName → Option Value} {mg mb : Str → Option Value} {b : Heap}

local macro_rules | `(tactic| walk_at "eval Name") => `(tactic| (k_here; k_dflt (refine' nameX_L ?F ?v ?_ ?a ?b; (case F => k_asm); (case a => rfl); (case b => rfl); (case v => assumption); k_whole)))

set_option pp.maxSteps 3000
set_option pp.deepTerms false
theorem divmod_pos_spec (HB : Base w loose mean mg mb b) {dp un : Nat} {fr : Option (List Env)} {gd : Option (List Code)} {s : Shared} {Q E : Value → Shared → Prop} (hs : b.StaysIn s.heap) (hd : dp + 210 < recursionLimit)
   (x d : Int) (tx td : Tok) (hx : 0 ≤ x) (hx1 : Builtin.Int.intBits x ≤ 140) (hd0 : 0 < d) (hd1 : d < 1073741824) (hT : TabSt s.heap 51 41 4 qI) (hT' : TabSt s.heap 58 56 4 qD)
   (kk : ∀ h' tk' p tq tr, (hideAll s.heap [58, 51]).StaysIn h' → TabSt h' 51 41 4 qI → TabSt h' 58 56 4 qD → s.heap.get? p = none → h'.get? p = some { cls := .type "tuple", data := .seq #[.int (x / d) tq, .int (x % d) tr] } → Q (.ref p) { s with heap := h', toks := tk' }) :
    wpAny (model prog w) (AA dp un fr gd) (call (.ref 70) [.int x tx, .int d td]) Q E s := by
  obtain ⟨p51, hP51, hps51⟩ := hT
  obtain ⟨p58, hP58, hps58⟩ := hT'
  refine' enter0 (S := [58, 51]) (binds := [(Str.ofString "a", .int x tx), (Str.ofString "b", .int d td)]) ?HB180 ?hs180 ?hS180 ?ho180 ?hcd180 ?hroom180 ?hbind180 ?hloc180 ?_ ?c2180 ?c3180 ?c4180 ?c5180
  (case HB180 => assumption)
  (case hs180 => assumption)
  (case hS180 => (intro a ha; simp at ha; rcases ha with rfl | rfl; exact HB.n58; exact HB.n51))
  (case ho180 => k_is)
  (case hcd180 => k_is)
  (case hroom180 => (simp only [recursionLimit, AA] at *); omega)
  (case hbind180 => exact BindsTo.of_eq rfl)
  (case c5180 => decide)
  (case hloc180 => exact locs rfl)
  (case c2180 => exact rfl)
  (case c3180 => exact rfl)
  (case c4180 => exact rfl)
  intro g L h₁ hg hL F st X T hb
  have hg51 : g.get? 51 = none := by rw [hg]; exact hideAll_none _ (.tail _ (.head _))
  have hg58 : g.get? 58 = none := by rw [hg]; exact hideAll_none _ (.head _)
  have hL51 : 51 < L := by rw [hL]; exact Heap.lt_size hP51
  have hL58 : 58 < L := by rw [hL]; exact Heap.lt_size hP58
  have N : News g L h₁ [(58, tabObj p58), (51, tabObj p51)] := fun p hp => by
    simp only [List.mem_cons, List.not_mem_nil, or_false] at hp
    rcases hp with rfl | rfl
    · exact ⟨st _ _ hP58, Nat.ne_of_lt hL58, hg58⟩
    · exact ⟨st _ _ hP51, Nat.ne_of_lt hL51, hg51⟩
  (with_reducible show wpAny _ _ _ _ _ _)
  k_fold
  obtain ⟨n0, n1, hdB⟩ := bits_of_pos hd0 hd1
  obtain ⟨m, hm, hm1⟩ := digits_count (x := x) n0 hx1
  repeat' ((fail_if_success (with_reducible show Exists _)); (fail_if_success (with_reducible show wpAny _ _ (call (Value.ref _) _) _ _ _)); first | (k_unfold; (try dsimp only)) | (walk1; (try ((fail_if_success (with_reducible show wpAny _ _ (subscriptTail _ _ (Value.ref _) (Value.ref _)) _ _ _)); dsimp only))) | (dsimp only; walk1; (try ((fail_if_success (with_reducible show wpAny _ _ (subscriptTail _ _ (Value.ref _) (Value.ref _)) _ _ _)); dsimp only))) | (leave1; (try dsimp only)))
  (rename Fr _ _ _ _ => F)
  (rename News _ _ _ _ => N)
  refine' int2digits_spec ?HB183 ?hs183 ?hd183 _ _ _ _ hx n0 (by omega) m hm (by omega) (hps51.at (N (51, tabObj p51) (by k_mem)).1 (hg ▸ F.keep)) ?kk183
  case HB183 => assumption
  case hs183 => exact fun b' o' e' => Fr.keep (by assumption) _ _ (hb _ _ e')
  case hd183 => (simp only [depth_deeper, AA] at *); omega
  intro h3 tk3 ad ws3 st3 T51 hnew3 hl3 hi3
  have hSL1 : ∀ a ∈ [51], g.get? a = none ∧ a ≠ L := by intro a ha; simp at ha; subst ha; exact ⟨hg51, Nat.ne_of_lt hL51⟩
  obtain ⟨ext1, F3, N3, full3, off3, old3⟩ := after_call (S := [51]) F N hSL1 st3
  obtain ⟨p51', e51, k51⟩ := tab_in (K := fun a o => g.get? a = some o ∨ (a, o) ∈ ext1) T51 (fun a o vs e hd n1 n2 => full3 a o e (by simp; exact n2) (fields_ne_frame F3 e hd))
  obtain ⟨oad, had, cad, nad, dad⟩ := id hl3
  have fad := fresh_facts F hnew3
  have N4 : News g L h3 ((ad, oad) :: (58, tabObj p58) :: (51, tabObj p51') :: ext1) :=
    news_cons (news_cons (news_cons N3 e51 (hSL1 _ (by simp))) (N3 _ (old3 (58, tabObj p58) (by k_mem) (by simp))).1 ⟨hg58, Nat.ne_of_lt hL58⟩) had fad
  clear F N N3
  have F := F3
  clear F3
  dsimp only
  repeat' ((fail_if_success (with_reducible show Exists _)); (fail_if_success (with_reducible show wpAny _ _ (call (Value.ref _) _) _ _ _)); (fail_if_success (with_reducible show wpAny _ _ (exec (Stmt.For _ _ _ _ _) _) _ _ _)); first | (k_unfold; (try dsimp only)) | (walk1; (try ((fail_if_success (with_reducible show wpAny _ _ (subscriptTail _ _ (Value.ref _) (Value.ref _)) _ _ _)); dsimp only))) | (dsimp only; walk1; (try ((fail_if_success (with_reducible show wpAny _ _ (subscriptTail _ _ (Value.ref _) (Value.ref _)) _ _ _)); dsimp only))) | (leave1; (try dsimp only)))
  (rename Fr _ _ _ _ => F)
  (rename News _ _ _ _ => N)
  refine wpAny_For ?_
  repeat' ((fail_if_success (with_reducible show Exists _)); (fail_if_success (with_reducible show wpAny _ _ (call (Value.type "reversed") _) _ _ _)); (fail_if_success (with_reducible show wpAny _ _ (pyIter _) _ _ _)); first | (k_unfold; (try dsimp only)) | (walk1; (try ((fail_if_success (with_reducible show wpAny _ _ (subscriptTail _ _ (Value.ref _) (Value.ref _)) _ _ _)); dsimp only))) | (dsimp only; walk1; (try ((fail_if_success (with_reducible show wpAny _ _ (subscriptTail _ _ (Value.ref _) (Value.ref _)) _ _ _)); dsimp only))) | (leave1; (try dsimp only)))
  (rename Fr _ _ _ _ => F)
  (rename News _ _ _ _ => N)
  rename_i ql _ l1 _
  have lenW : ws3.length = m := by rw [hi3.length, dgs_length]
  have eB : (2 : Int) ^ (↑(Builtin.Int.intBits d) : Int).toNat = 2 ^ Builtin.Int.intBits d := by rw [Int.toNat_natCast]
  rw [eB] at hi3
  generalize hnn : Builtin.Int.intBits d = nn at *
  refine' krv_reversed (vs := ws3) ?rF ?rN ?rl ?rh
  case rF => exact F
  case rN => exact N
  case rl => exact ⟨oad, (N (ad, oad) (by k_mem)).1, cad, nad, dad⟩
  intro rit h4 F4 N4 l4
  have l4' := l4
  k_lt l4
  clear F N
  dsimp only
  refine wpAny_pyIter_revIter (l := ad) (i := (ws3.length : Int) - 1) ⟨_, (N4 _ (.head _)).1, rfl, rfl⟩ ?_
  refine codeAny_forLoop (fun k s' => ∃ (h' : Heap) (tk : Nat) (its : Array Value) (nq : Nat) (m' : Str → Option Value) (orit : Obj), k ≤ m ∧ s' = { s with heap := h', toks := tk } ∧ Fr g L h' m' ∧
      News g L h' ((rit, orit) :: (ql, W.listOf its nq) :: (ad, oad) :: (58, tabObj p58) :: (51, tabObj p51') :: ext1) ∧ orit.cls = .type "list_reverseiterator" ∧ orit.data = .fields #[.ref ad, rawInt ((k : Int) - 1)] ∧
      (∃ t, m' (Str.ofString "r") = some (.int (divL (2 ^ nn) d ((dgs (2 ^ nn) m x).reverse.take (m - k)) 0).2 t)) ∧ m' (Str.ofString "q_digits") = some (.ref ql) ∧ (∃ t, m' (Str.ofString "n") = some (.int nn t)) ∧ m' (Str.ofString "b") = some (.int d td) ∧
      IntsAre its.toList (divL (2 ^ nn) d ((dgs (2 ^ nn) m x).reverse.take (m - k)) 0).1) ?_ m ?_
  case refine_2 =>
    refine ⟨h4, _, #[], 0, _, revObj ad ((ws3.length : Int) - 1), Nat.le_refl _, rfl, F4, N4, rfl, by rw [lenW]; rfl, ⟨_, by rw [Nat.sub_self, List.take_zero]; rfl⟩, rfl, ⟨_, rfl⟩, rfl, ?_⟩
    · rw [Nat.sub_self, List.take_zero]; exact .nil
  clear F4 N4
  rintro k s' ⟨h, tk, its, nq, m', orit, hkm, rfl, F, N, or1, or2, ⟨trv, mr⟩, mq, ⟨tn, mn⟩, mb', hits⟩
  have hr1 : ∀ p ∈ ((ql, W.listOf its nq) :: (ad, oad) :: (58, tabObj p58) :: (51, tabObj p51') :: ext1 : List (Addr × Obj)), p.1 ≠ rit := head_ne l4'
  have hr2 : ∀ p ∈ ((ad, oad) :: (58, tabObj p58) :: (51, tabObj p51') :: ext1 : List (Addr × Obj)), p.1 ≠ ql := allLt_ne l1
  cases k with
  | zero =>
    refine wpAny_pyNext_rev_end (l := ad) rfl ⟨orit, (N _ (.head _)).1, or1, or2⟩ ?_
    intro h5 he5
    obtain ⟨F5, N5⟩ := ext_step F N hr1 he5
    clear F N
    have F := F5
    have N := N5
    clear F5 N5
    dsimp only
    repeat' ((fail_if_success (with_reducible show Exists _)); (fail_if_success (with_reducible show wpAny _ _ (call (Value.ref _) _) _ _ _)); (fail_if_success (with_reducible show wpAny _ _ (call (Value.builtin "list.reverse") _) _ _ _)); first | (k_unfold; (try dsimp only)) | (walk1; (try ((fail_if_success (with_reducible show wpAny _ _ (subscriptTail _ _ (Value.ref _) (Value.ref _)) _ _ _)); dsimp only))) | (dsimp only; walk1; (try ((fail_if_success (with_reducible show wpAny _ _ (subscriptTail _ _ (Value.ref _) (Value.ref _)) _ _ _)); dsimp only))) | (leave1; (try dsimp only)))
    (rename Fr _ _ _ _ => F)
    (rename News _ _ _ _ => N)
    have lenD : (dgs (2 ^ nn) m x).reverse.length = m := by rw [List.length_reverse, dgs_length]
    have e0 : List.take (m - 0) (dgs (2 ^ nn) m x).reverse = (dgs (2 ^ nn) m x).reverse := by rw [Nat.sub_zero]; exact List.take_of_length_le (Nat.le_of_eq lenD)
    rw [e0] at mr hits
    have hB0 : (0 : Int) < 2 ^ nn := Int.pow_pos (by decide)
    have hfg : Figs (2 ^ nn) (dgs (2 ^ nn) m x) := dgs_figs hB0 _ _
    have hfit : valB (2 ^ nn) (dgs (2 ^ nn) m x) = x := by
      have := bits_fit n0 hm hx
      rw [eB] at this
      exact dgs_val hB0 _ _ hx this
    obtain ⟨ev, er⟩ := divL_val hB0 hd0 hfg hfit
    obtain ⟨_, _, hfq, _⟩ := divL_ok hB0 hd0 (dgs (2 ^ nn) m x).reverse 0 (fun y hy => hfg y (List.mem_reverse.mp hy)) (Int.le_refl _) hd0
    have lq := divL_length (2 ^ nn) d (dgs (2 ^ nn) m x).reverse 0
    rw [lenD] at lq
    rw [er] at mr
    generalize (divL (2 ^ nn) d (dgs (2 ^ nn) m x).reverse 0).1 = qs at hits ev hfq lq
    have lits : its.toList.length = m := by rw [hits.length, lq]
    refine' reverse_head (D := ql) (its := its) (n := nq) ?zF ?zN ?zhap ?zh ?zsz
    case zF => exact F
    case zN => exact N
    case zhap => exact hr2
    case zsz => exact Nat.le_trans (show its.size ≤ 140 by rw [← Array.length_toList, lits]; exact hm1) (by decide)
    clear F N
    intro h6 F N
    dsimp only
    repeat' ((fail_if_success (with_reducible show Exists _)); (fail_if_success (with_reducible show wpAny _ _ (call (Value.ref _) _) _ _ _)); first | (k_unfold; (try dsimp only)) | (walk1; (try ((fail_if_success (with_reducible show wpAny _ _ (subscriptTail _ _ (Value.ref _) (Value.ref _)) _ _ _)); dsimp only))) | (dsimp only; walk1; (try ((fail_if_success (with_reducible show wpAny _ _ (subscriptTail _ _ (Value.ref _) (Value.ref _)) _ _ _)); dsimp only))) | (leave1; (try dsimp only)))
    (rename Fr _ _ _ _ => F)
    (rename News _ _ _ _ => N)
    refine' digits2int_spec ?HB192 ?hs192 ?hd192 ql its.toList.reverse qs.reverse _ _ ⟨_, hideAll_get _ (N (ql, _) (.head _)).1 (not_mem1 (.inr l1.2.1)), rfl, _, rfl⟩ hits.reverse n0 (by omega) (by rw [List.length_reverse, lq]; omega) (by rw [eB]; exact fun y hy => hfq y (List.mem_reverse.mp hy)) (hps58.at (N (58, tabObj p58) (by k_mem)).1 (hg ▸ F.keep)) ?kk192
    case HB192 => assumption
    case hs192 => exact fun b' o' e' => Fr.keep (by assumption) _ _ (hb _ _ e')
    case hd192 => (simp only [depth_deeper, AA] at *); omega
    intro h7 tk7 tq st7 T58
    have hSL2 : ∀ a ∈ [58], g.get? a = none ∧ a ≠ L := by intro a ha; simp at ha; subst ha; exact ⟨hg58, Nat.ne_of_lt hL58⟩
    obtain ⟨ext2, F7, N7, full7, off7, old7⟩ := after_call (S := [58]) F N hSL2 st7
    obtain ⟨p58', e58, k58⟩ := tab_in (K := fun a o => g.get? a = some o ∨ (a, o) ∈ ext2) T58 (fun a o vs e hd n1 n2 => full7 a o e (by simp; exact n1) (fields_ne_frame F7 e hd))
    have q51 : (51, tabObj p51') ∈ ext2 := old7 (51, tabObj p51') (by k_mem) (by simp)
    have q1 : ∀ a o, (a, o) ∈ ext1 → a ≠ 58 → (a, o) ∈ ext2 := fun a o hm n => old7 (a, o) (List.mem_cons_of_mem _ (List.mem_cons_of_mem _ (List.mem_cons_of_mem _ (List.mem_cons_of_mem _ hm)))) (by simp; exact n)
    have N8 : News g L h7 ((58, tabObj p58') :: (51, tabObj p51') :: ext2) :=
      news_cons (news_cons N7 (N7 _ q51).1 ⟨hg51, Nat.ne_of_lt hL51⟩) e58 (hSL2 _ (by simp))
    clear F N N7
    have F := F7
    have N := N8
    clear F7 N8
    dsimp only
    rw [eB, ev]
    repeat' ((fail_if_success (with_reducible show Exists _)); first | (k_unfold; (try dsimp only)) | (walk1; (try ((fail_if_success (with_reducible show wpAny _ _ (subscriptTail _ _ (Value.ref _) (Value.ref _)) _ _ _)); dsimp only))) | (dsimp only; walk1; (try ((fail_if_success (with_reducible show wpAny _ _ (subscriptTail _ _ (Value.ref _) (Value.ref _)) _ _ _)); dsimp only))) | (leave1; (try dsimp only)))
    (rename Fr _ _ _ _ => F)
    (rename News _ _ _ _ => N)
    rename_i pq _ lp
    refine kk _ _ pq _ _ (hg ▸ F.keep) (tab_out k51 (N (51, tabObj p51') (by k_mem)).1 fun a o hK n1 n2 => hK.elim (F.keep _ _) fun hx => (N (a, o) (List.mem_cons_of_mem _ (List.mem_cons_of_mem _ (List.mem_cons_of_mem _ (q1 _ _ hx n1))))).1) (tab_out k58 (N (58, tabObj p58') (by k_mem)).1 fun a o hK n1 n2 => hK.elim (F.keep _ _) fun hx => (N (a, o) (List.mem_cons_of_mem _ (List.mem_cons_of_mem _ (List.mem_cons_of_mem _ hx)))).1) (fresh_hide (hg ▸ (N (pq, _) (.head _)).2.2) (not_mem2 lp.1 lp.2.1)) (N (pq, _) (.head _)).1
  | succ j =>
    obtain ⟨tv, hv⟩ := ints_get hi3 (i := j) (by rw [dgs_length]; omega)
    have hB0 : (0 : Int) < 2 ^ nn := Int.pow_pos (by decide)
    have hfg : Figs (2 ^ nn) (dgs (2 ^ nn) m x) := dgs_figs hB0 _ _
    have key := take_rev (D := dgs (2 ^ nn) m x) (j := j) (by rw [dgs_length]; omega)
    rw [dgs_length] at key
    have hdj : 0 ≤ (dgs (2 ^ nn) m x).getD j 0 ∧ (dgs (2 ^ nn) m x).getD j 0 < 2 ^ nn := by
      refine hfg _ ?_
      rw [List.getD_eq_getElem?_getD, List.getElem?_eq_getElem (by rw [dgs_length]; omega)]
      exact List.getElem_mem _
    generalize (dgs (2 ^ nn) m x).getD j 0 = dj at hv key hdj
    obtain ⟨r0, r1, _, _⟩ := divL_ok hB0 hd0 (List.take (m - (j + 1)) (dgs (2 ^ nn) m x).reverse) 0 (fun y hy => hfg y (List.mem_reverse.mp (List.mem_of_mem_take hy))) (Int.le_refl _) hd0
    have lq := divL_length (2 ^ nn) d (List.take (m - (j + 1)) (dgs (2 ^ nn) m x).reverse) 0
    have sn := divL_snoc (2 ^ nn) d (List.take (m - (j + 1)) (dgs (2 ^ nn) m x).reverse) dj 0
    rw [← key] at sn
    have lits : its.toList.length ≤ 140 := by
      rw [hits.length, lq, List.length_take]
      exact Nat.le_trans (Nat.min_le_left _ _) (by omega)
    generalize divL (2 ^ nn) d (List.take (m - (j + 1)) (dgs (2 ^ nn) m x).reverse) 0 = pr at mr hits r0 r1 sn
    clear lq key
    refine wpAny_pyNext_rev_item (i := j) (items := ws3.toArray) ⟨orit, (N _ (.head _)).1, or1, by rw [or2]; simp⟩ ⟨oad, (N (ad, oad) (by k_mem)).1, cad, nad, dad⟩ (by simpa using hv) ?_
    intro h5 hit5 hs5
    obtain ⟨orit5, ho5, oc5, od5⟩ := hit5
    obtain ⟨F5, N5⟩ := set_step F N hr1 hs5 ho5
    clear F N
    have F := F5
    have N := N5
    clear F5 N5
    dsimp only
    repeat' ((fail_if_success (with_reducible show Exists _)); (fail_if_success (with_reducible show wpAny _ _ (call (Value.ref _) _) _ _ _)); (fail_if_success (with_reducible show wpAny _ _ (call (Value.builtin "list.append") _) _ _ _)); (fail_if_success (with_reducible show wpAny _ _ (binaryOp Operator.LShift _ _) _ _ _)); first | (k_unfold; (try dsimp only)) | (walk1; (try ((fail_if_success (with_reducible show wpAny _ _ (subscriptTail _ _ (Value.ref _) (Value.ref _)) _ _ _)); dsimp only))) | (dsimp only; walk1; (try ((fail_if_success (with_reducible show wpAny _ _ (subscriptTail _ _ (Value.ref _) (Value.ref _)) _ _ _)); dsimp only))) | (leave1; (try dsimp only)))
    (rename Fr _ _ _ _ => F)
    (rename News _ _ _ _ => N)
    refine' lshift_int ?sn ?ss ?sh
    case sn => omega
    case ss => rw [show (2 : Int) ^ 27 = 134217728 by decide]; have hrb := intBits_le (a := pr.2) (k := 30) (by omega); omega
    rw [eB]
    repeat' ((fail_if_success (with_reducible show Exists _)); (fail_if_success (with_reducible show wpAny _ _ (call (Value.ref _) _) _ _ _)); first | (k_unfold; (try dsimp only)) | (walk1; (try ((fail_if_success (with_reducible show wpAny _ _ (subscriptTail _ _ (Value.ref _) (Value.ref _)) _ _ _)); dsimp only))) | (dsimp only; walk1; (try ((fail_if_success (with_reducible show wpAny _ _ (subscriptTail _ _ (Value.ref _) (Value.ref _)) _ _ _)); dsimp only))) | (leave1; (try dsimp only)))
    (rename Fr _ _ _ _ => F)
    (rename News _ _ _ _ => N)
    have hsb := shift_bits r0 r1 hd1 n1 hdj.1 hdj.2
    refine' div2n1n_spec ?HB199 ?hs199 ?hd199 (pr.2 * 2 ^ nn + dj) d nn _ _ _ (by omega) hd0 hd1 ?kk199
    case HB199 => assumption
    case hs199 => exact fun b' o' e' => Fr.keep (by assumption) _ _ (hb _ _ e')
    case hd199 => (simp only [depth_deeper, AA] at *); omega
    intro h6 tk6 pt t1 t2 st6 hp6 hg6
    have fp := fresh_facts F hp6
    (rename Fr _ _ _ _ => F)
    (rename News _ _ _ _ => N)
    have F' := fr_ext F st6
    have N' := news_ext N st6
    clear F N
    have F := F'
    have N := N'
    clear F' N'
    have N' := news_cons N hg6 fp
    clear N
    have N := N'
    clear N'
    dsimp only
    repeat' ((fail_if_success (with_reducible show Exists _)); (fail_if_success (with_reducible show wpAny _ _ (call (Value.ref _) _) _ _ _)); (fail_if_success (with_reducible show wpAny _ _ (call (Value.builtin "list.append") _) _ _ _)); first | (k_unfold; (try dsimp only)) | (walk1; (try ((fail_if_success (with_reducible show wpAny _ _ (subscriptTail _ _ (Value.ref _) (Value.ref _)) _ _ _)); dsimp only))) | (dsimp only; walk1; (try ((fail_if_success (with_reducible show wpAny _ _ (subscriptTail _ _ (Value.ref _) (Value.ref _)) _ _ _)); dsimp only))) | (leave1; (try dsimp only)))
    (rename Fr _ _ _ _ => F)
    (rename News _ _ _ _ => N)
    have N' : News g L _ ((ql, W.listOf its nq) :: (rit, orit5) :: (ad, oad) :: (58, tabObj p58) :: (51, tabObj p51') :: ext1) := fun p hp => by
      rcases List.mem_cons.mp hp with rfl | hp
      · exact N _ (.tail _ (.tail _ (.head _)))
      · rcases List.mem_cons.mp hp with rfl | hp
        · exact N _ (.tail _ (.head _))
        · exact N _ (.tail _ (.tail _ (.tail _ hp)))
    refine' append_head (D := ql) (its := its) (n := nq) ?yF ?yN ?yhap ?yh ?ysz
    case yF => exact F
    case yN => exact N'
    case yhap =>
      intro p hp
      rcases List.mem_cons.mp hp with rfl | hp
      · exact Nat.ne_of_gt l4.1
      · exact hr2 _ hp
    case ysz => exact Nat.le_trans (show its.size ≤ 140 by rw [← Array.length_toList]; exact lits) (by decide)
    clear F N N'
    intro h7 F N
    dsimp only
    repeat' ((fail_if_success (with_reducible show Exists _)); first | (k_unfold; (try dsimp only)) | (walk1; (try ((fail_if_success (with_reducible show wpAny _ _ (subscriptTail _ _ (Value.ref _) (Value.ref _)) _ _ _)); dsimp only))) | (dsimp only; walk1; (try ((fail_if_success (with_reducible show wpAny _ _ (subscriptTail _ _ (Value.ref _) (Value.ref _)) _ _ _)); dsimp only))) | (leave1; (try dsimp only)))
    have N' : News g L h7 ((rit, orit5) :: (ql, W.listOf (its.push (.int ((pr.2 * 2 ^ nn + dj) / d) t1)) (nq + 1)) :: (ad, oad) :: (58, tabObj p58) :: (51, tabObj p51') :: ext1) := fun p hp => by
      rcases List.mem_cons.mp hp with rfl | hp
      · exact N _ (.tail _ (.head _))
      · rcases List.mem_cons.mp hp with rfl | hp
        · exact N _ (.head _)
        · exact N _ (.tail _ (.tail _ hp))
    refine ⟨j, Nat.lt_succ_self _, h7, _, its.push (.int ((pr.2 * 2 ^ nn + dj) / d) t1), nq + 1, _, orit5, by omega, rfl, F, N', oc5, od5, ⟨t2, ?_⟩, mq, ⟨tn, mn⟩, mb', ?_⟩
    · rw [sn]; rfl
    · rw [sn, Array.toList_push]
      exact hits.append (.cons _ _ .nil)
end
end Mine
end

section
open PySem PySem.W PySem.Spec PySem.Calls PyProof.Rows
set_option maxRecDepth 100000
set_option maxHeartbeats 4000000
namespace Mine

theorem after_div {g h h' : Heap} {L : Addr} {m : Str → Option Value} {news : List (Addr × Obj)} (F : Fr g L h m) (N : News g L h news) (hS : ∀ a ∈ [58, 51], g.get? a = none ∧ a ≠ L) (k : (hideAll h [58, 51]).StaysIn h') (T51 : TabSt h' 51 41 4 qI) (T58 : TabSt h' 58 56 4 qD) :
    ∃ ext p58 p51, Fr g L h' m ∧ News g L h' ((58, tabObj p58) :: (51, tabObj p51) :: ext) ∧ (∀ p ∈ news, p.1 ∉ [58, 51] → p ∈ ext) ∧ TabIs p51 41 4 (RecK (fun a o => g.get? a = some o ∨ (a, o) ∈ ext) qI) ∧ TabIs p58 56 4 (RecK (fun a o => g.get? a = some o ∨ (a, o) ∈ ext) qD) := by
  obtain ⟨ext, F', N', full, off, old⟩ := after_call (S := [58, 51]) F N hS k
  have f : ∀ a o vs, h'.get? a = some o → o.data = .fields vs → a ≠ 58 → a ≠ 51 → g.get? a = some o ∨ (a, o) ∈ ext := fun a o vs e hd n1 n2 => full a o e (by simp; exact ⟨n1, n2⟩) (fields_ne_frame F' e hd)
  obtain ⟨p51, e51, k51⟩ := tab_in T51 f
  obtain ⟨p58, e58, k58⟩ := tab_in T58 f
  exact ⟨ext, p58, p51, F', news_cons (news_cons N' e51 (hS _ (by simp))) e58 (hS _ (by simp)), old, k51, k58⟩
theorem tab_end {g h : Heap} {L : Addr} {m : Str → Option Value} {news ext : List (Addr × Obj)} {P : Addr} {ps : Array Value} {ln cl : Int} {q : Str} (F : Fr g L h m) (N : News g L h news) (sub : ∀ p ∈ ext, p ∈ news) (x : TabIs ps ln cl (RecK (fun a o => g.get? a = some o ∨ (a, o) ∈ ext) q)) (e : (P, tabObj ps) ∈ news) : TabSt h P ln cl q :=
  tab_out x (N _ e).1 fun a o hK _ _ => hK.elim (F.keep _ _) fun hx => (N _ (sub _ hx)).1

theorem none2 {h : Heap} {p : Addr} {o1 o2 : Obj} (hn : h.get? p = none) (h1 : h.get? 58 = some o1) (h2 : h.get? 51 = some o2) : p ∉ [58, 51] := fun hp => by
  simp only [List.mem_cons, List.not_mem_nil, or_false] at hp
  rcases hp with rfl | rfl
  · rw [h1] at hn; cases hn
  · rw [h2] at hn; cases hn
section
variable {prog : Program} {w : World} {loose : List Str} {mean : ExcName → Option Value} {mg mb : Str → Option Value} {b : Heap}

set_option pp.maxSteps 3000
set_option pp.deepTerms false
theorem int_divmod_pp (HB : Base w loose mean mg mb b) {dp un : Nat} {fr : Option (List Env)} {gd : Option (List Code)} {s : Shared} {Q E : Value → Shared → Prop} (hs : b.StaysIn s.heap) (hd : dp + 215 < recursionLimit)
   (x d : Int) (tx td : Tok) (hx : 0 ≤ x) (hx1 : Builtin.Int.intBits x ≤ 140) (hd0 : 0 < d) (hd1 : d < 1073741824) (hT : TabSt s.heap 51 41 4 qI) (hT' : TabSt s.heap 58 56 4 qD)
   (kk : ∀ h' tk' p tq tr, (hideAll s.heap [58, 51]).StaysIn h' → TabSt h' 51 41 4 qI → TabSt h' 58 56 4 qD → s.heap.get? p = none → h'.get? p = some { cls := .type "tuple", data := .seq #[.int (x / d) tq, .int (x % d) tr] } → Q (.ref p) { s with heap := h', toks := tk' }) :
    wpAny (model prog w) (AA dp un fr gd) (call (.ref 77) [.int x tx, .int d td]) Q E s := by
  obtain ⟨p51, hP51, hps51⟩ := hT
  obtain ⟨p58, hP58, hps58⟩ := hT'
  refine' enter0 (S := [58, 51]) (binds := [(Str.ofString "a", .int x tx), (Str.ofString "b", .int d td)]) ?HB206 ?hs206 ?hS206 ?ho206 ?hcd206 ?hroom206 ?hbind206 ?hloc206 ?_ ?c2206 ?c3206 ?c4206 ?c5206
  (case HB206 => assumption)
  (case hs206 => assumption)
  (case hS206 => (intro a ha; simp at ha; rcases ha with rfl | rfl; exact HB.n58; exact HB.n51))
  (case ho206 => k_is)
  (case hcd206 => k_is)
  (case hroom206 => (simp only [recursionLimit, AA] at *); omega)
  (case hbind206 => exact BindsTo.of_eq rfl)
  (case c5206 => decide)
  (case hloc206 => exact locs rfl)
  (case c2206 => exact rfl)
  (case c3206 => exact rfl)
  (case c4206 => exact rfl)
  intro g L h₁ hg hL F st X T hb
  have hg51 : g.get? 51 = none := by rw [hg]; exact hideAll_none _ (.tail _ (.head _))
  have hg58 : g.get? 58 = none := by rw [hg]; exact hideAll_none _ (.head _)
  have hL51 : 51 < L := by rw [hL]; exact Heap.lt_size hP51
  have hL58 : 58 < L := by rw [hL]; exact Heap.lt_size hP58
  have hSS : ∀ a ∈ [58, 51], g.get? a = none ∧ a ≠ L := by intro a ha; simp at ha; rcases ha with rfl | rfl; exact ⟨hg58, Nat.ne_of_lt hL58⟩; exact ⟨hg51, Nat.ne_of_lt hL51⟩
  have N : News g L h₁ [(58, tabObj p58), (51, tabObj p51)] := fun p hp => by
    simp only [List.mem_cons, List.not_mem_nil, or_false] at hp
    rcases hp with rfl | rfl
    · exact ⟨st _ _ hP58, Nat.ne_of_lt hL58, hg58⟩
    · exact ⟨st _ _ hP51, Nat.ne_of_lt hL51, hg51⟩
  (with_reducible show wpAny _ _ _ _ _ _)
  k_fold
  repeat' ((fail_if_success (with_reducible show Exists _)); (fail_if_success (with_reducible show wpAny _ _ (call (Value.ref _) _) _ _ _)); first | (k_unfold; (try dsimp only)) | (walk1; (try ((fail_if_success (with_reducible show wpAny _ _ (subscriptTail _ _ (Value.ref _) (Value.ref _)) _ _ _)); dsimp only))) | (dsimp only; walk1; (try ((fail_if_success (with_reducible show wpAny _ _ (subscriptTail _ _ (Value.ref _) (Value.ref _)) _ _ _)); dsimp only))) | (leave1; (try dsimp only)))
  all_goals try (exfalso; omega)
  (rename Fr _ _ _ _ => F)
  (rename News _ _ _ _ => N)
  refine' divmod_pos_spec ?HB209 ?hs209 ?hd209 _ _ _ _ hx hx1 hd0 hd1 (hps51.at (N (51, tabObj p51) (by k_mem)).1 (hg ▸ F.keep)) (hps58.at (N (58, tabObj p58) (by k_mem)).1 (hg ▸ F.keep)) ?kk209
  case HB209 => assumption
  case hs209 => exact fun b' o' e' => Fr.keep (by assumption) _ _ (hb _ _ e')
  case hd209 => (simp only [depth_deeper, AA] at *); omega
  intro h3 tk3 p tq tr st3 T51 T58 hnew hget
  obtain ⟨ext, q58, q51, F3, N3, old, k51, k58⟩ := after_div F N hSS st3 T51 T58
  have fp := fresh_facts F hnew
  have np : p ∉ [58, 51] := none2 hnew (N (58, tabObj p58) (by k_mem)).1 (N (51, tabObj p51) (by k_mem)).1
  have N4 := news_cons N3 hget fp
  clear F N N3
  have F := F3
  have N := N4
  clear F3 N4
  dsimp only
  repeat' ((fail_if_success (with_reducible show Exists _)); first | (k_unfold; (try dsimp only)) | (walk1; (try ((fail_if_success (with_reducible show wpAny _ _ (subscriptTail _ _ (Value.ref _) (Value.ref _)) _ _ _)); dsimp only))) | (dsimp only; walk1; (try ((fail_if_success (with_reducible show wpAny _ _ (subscriptTail _ _ (Value.ref _) (Value.ref _)) _ _ _)); dsimp only))) | (leave1; (try dsimp only)))
  (rename Fr _ _ _ _ => F)
  (rename News _ _ _ _ => N)
  exact kk _ _ p tq tr (hg ▸ F.keep) T51 T58 (fresh_hide (hg ▸ fp.1) np) hget

theorem compl_div {x d : Int} (h : 0 < d) : -((-x - 1) / d) - 1 = x / d ∧ d + (-((-x - 1) % d) - 1) = x % d := by
  have e := Int.mul_ediv_add_emod (-x - 1) d
  have r0 := Int.emod_nonneg (-x - 1) (Int.ne_of_gt h)
  have r1 := Int.emod_lt_of_pos (-x - 1) h
  have := (Int.ediv_emod_unique (a := x) (r := d + (-((-x - 1) % d) - 1)) (q := -((-x - 1) / d) - 1) h).mpr ⟨by
    generalize (-x - 1) / d = q at e ⊢
    generalize (-x - 1) % d = r at e ⊢
    rw [Int.mul_sub, Int.mul_neg]
    omega, by omega, by omega⟩
  exact ⟨this.1.symm, this.2.symm⟩
theorem bits_compl {x : Int} {k : Nat} (h : Builtin.Int.intBits x ≤ k) : Builtin.Int.intBits (-x - 1) ≤ k + 1 := by
  have a := natAbs_lt_pow_bits x
  have e : 2 ^ Builtin.Int.intBits x ≤ 2 ^ k := Nat.pow_le_pow_right (by decide) h
  refine intBits_le ?_
  have : 2 ^ (k + 1) = 2 * 2 ^ k := by rw [Nat.pow_succ, Nat.mul_comm]
  have p : 0 < 2 ^ k := Nat.pow_pos (by decide)
  generalize 2 ^ k = y at *
  generalize 2 ^ Builtin.Int.intBits x = z at *
  rw [this]
  omega
theorem bits_neg {x : Int} {k : Nat} (h : Builtin.Int.intBits x ≤ k) : Builtin.Int.intBits (-x) ≤ k := by
  have a := natAbs_lt_pow_bits x
  have e : 2 ^ Builtin.Int.intBits x ≤ 2 ^ k := Nat.pow_le_pow_right (by decide) h
  refine intBits_le ?_
  generalize 2 ^ k = y at *
  generalize 2 ^ Builtin.Int.intBits x = z at *
  omega

theorem int_divmod_p (HB : Base w loose mean mg mb b) {dp un : Nat} {fr : Option (List Env)} {gd : Option (List Code)} {s : Shared} {Q E : Value → Shared → Prop} (hs : b.StaysIn s.heap) (hd : dp + 220 < recursionLimit)
   (x d : Int) (tx td : Tok) (hx1 : Builtin.Int.intBits x ≤ 139) (hd0 : 0 < d) (hd1 : d < 1073741824) (hT : TabSt s.heap 51 41 4 qI) (hT' : TabSt s.heap 58 56 4 qD)
   (kk : ∀ h' tk' p tq tr, (hideAll s.heap [58, 51]).StaysIn h' → TabSt h' 51 41 4 qI → TabSt h' 58 56 4 qD → s.heap.get? p = none → h'.get? p = some { cls := .type "tuple", data := .seq #[.int (x / d) tq, .int (x % d) tr] } → Q (.ref p) { s with heap := h', toks := tk' }) :
    wpAny (model prog w) (AA dp un fr gd) (call (.ref 77) [.int x tx, .int d td]) Q E s := by
  rcases Int.lt_or_le x 0 with hx | hx
  rotate_left
  · exact int_divmod_pp HB hs (by omega) x d tx td hx (Nat.le_trans hx1 (by decide)) hd0 hd1 hT hT' kk
  obtain ⟨p51, hP51, hps51⟩ := hT
  obtain ⟨p58, hP58, hps58⟩ := hT'
  refine' enter0 (S := [58, 51]) (binds := [(Str.ofString "a", .int x tx), (Str.ofString "b", .int d td)]) ?HB214 ?hs214 ?hS214 ?ho214 ?hcd214 ?hroom214 ?hbind214 ?hloc214 ?_ ?c2214 ?c3214 ?c4214 ?c5214
  (case HB214 => assumption)
  (case hs214 => assumption)
  (case hS214 => (intro a ha; simp at ha; rcases ha with rfl | rfl; exact HB.n58; exact HB.n51))
  (case ho214 => k_is)
  (case hcd214 => k_is)
  (case hroom214 => (simp only [recursionLimit, AA] at *); omega)
  (case hbind214 => exact BindsTo.of_eq rfl)
  (case c5214 => decide)
  (case hloc214 => exact locs rfl)
  (case c2214 => exact rfl)
  (case c3214 => exact rfl)
  (case c4214 => exact rfl)
  intro g L h₁ hg hL F st X T hb
  have hg51 : g.get? 51 = none := by rw [hg]; exact hideAll_none _ (.tail _ (.head _))
  have hg58 : g.get? 58 = none := by rw [hg]; exact hideAll_none _ (.head _)
  have hL51 : 51 < L := by rw [hL]; exact Heap.lt_size hP51
  have hL58 : 58 < L := by rw [hL]; exact Heap.lt_size hP58
  have hSS : ∀ a ∈ [58, 51], g.get? a = none ∧ a ≠ L := by intro a ha; simp at ha; rcases ha with rfl | rfl; exact ⟨hg58, Nat.ne_of_lt hL58⟩; exact ⟨hg51, Nat.ne_of_lt hL51⟩
  have N : News g L h₁ [(58, tabObj p58), (51, tabObj p51)] := fun p hp => by
    simp only [List.mem_cons, List.not_mem_nil, or_false] at hp
    rcases hp with rfl | rfl
    · exact ⟨st _ _ hP58, Nat.ne_of_lt hL58, hg58⟩
    · exact ⟨st _ _ hP51, Nat.ne_of_lt hL51, hg51⟩
  (with_reducible show wpAny _ _ _ _ _ _)
  k_fold
  repeat' ((fail_if_success (with_reducible show Exists _)); (fail_if_success (with_reducible show wpAny _ _ (call (Value.ref _) _) _ _ _)); first | (k_unfold; (try dsimp only)) | (walk1; (try ((fail_if_success (with_reducible show wpAny _ _ (subscriptTail _ _ (Value.ref _) (Value.ref _)) _ _ _)); dsimp only))) | (dsimp only; walk1; (try ((fail_if_success (with_reducible show wpAny _ _ (subscriptTail _ _ (Value.ref _) (Value.ref _)) _ _ _)); dsimp only))) | (leave1; (try dsimp only)))
  all_goals try (exfalso; omega)
  (rename Fr _ _ _ _ => F)
  (rename News _ _ _ _ => N)
  have hb2 := bits_compl hx1
  refine' int_divmod_pp ?HB217 ?hs217 ?hd217 (-x - 1) d _ _ (by omega) hb2 hd0 hd1 (hps51.at (N (51, tabObj p51) (by k_mem)).1 (hg ▸ F.keep)) (hps58.at (N (58, tabObj p58) (by k_mem)).1 (hg ▸ F.keep)) ?kk217
  case HB217 => assumption
  case hs217 => exact fun b' o' e' => Fr.keep (by assumption) _ _ (hb _ _ e')
  case hd217 => (simp only [depth_deeper, AA] at *); omega
  intro h3 tk3 p tq tr st3 T51 T58 hnew hget
  obtain ⟨ext, q58, q51, F3, N3, old, k51, k58⟩ := after_div F N hSS st3 T51 T58
  have fp := fresh_facts F hnew
  have np : p ∉ [58, 51] := none2 hnew (N (58, tabObj p58) (by k_mem)).1 (N (51, tabObj p51) (by k_mem)).1
  have N4 := news_cons N3 hget fp
  clear F N N3
  have F := F3
  have N := N4
  clear F3 N4
  dsimp only
  repeat' ((fail_if_success (with_reducible show Exists _)); first | (k_unfold; (try dsimp only)) | (walk1; (try ((fail_if_success (with_reducible show wpAny _ _ (subscriptTail _ _ (Value.ref _) (Value.ref _)) _ _ _)); dsimp only))) | (dsimp only; walk1; (try ((fail_if_success (with_reducible show wpAny _ _ (subscriptTail _ _ (Value.ref _) (Value.ref _)) _ _ _)); dsimp only))) | (leave1; (try dsimp only)))
  (rename Fr _ _ _ _ => F)
  (rename News _ _ _ _ => N)
  rename_i pq _ lp
  obtain ⟨eq, er⟩ := compl_div (x := x) hd0
  rw [show Builtin.bitNot ((-x - 1) / d) = x / d from eq, show d + Builtin.bitNot ((-x - 1) % d) = x % d from er] at N
  refine kk _ _ pq _ _ (hg ▸ F.keep) (tab_end F N (fun p hp => by repeat (first | exact hp | refine .tail _ ?_)) k51 (by k_mem)) (tab_end F N (fun p hp => by repeat (first | exact hp | refine .tail _ ?_)) k58 (by k_mem)) (fresh_hide (hg ▸ (N (pq, _) (.head _)).2.2) (not_mem2 lp.2.1 lp.2.2.1)) (N (pq, _) (.head _)).1

theorem int_divmod_n (HB : Base w loose mean mg mb b) {dp un : Nat} {fr : Option (List Env)} {gd : Option (List Code)} {s : Shared} {Q E : Value → Shared → Prop} (hs : b.StaysIn s.heap) (hd : dp + 225 < recursionLimit)
   (x d : Int) (tx td : Tok) (hx1 : Builtin.Int.intBits x ≤ 139) (hd0 : d < 0) (hd1 : -1073741824 < d) (hT : TabSt s.heap 51 41 4 qI) (hT' : TabSt s.heap 58 56 4 qD)
   (kk : ∀ h' tk' p tq tr, (hideAll s.heap [58, 51]).StaysIn h' → TabSt h' 51 41 4 qI → TabSt h' 58 56 4 qD → s.heap.get? p = none → h'.get? p = some { cls := .type "tuple", data := .seq #[.int (-x / -d) tq, .int (-(-x % -d)) tr] } → Q (.ref p) { s with heap := h', toks := tk' }) :
    wpAny (model prog w) (AA dp un fr gd) (call (.ref 77) [.int x tx, .int d td]) Q E s := by
  obtain ⟨p51, hP51, hps51⟩ := hT
  obtain ⟨p58, hP58, hps58⟩ := hT'
  refine' enter0 (S := [58, 51]) (binds := [(Str.ofString "a", .int x tx), (Str.ofString "b", .int d td)]) ?HB222 ?hs222 ?hS222 ?ho222 ?hcd222 ?hroom222 ?hbind222 ?hloc222 ?_ ?c2222 ?c3222 ?c4222 ?c5222
  (case HB222 => assumption)
  (case hs222 => assumption)
  (case hS222 => (intro a ha; simp at ha; rcases ha with rfl | rfl; exact HB.n58; exact HB.n51))
  (case ho222 => k_is)
  (case hcd222 => k_is)
  (case hroom222 => (simp only [recursionLimit, AA] at *); omega)
  (case hbind222 => exact BindsTo.of_eq rfl)
  (case c5222 => decide)
  (case hloc222 => exact locs rfl)
  (case c2222 => exact rfl)
  (case c3222 => exact rfl)
  (case c4222 => exact rfl)
  intro g L h₁ hg hL F st X T hb
  have hg51 : g.get? 51 = none := by rw [hg]; exact hideAll_none _ (.tail _ (.head _))
  have hg58 : g.get? 58 = none := by rw [hg]; exact hideAll_none _ (.head _)
  have hL51 : 51 < L := by rw [hL]; exact Heap.lt_size hP51
  have hL58 : 58 < L := by rw [hL]; exact Heap.lt_size hP58
  have hSS : ∀ a ∈ [58, 51], g.get? a = none ∧ a ≠ L := by intro a ha; simp at ha; rcases ha with rfl | rfl; exact ⟨hg58, Nat.ne_of_lt hL58⟩; exact ⟨hg51, Nat.ne_of_lt hL51⟩
  have N : News g L h₁ [(58, tabObj p58), (51, tabObj p51)] := fun p hp => by
    simp only [List.mem_cons, List.not_mem_nil, or_false] at hp
    rcases hp with rfl | rfl
    · exact ⟨st _ _ hP58, Nat.ne_of_lt hL58, hg58⟩
    · exact ⟨st _ _ hP51, Nat.ne_of_lt hL51, hg51⟩
  (with_reducible show wpAny _ _ _ _ _ _)
  k_fold
  repeat' ((fail_if_success (with_reducible show Exists _)); (fail_if_success (with_reducible show wpAny _ _ (call (Value.ref _) _) _ _ _)); first | (k_unfold; (try dsimp only)) | (walk1; (try ((fail_if_success (with_reducible show wpAny _ _ (subscriptTail _ _ (Value.ref _) (Value.ref _)) _ _ _)); dsimp only))) | (dsimp only; walk1; (try ((fail_if_success (with_reducible show wpAny _ _ (subscriptTail _ _ (Value.ref _) (Value.ref _)) _ _ _)); dsimp only))) | (leave1; (try dsimp only)))
  all_goals try (exfalso; omega)
  (rename Fr _ _ _ _ => F)
  (rename News _ _ _ _ => N)
  have hb2 := bits_neg hx1
  refine' int_divmod_p ?HB225 ?hs225 ?hd225 (-x) (-d) _ _ hb2 (by omega) (by omega) (hps51.at (N (51, tabObj p51) (by k_mem)).1 (hg ▸ F.keep)) (hps58.at (N (58, tabObj p58) (by k_mem)).1 (hg ▸ F.keep)) ?kk225
  case HB225 => assumption
  case hs225 => exact fun b' o' e' => Fr.keep (by assumption) _ _ (hb _ _ e')
  case hd225 => (simp only [depth_deeper, AA] at *); omega
  intro h3 tk3 p tq tr st3 T51 T58 hnew hget
  obtain ⟨ext, q58, q51, F3, N3, old, k51, k58⟩ := after_div F N hSS st3 T51 T58
  have fp := fresh_facts F hnew
  have np : p ∉ [58, 51] := none2 hnew (N (58, tabObj p58) (by k_mem)).1 (N (51, tabObj p51) (by k_mem)).1
  have N4 := news_cons N3 hget fp
  clear F N N3
  have F := F3
  have N := N4
  clear F3 N4
  dsimp only
  repeat' ((fail_if_success (with_reducible show Exists _)); first | (k_unfold; (try dsimp only)) | (walk1; (try ((fail_if_success (with_reducible show wpAny _ _ (subscriptTail _ _ (Value.ref _) (Value.ref _)) _ _ _)); dsimp only))) | (dsimp only; walk1; (try ((fail_if_success (with_reducible show wpAny _ _ (subscriptTail _ _ (Value.ref _) (Value.ref _)) _ _ _)); dsimp only))) | (leave1; (try dsimp only)))
  (rename Fr _ _ _ _ => F)
  (rename News _ _ _ _ => N)
  rename_i pq _ lp
  refine kk _ _ pq _ _ (hg ▸ F.keep) (tab_end F N (fun p hp => by repeat (first | exact hp | refine .tail _ ?_)) k51 (by k_mem)) (tab_end F N (fun p hp => by repeat (first | exact hp | refine .tail _ ?_)) k58 (by k_mem)) (fresh_hide (hg ▸ (N (pq, _) (.head _)).2.2) (not_mem2 lp.2.1 lp.2.2.1)) (N (pq, _) (.head _)).1

theorem int_divmod_spec (HB : Base w loose mean mg mb b) {dp un : Nat} {fr : Option (List Env)} {gd : Option (List Code)} {s : Shared} {Q E : Value → Shared → Prop} (hs : b.StaysIn s.heap) (hd : dp + 225 < recursionLimit)
   (x d u : Int) (tx td : Tok) (hu : u = 1 ∨ u = -1) (hx1 : Builtin.Int.intBits x ≤ 138) (hd0 : 0 < d) (hd1 : d < 1073741824) (hT : TabSt s.heap 51 41 4 qI) (hT' : TabSt s.heap 58 56 4 qD)
   (kk : ∀ h' tk' p tq tr, (hideAll s.heap [58, 51]).StaysIn h' → TabSt h' 51 41 4 qI → TabSt h' 58 56 4 qD → s.heap.get? p = none → h'.get? p = some { cls := .type "tuple", data := .seq #[.int (x / d) tq, .int (u * (x % d)) tr] } → Q (.ref p) { s with heap := h', toks := tk' }) :
    wpAny (model prog w) (AA dp un fr gd) (call (.ref 77) [.int (u * x) tx, .int (u * d) td]) Q E s := by
  rcases hu with rfl | rfl
  · simp only [Int.one_mul] at kk ⊢
    exact int_divmod_p HB hs (by omega) x d tx td (Nat.le_trans hx1 (by decide)) hd0 hd1 hT hT' kk
  · have e : ∀ y : Int, -1 * y = -y := fun y => by omega
    simp only [e] at kk ⊢
    have hb2 := bits_neg hx1
    refine int_divmod_n HB hs (by omega) (-x) (-d) tx td (Nat.le_trans hb2 (by decide)) (by omega) (by omega) hT hT' ?_
    rw [Int.neg_neg, Int.neg_neg]
    exact kk
end
end Mine
end

section
open PySem PySem.W PySem.Spec PySem.Calls PyProof.Rows
set_option maxRecDepth 100000
namespace Mine
/-- the text of the function that stands at an address -/
def textOf (K : Frag) (a : Addr) : Option (Str × Arguments × List Stmt × Scope) := match K.lookup a with
  | some ⟨_, _, .func fd, _⟩ => (match fd.body with | .stmts l => some (fd.name, fd.params, l, fd.scope) | _ => none)
  | _ => none
theorem bindL_one {k : Str → Option NameKind} {n y : Str} {v : Value} (h : k n = some .local) : bindL k [(n, v)] (fun _ => none) y = if y = n then some v else none := by simp [bindL, h]
set_option maxHeartbeats 400000
theorem law_text (P : Params) {x y : Str × Arguments × List Stmt × Scope} (e : textOf (hd.heap_39 P) 110 = some x) (h : textOf (hd.heap_39 P) 110 = some y) : x = y := Option.some.inj (e.symm.trans h)
end Mine
end

section
open PySem PySem.W PySem.Spec PySem.Calls PyProof.Rows PyProof.Rows.LCg
set_option maxRecDepth 100000
namespace Mine

section
variable {prog : Program} {w : World} {A : Around} {E : Value → Shared → Prop} {s : Shared} {h₀ : Heap} {L : Addr} {m : Str → Option Value} {env : Env}

/-- the turns of a list comprehension over enumerate: each turn keeps the ledger K -/
def EnumTurn (prog : Program) (w : World) (A : Around) (h₀ : Heap) (L : Addr) (m : Str → Option Value) (env : Env) (elt : PySem.Expr) (a b : Str) (scope : Scope) (cl : List (Str × Addr)) (s : Shared) (vs : List Value) (K : List (Addr × Obj)) (Inv : Nat → List Value → Prop) : Prop :=
  ∀ i v t I oI J oJ C oC D m₂ h tk ys (E' : Value → Shared → Prop), vs[i]? = some v → Inv i ys → NsObj oC m₂ → m₂ a = some (.int i t) → m₂ b = some v → Fr h₀ L h m → News h₀ L h ((I, oI) :: (C, oC) :: (D, lst ys) :: (J, oJ) :: K) → Off3 I C D ((J, oJ) :: K) → ((@Ne Nat I C) ∧ (@Ne Nat I D) ∧ (@Ne Nat C D)) →
    wpAny (model prog w) A (eval elt (compEnvC scope cl C env)) (CompEnd h₀ L m { s with heap := h, toks := tk } I oI C oC D (lst ys) (fun n' => ∀ p ∈ (J, oJ) :: K, p ∈ n') (fun y _ => Inv (i + 1) (ys ++ [y]))) E' { s with heap := h, toks := tk }
def EnumPost (prog : Program) (w : World) (A : Around) (h₀ : Heap) (L : Addr) (m : Str → Option Value) (env : Env) (elt : PySem.Expr) (a b : Str) (scope : Scope) (cl : List (Str × Addr)) (Q : Value → Shared → Prop) (xv : Value) (s : Shared) : Prop :=
  ∃ (I J l : Addr) (K : List (Addr × Obj)) (vs : List Value) (lo : Obj) (nl : Nat) (Inv : Nat → List Value → Prop), xv = .ref I ∧ Fr h₀ L s.heap m ∧ News h₀ L s.heap K ∧ IsEnum s.heap I J 0 .none ∧ s.heap.IsListIter J l 0 ∧ (l, lo) ∈ K ∧ lo.cls = .type "list" ∧ lo.data = .seq vs.toArray nl ∧
    I ≠ J ∧ (∀ p ∈ K, p.1 ≠ I ∧ p.1 ≠ J) ∧ L ≠ I ∧ L ≠ J ∧ h₀.get? I = none ∧ h₀.get? J = none ∧ vs.length ≤ sizeLine ∧ Inv 0 [] ∧ EnumTurn prog w A h₀ L m env elt a b scope cl s vs K Inv ∧
    ∀ D h tk ys, Inv vs.length ys → Fr h₀ L h m → News h₀ L h ((D, lst ys) :: K) → Off1 D K → Q (.ref D) { s with heap := h, toks := tk }

theorem ListComp_enum {elt iter : PySem.Expr} {a b : Str} {pa pb tp : Pos} {kk : Nat} {scope : Scope} {cl : List (Str × Addr)} {pos : Pos} {Q : Value → Shared → Prop} (hh : A.handled = none)
    (hclos : closureFor scope env = pure cl) (hcell : ∀ y ∈ scope.names, y.2 ≠ .cell) (hkind : scope.kind = .function)
    (hnames : ∀ y ∈ scope.names, y.2 = .local → scope.names.lookup y.1 = some .local) (hxa : scope.names.lookup a = some .local) (hxb : scope.names.lookup b = some .local) (hab : ¬ a = b)
    (h : wpAny (model prog w) A (eval iter env) (EnumPost prog w A h₀ L m env elt a b scope cl Q) E s)
    (hs : ∀ x, foldedSetIterable iter env x = pure x := by intro _; rfl) :
    wpAny (model prog w) A (eval (.ListComp elt [⟨.Tuple [.Name a pa, .Name b pb] kk tp, iter, [], 0⟩] scope pos) env) Q E s := by
  rw [eval_ListComp]
  refine wpAny_comprehension_free (use := none) rfl hs hclos hkind hnames (wpAny_mono h (fun xv s₂ h₁ => ?_) fun _ _ e => e)
  obtain ⟨I, J, l, K, vs, lo, nl, Inv, rfl, F, N, hE, hJ, hlm, hlc, hld, hIJ, off, hLI, hLJ, hI₀, hJ₀, hsz, hInv, turn, fin⟩ := h₁
  refine wpAny_pyIter_enum hE ?_
  refine wpAny_newObj_type (wpAny_newFunctionEnv hcell (by intro y hy; simp at hy) (fun h₁ hns₁ hsb₁ => ?_) hkind)
  dsimp only at hns₁ hsb₁ ⊢
  generalize hH2 : s₂.heap.push { cls := .type "list", dict := none, data := .seq ([] : List Value).toArray } = H2 at hns₁ hsb₁ ⊢
  have hC : H2.objs.size = s₂.heap.objs.size + 1 := by rw [← hH2, Heap.size_push]
  have hDC : s₂.heap.objs.size ≠ H2.objs.size := by rw [hC]; exact Nat.ne_of_lt (Nat.lt_succ_self _)
  have below : ∀ b, b < s₂.heap.objs.size → b ≠ H2.objs.size ∧ b ≠ s₂.heap.objs.size := fun b hb => ⟨by rw [hC]; exact Nat.ne_of_lt (Nat.lt_succ_of_lt hb), Nat.ne_of_lt hb⟩
  have hIlt : I < s₂.heap.objs.size := Heap.lt_size hE
  have hJlt : J < s₂.heap.objs.size := by obtain ⟨_, e, _⟩ := hJ; exact Heap.lt_size e
  have old : ∀ b o, s₂.heap.get? b = some o → h₁.get? b = some o := fun b o e => hsb₁.extBut b o (below b (Heap.lt_size e)).1 (Heap.get?_push_of_some _ (hH2 ▸ Heap.get?_push_of_some _ e))
  have hacc : h₁.get? s₂.heap.objs.size = some (lst []) := hsb₁.extBut _ _ hDC (Heap.get?_push_of_some _ (hH2 ▸ Heap.get?_push_size _ rfl))
  have fresh : ∀ a, s₂.heap.objs.size ≤ a → s₂.heap.get? a = none := fun a ha => by
    cases e : s₂.heap.get? a with
    | none => rfl
    | some o' => exact absurd (Heap.lt_size e) (Nat.not_lt.mpr ha)
  have fresh₀ : ∀ a, s₂.heap.objs.size ≤ a → h₀.get? a = none := fun a ha => by
    cases e : h₀.get? a with
    | none => rfl
    | some o' => have := F.keep a o' e; rw [fresh a ha] at this; cases this
  have hD₀ : h₀.get? s₂.heap.objs.size = none := fresh₀ _ (Nat.le_refl _)
  have hC₀ : h₀.get? H2.objs.size = none := fresh₀ _ (by rw [hC]; exact Nat.le_succ _)
  have hLlt : L < s₂.heap.objs.size := F.ns.lt
  have hDL : s₂.heap.objs.size ≠ L := Ne.symm (below L hLlt).2
  have hCL : H2.objs.size ≠ L := Ne.symm (below L hLlt).1
  have hCI : I ≠ H2.objs.size := (below I hIlt).1
  have hDI : I ≠ s₂.heap.objs.size := (below I hIlt).2
  have hCJ : J ≠ H2.objs.size := (below J hJlt).1
  have hDJ : J ≠ s₂.heap.objs.size := (below J hJlt).2
  have hoffK : ∀ p ∈ K, p.1 ≠ H2.objs.size ∧ p.1 ≠ s₂.heap.objs.size := fun p hp => below _ (Heap.lt_size (N p hp).1)
  have hli : l ≠ I := (off _ hlm).1
  have hlJ : l ≠ J := (off _ hlm).2
  have W := KTurns.ofWalksU (elts := [.Name a pa, .Name b pb]) (k := kk) (pos := tp) (WalksT.enumerate (prog := prog) (w := w) hh I J l hIJ hli hlJ vs.toArray).toU
  have loop : ∀ s₃ : Shared, s₃ = { s₂ with heap := h₁, toks := s₂.toks + ([] : List (Str × Value)).length } →
      codeAny (model prog w) A (.compLoop (.ListComp elt [⟨.Tuple [.Name a pa, .Name b pb] kk tp, iter, [], 0⟩] scope pos) 0 (.ref I) (.ref s₂.heap.objs.size) (compEnvC scope cl H2.objs.size env))
        (compPost (model prog w) A E none Q (.ref s₂.heap.objs.size) H2.objs.size) s₃ := by
    rintro s₃ rfl
    refine kcp_loop
      (fun k s' => ∃ h' tk i ys m', s' = { s₂ with heap := h', toks := tk } ∧ i ≤ vs.length ∧ k = vs.length + 1 - i ∧ ys.length = i ∧ (∃ old, IsEnum h' I J i old) ∧ h'.IsListIter J l i ∧ Fr h₀ L h' m ∧ h'.Ns H2.objs.size m' ∧
        News h₀ L h' ((s₂.heap.objs.size, lst ys) :: K) ∧ Inv i ys) ?_ (vs.length + 1)
      ⟨h₁, _, 0, [], _, rfl, Nat.zero_le _, rfl, rfl, ⟨_, old _ _ hE⟩, hJ.at (fun o e => old _ _ e), F.keeps old, hns₁, fun p hp => ?_, hInv⟩
    · rintro k s' ⟨h', tk, i, ys, m', rfl, hi, rfl, hyl, ⟨od, hE'⟩, hJ', F', hn', N', hI'⟩
      have hL' : h'.IsList l vs.toArray := ⟨lo, (N' _ (List.mem_cons_of_mem _ hlm)).1, hlc, nl, hld⟩
      by_cases hlt : i < vs.length
      · refine W.item i _ _ _ (by simpa using hlt) ⟨⟨od, hE'⟩, hJ', hL'⟩ fun v h₂ tk₂ hMd hk₂ => ?_
        refine W.go i v _ _ _ hMd fun h₃ hP hst₃ hk₃ => ?_
        obtain ⟨T, vals, rfl, ⟨t, x, hx, rfl⟩, hT⟩ := hP
        have up₃ : ∀ c o, c ≠ I → c ≠ J → h'.get? c = some o → h₃.get? c = some o := fun c o hc hc' e => hk₃ c o (by simp; exact ⟨hc, hc'⟩) (hk₂ c o (by simp; exact ⟨hc, hc'⟩) e)
        refine kcp_assign (env := compEnvC scope cl H2.objs.size env) hh hT (lookup_relabel_local hxa) (lookup_relabel_local hxb) (by simp [compEnvC, relabel, hkind]) (hn'.at' fun o e => up₃ _ o (Ne.symm hCI) (Ne.symm hCJ) e) fun h₄ tk₄ hn₄ hs₄ => ?_
        have up : ∀ c o, c ≠ I → c ≠ J → c ≠ H2.objs.size → h'.get? c = some o → h₄.get? c = some o := fun c o h1 h2 h3 e => hs₄ c o h3 (up₃ c o h1 h2 e)
        obtain ⟨⟨od', hI₃⟩, hJ₃, _⟩ := hst₃
        have hI₄ : IsEnum h₄ I J ((i + 1 : Nat) : Int) od' := hs₄ I _ hCI hI₃
        obtain ⟨oI, heI, hoI⟩ : ∃ oI : Obj, h₄.get? I = some oI ∧ ∀ h : Heap, h.get? I = some oI → ∃ od, IsEnum h I J ((i + 1 : Nat) : Int) od := ⟨_, hI₄, fun _ e => ⟨_, e⟩⟩
        obtain ⟨oJ, heJ, hoJ⟩ : ∃ oJ : Obj, h₄.get? J = some oJ ∧ ∀ h : Heap, h.get? J = some oJ → h.IsListIter J l (i + 1) := by
          obtain ⟨oJ, e, r⟩ := hJ₃
          exact ⟨oJ, hs₄ J _ hCJ e, fun _ e => ⟨oJ, e, r⟩⟩
        obtain ⟨oC, heC, hoC⟩ := ns_obj hn₄
        have F₄ : Fr h₀ L h₄ m := ⟨F'.ns.at' fun o e => up _ o hLI hLJ (Ne.symm hCL) e, fun c o e => up c o (fun q => by rw [q, hI₀] at e; cases e) (fun q => by rw [q, hJ₀] at e; cases e) (fun q => by rw [q, hC₀] at e; cases e) (F'.keep c o e), F'.above⟩
        have N₄ : News h₀ L h₄ ((I, oI) :: (H2.objs.size, oC) :: (s₂.heap.objs.size, lst ys) :: (J, oJ) :: K) := fun q hq => by
          rcases List.mem_cons.mp hq with rfl | hq
          · exact ⟨heI, Ne.symm hLI, hI₀⟩
          · rcases List.mem_cons.mp hq with rfl | hq
            · exact ⟨heC, hCL, hC₀⟩
            · rcases List.mem_cons.mp hq with rfl | hq
              · exact ⟨up _ _ (Ne.symm hDI) (Ne.symm hDJ) hDC (N' _ (.head _)).1, hDL, hD₀⟩
              · rcases List.mem_cons.mp hq with rfl | hq
                · exact ⟨heJ, Ne.symm hLJ, hJ₀⟩
                · have z := N' q (List.mem_cons_of_mem _ hq)
                  exact ⟨up _ _ (off q hq).1 (off q hq).2 (hoffK q hq).1 z.1, z.2⟩
        have off3 : Off3 I H2.objs.size s₂.heap.objs.size ((J, oJ) :: K) := Off3.of fun q hq => by
          rcases List.mem_cons.mp hq with rfl | hq
          · exact ⟨Ne.symm hIJ, hCJ, hDJ⟩
          · exact ⟨(off q hq).1, hoffK q hq⟩
        refine wpAny_mono (turn i x t I oI J oJ H2.objs.size oC s₂.heap.objs.size _ h₄ _ ys _ (by simpa using hx) hI' hoC (by simp [hab]) (by simp) F₄ N₄ off3 ⟨hCI, hDI, Ne.symm hDC⟩) (fun y s₅ h₅ => ?_) fun _ _ e => e
        obtain ⟨h₅, tk₅, news₅, rfl, F₅, N₅, off₅, hS₅, R₅⟩ := h₅
        have zI := (N₅ (I, oI) List.mem_cons_self).1
        have zC := (N₅ (H2.objs.size, oC) (List.mem_cons_of_mem _ List.mem_cons_self)).1
        have zD := (N₅ (s₂.heap.objs.size, lst ys) (List.mem_cons_of_mem _ (List.mem_cons_of_mem _ List.mem_cons_self))).1
        have zJ := (N₅ (J, oJ) (List.mem_cons_of_mem _ (List.mem_cons_of_mem _ (List.mem_cons_of_mem _ (hS₅ _ (.head _)))))).1
        have zK : News h₀ L h₅ K := fun q hq => N₅ q (List.mem_cons_of_mem _ (List.mem_cons_of_mem _ (List.mem_cons_of_mem _ (hS₅ _ (List.mem_cons_of_mem _ hq)))))
        refine append_at (hsz := by show ys.toArray.size ≤ sizeLine; rw [List.size_toArray, hyl]; exact Nat.le_trans hi hsz) zD fun h₆ hs₆ hD₆ => ?_
        refine ⟨vs.length + 1 - (i + 1), by omega, h₆, tk₅, i + 1, ys ++ [y], _, rfl, hlt, rfl, by rw [List.length_append, List.length_singleton, hyl], hoI h₆ (hs₆.extBut I oI hDI zI), hoJ h₆ (hs₆.extBut J oJ hDJ zJ), F₅.change hs₆ hDL hD₀,
          (hoC.ns zC).sameBut hs₆ (Ne.symm hDC), fun q hq => ?_, R₅⟩
        rcases List.mem_cons.mp hq with rfl | hq
        · exact ⟨hD₆.trans (congrArg some (lst_snoc ys y)), hDL, hD₀⟩
        · exact ⟨hs₆.extBut _ _ (hoffK q hq).2 (zK q hq).1, (zK q hq).2⟩
      · have hin : i = vs.length := Nat.le_antisymm hi (Nat.not_lt.mp hlt)
        subst hin
        refine W.done _ _ _ (by simpa using (⟨⟨od, hE'⟩, hJ', hL'⟩ : (∃ old, IsEnum h' I J vs.length old) ∧ h'.IsListIter J l vs.length ∧ h'.IsList l vs.toArray)) fun h₂ tk₂ hk₂ => ?_
        have kp : ∀ c o, c ≠ I → c ≠ J → h'.get? c = some o → h₂.get? c = some o := fun c o h1 h2 e => hk₂ c o (by simp; exact ⟨h1, h2⟩) e
        have F₂ : Fr h₀ L h₂ m := ⟨F'.ns.at' fun o e => kp _ o hLI hLJ e, fun c o e => kp c o (fun q => by rw [q, hI₀] at e; cases e) (fun q => by rw [q, hJ₀] at e; cases e) (F'.keep c o e), F'.above⟩
        refine ⟨m', hn'.at' fun o e => kp _ o (Ne.symm hCI) (Ne.symm hCJ) e, fun h'' hs'' => fin _ h'' tk₂ ys hI' (F₂.change hs'' hCL hC₀) (fun p hp => ?_) ?_⟩
        · have z := N' p hp
          refine ⟨hs''.extBut _ _ ?_ (kp _ _ ?_ ?_ z.1), z.2⟩
          · rcases List.mem_cons.mp hp with rfl | hp
            · exact hDC
            · exact (hoffK p hp).1
          · rcases List.mem_cons.mp hp with rfl | hp
            · exact Ne.symm hDI
            · exact (off p hp).1
          · rcases List.mem_cons.mp hp with rfl | hp
            · exact Ne.symm hDJ
            · exact (off p hp).2
        · exact (Off3.of (I := I) (C := H2.objs.size) fun p hp => ⟨(off p hp).1, hoffK p hp⟩).one
    · rcases List.mem_cons.mp hp with rfl | hp
      · exact ⟨hacc, hDL, hD₀⟩
      · exact ⟨old _ _ (N p hp).1, (N p hp).2⟩
  exact codeAny_compStart_list (loop _ rfl) (wpAny_pyIter_enum (old _ _ hE) (loop _ rfl))
end
end Mine
end

section
open PySem PySem.W PySem.Spec PySem.Calls PyProof.Rows PyProof.Rows.LCg
set_option maxRecDepth 100000
namespace Mine

theorem kne {a I : Nat} (h : a < I) : a ≠ I ∧ a ≠ I + 1 ∧ a ≠ I + 1 + 1 ∧ a ≠ I + 1 + 1 + 1 := by omega
theorem adr (I : Nat) : I < I + 1 ∧ I < I + 1 + 1 ∧ I < I + 1 + 1 + 1 ∧ I + 1 < I + 1 + 1 ∧ I + 1 < I + 1 + 1 + 1 ∧ I + 1 + 1 < I + 1 + 1 + 1 := by omega
section
variable {prog : Program} {w : World} {A : Around} {E : Value → Shared → Prop} {s : Shared} {h₀ : Heap} {L : Addr} {m : Str → Option Value} {env : Env}

def compRaw (scope : Scope) (cl : List (Str × Addr)) (C : Addr) (env : Env) : Env := newEnv scope C env.globals cl env.qual none .none (some env) builtinsNs
theorem compRaw_env (scope : Scope) (cl : List (Str × Addr)) (C : Addr) (env : Env) : { compRaw scope cl C env with scope := relabel scope env } = compEnvC scope cl C env := rfl
theorem new_comp_cell {M : Model} {scope : Scope} {cl : List (Str × Addr)} {x : Str} {Q : Env → Shared → Prop}
    (hcf : ∀ n, cellsFrom n scope.names cl = (x, n) :: cl) (hpc : ∀ h, pushCells h scope.names = h.push { cls := .type "cell", data := .cell none })
    (hQ : Q (compRaw scope ((x, s.heap.objs.size + 1) :: cl) s.heap.objs.size env) { s with heap := (s.heap.push { cls := .type "dict", data := .dict #[] }).push { cls := .type "cell", data := .cell none } }) :
    wpAny M A (newFunctionEnv scope env.globals cl [] env.qual none .none (some env)) Q E s := by
  simp only [newFunctionEnv, Option.isSome_some, if_true]
  refine wpAny_bind (wpAny_alloc ?_)
  refine wpAny_bind (wpAny_layCells _ (fun name kind cells => by cases hkc : kind == NameKind.cell <;> simp [hkc]) _ _ _ _ ?_)
  rw [hcf, hpc]
  rw [show ({ s with heap := s.heap.push { cls := .type "dict", data := .dict #[] } } : Shared).heap.objs.size = s.heap.objs.size + 1 from Heap.size_push ..]
  exact wpAny_bind (wpAny_pure (wpAny_pure hQ))

/-- the turns of a dict comprehension over range whose one name is a cell: each turn keeps the ledger K -/
def DictTurn (prog : Program) (w : World) (A : Around) (h₀ : Heap) (L : Addr) (m : Str → Option Value) (env : Env) (kx vx : PySem.Expr) (x : Str) (scope : Scope) (cl : List (Str × Addr)) (s : Shared) (n : Nat) (K : List (Addr × Obj)) (Inv : Nat → List (Int × Value) → List (Addr × Obj) → Prop) : Prop :=
  ∀ i t I oI C oC cc oc D oD m₂ h tk acc kvs (E' : Value → Shared → Prop), i < n → Inv i kvs acc → NsObj oC m₂ → oc.data = .cell (some (.int (i : Nat) t)) → Fr h₀ L h m → News h₀ L h ((I, oI) :: (C, oC) :: (cc, oc) :: (D, oD) :: (K ++ acc)) →
    (∀ p ∈ K, @LT.lt Nat _ p.1 D) → (∀ p ∈ acc, (@Ne Nat p.1 I) ∧ (@Ne Nat p.1 D) ∧ (@Ne Nat p.1 C) ∧ (@Ne Nat p.1 cc)) → @LT.lt Nat _ D C → @LT.lt Nat _ C cc →
    wpAny (model prog w) A (eval kx (compEnvC scope ((x, cc) :: cl) C env)) (fun kv s₄ => wpAny (model prog w) A (eval vx (compEnvC scope ((x, cc) :: cl) C env)) (fun vv s₅ => ∃ k h' tk' acc', (intKind prog w).is k kv = true ∧ s₅ = { s with heap := h', toks := tk' } ∧ Fr h₀ L h' m ∧
      News h₀ L h' ((I, oI) :: (C, oC) :: (cc, oc) :: (D, oD) :: (K ++ acc')) ∧ (∀ p ∈ acc', (@Ne Nat p.1 I) ∧ (@Ne Nat p.1 D) ∧ (@Ne Nat p.1 C) ∧ (@Ne Nat p.1 cc)) ∧ Inv (i + 1) (stored kvs k vv) acc') E' s₄) E' { s with heap := h, toks := tk }

theorem Assign_DictComp_cell {kx vx iter : PySem.Expr} {x y : Str} {px py : Pos} {scope : Scope} {cl : List (Str × Addr)} {pos spos : Pos} {Q : Flow → Shared → Prop} (hh : A.handled = none) (hLe : env.locals = L)
    (hsw : swapsWith (.DictComp kx vx [⟨.Name x px, iter, [], 0⟩] scope pos) (some (.Name y py)) spos.line env = pure true)
    (hy : env.kindOf y = some .local) (hp : (env.scope.kind == .class || (env.scope.kind == .module && env.locals != env.globals)) = false)
    (hclos : closureFor scope env = pure cl) (hkind : scope.kind = .function) (hnames : ∀ y ∈ scope.names, y.2 = .local → scope.names.lookup y.1 = some .local)
    (hxc : (relabel scope env).names.lookup x = some .cell)
    (hcf : ∀ n, cellsFrom n scope.names cl = (x, n) :: cl) (hpc : ∀ h, pushCells h scope.names = h.push { cls := .type "cell", data := .cell none })
    (n : Nat) (hn : n ≤ sizeLine) (hsm : Builtin.Range.small 0 n 1 = true)
    (h : wpAny (model prog w) A (eval iter env) (fun xv s₁ => ∃ r t u v K Inv, xv = .ref r ∧ IsRange s₁.heap r 0 n 1 t u v ∧ Fr h₀ L s₁.heap m ∧ News h₀ L s₁.heap K ∧ Inv 0 [] [] ∧ (∀ i kvs acc, Inv i kvs acc → kvs.length ≤ i) ∧ DictTurn prog w A h₀ L m env kx vx x scope cl s₁ n K Inv ∧
      ∀ D kvs acc h tk, Inv n kvs acc → Fr h₀ L h (fun z => if z = y then some (.ref D) else m z) → News h₀ L h (K ++ acc) → h.DictOf (intKind prog w) D kvs → h₀.get? D = none → D ≠ L → (∀ p ∈ K ++ acc, p.1 ≠ D) → Q .next { s₁ with heap := h, toks := tk }) E s)
    (hs : ∀ x, foldedSetIterable iter env x = pure x := by intro _; rfl) :
    wpAny (model prog w) A (exec (.Assign [.Name y py] (.DictComp kx vx [⟨.Name x px, iter, [], 0⟩] scope pos) spos) env) Q E s := by
  subst hLe
  rw [exec_Assign_Name_used _ _ _ _ hsw]
  refine wpAny_bind (wpAny_standAt (wpAny_bind ?_))
  show wpAny _ A (do let _ ← comprehension (.DictComp kx vx [⟨.Name x px, iter, [], 0⟩] scope pos) scope env _ newDict false (eval iter env) (some (assign (.Name y py) env))) _ _ s
  refine wpAny_bind (wpAny_mono (wpAny_comprehension_free (use := some (assign (.Name y py) env)) (Q := fun _ s' => Q .next s') rfl hs hclos hkind hnames
    (wpAny_mono h (fun xv s₂ h₁ => ?_) fun _ _ e => e)) (fun _ s' hq => wpAny_pure (wpAny_pure hq)) fun _ _ e => e)
  obtain ⟨r, t, u, v, K, Inv, rfl, hr, F, N, hI0, hIl, turn, fin⟩ := h₁
  refine wpAny_pyIter_range hr hsm ?_
  have hrs : Builtin.Range.rangeSize 0 n 1 = n := by simp [Builtin.Range.rangeSize]; omega
  refine wpAny_newObj_type (new_comp_cell hcf hpc ?_)
  rw [compRaw_env]
  dsimp only [compRaw, newEnv]
  generalize hI : s₂.heap.objs.size = I
  have g1 : (s₂.heap.push { cls := .type "range_iterator", data := .fields #[rawInt 0, rawInt (Builtin.Range.rangeSize 0 n 1), rawInt 1] }).objs.size = I + 1 := by rw [Heap.size_push, hI]
  have e1 := Heap.get?_push_size s₂.heap (o := { cls := .type "range_iterator", data := .fields #[rawInt 0, rawInt (Builtin.Range.rangeSize 0 n 1), rawInt 1] }) rfl
  have k1 : ∀ b o, s₂.heap.get? b = some o → (s₂.heap.push { cls := .type "range_iterator", data := .fields #[rawInt 0, rawInt (Builtin.Range.rangeSize 0 n 1), rawInt 1] }).get? b = some o := fun b o e => Heap.get?_push_of_some _ e
  generalize s₂.heap.push { cls := .type "range_iterator", data := .fields #[rawInt 0, rawInt (Builtin.Range.rangeSize 0 n 1), rawInt 1] } = H1 at g1 e1 k1 ⊢
  have hnew : (H1.push { cls := .type "dict", data := .dict #[] }).DictOf (intKind prog w) H1.objs.size [] := Heap.DictOf.new H1
  have g2 : (H1.push { cls := .type "dict", data := .dict #[] }).objs.size = I + 1 + 1 := by rw [Heap.size_push, g1]
  have k2 : ∀ b o, H1.get? b = some o → (H1.push { cls := .type "dict", data := .dict #[] }).get? b = some o := fun b o e => Heap.get?_push_of_some _ e
  rw [g1] at hnew ⊢
  generalize H1.push { cls := .type "dict", data := .dict #[] } = H2 at hnew g2 k2 ⊢
  have g3 : (H2.push { cls := .type "dict", data := .dict #[] }).objs.size = I + 1 + 1 + 1 := by rw [Heap.size_push, g2]
  have hns3 : (H2.push { cls := .type "dict", data := .dict #[] }).Ns H2.objs.size (fun _ => none) := Heap.Ns.new H2 (.type "dict")
  have k3 : ∀ b o, H2.get? b = some o → (H2.push { cls := .type "dict", data := .dict #[] }).get? b = some o := fun b o e => Heap.get?_push_of_some _ e
  rw [g2] at hns3 ⊢
  generalize H2.push { cls := .type "dict", data := .dict #[] } = H3 at hns3 g3 k3 ⊢
  have e4 := Heap.get?_push_size H3 (o := { cls := .type "cell", data := .cell none }) rfl
  have k4 : ∀ b o, H3.get? b = some o → (H3.push { cls := .type "cell", data := .cell none }).get? b = some o := fun b o e => Heap.get?_push_of_some _ e
  rw [g3] at e4
  generalize H3.push { cls := .type "cell", data := .cell none } = H4 at e4 k4 ⊢
  have up : ∀ b o, s₂.heap.get? b = some o → H4.get? b = some o := fun b o e => k4 _ _ (k3 _ _ (k2 _ _ (k1 _ _ e)))
  have hLI : env.locals < I := hI ▸ F.ns.lt
  have hKI : ∀ p ∈ K, p.1 < I := fun p hp => hI ▸ Heap.lt_size (N p hp).1
  have fresh₀ : ∀ a, I ≤ a → h₀.get? a = none := fun a ha => by
    cases e : h₀.get? a with
    | none => rfl
    | some o' => exact absurd (Heap.lt_size (F.keep a o' e)) (Nat.not_lt.mpr (hI ▸ ha))
  have hI₀ := fresh₀ I (Nat.le_refl _)
  have hD₀ := fresh₀ (I + 1) (Nat.le_succ _)
  have hC₀ := fresh₀ (I + 1 + 1) (Nat.le_add_right I 2)
  have hcc₀ := fresh₀ (I + 1 + 1 + 1) (Nat.le_add_right I 3)
  have nLI : env.locals ≠ I := Nat.ne_of_lt hLI
  have nLD : env.locals ≠ I + 1 := Nat.ne_of_lt (Nat.lt_add_right 1 hLI)
  have nLC : env.locals ≠ I + 1 + 1 := Nat.ne_of_lt (Nat.lt_add_right 2 hLI)
  have nLc : env.locals ≠ I + 1 + 1 + 1 := Nat.ne_of_lt (Nat.lt_add_right 3 hLI)
  rw [hrs] at e1
  obtain ⟨a01, a02, a03, a12, a13, a23⟩ := adr I
  have loop : ∀ s₃ : Shared, s₃ = { s₂ with heap := H4 } →
      codeAny (model prog w) A (.compLoop (.DictComp kx vx [⟨.Name x px, iter, [], 0⟩] scope pos) 0 (.ref I) (.ref (I + 1)) (compEnvC scope ((x, I + 1 + 1 + 1) :: cl) (I + 1 + 1) env))
        (compPost (model prog w) A E (some (assign (.Name y py) env)) (fun _ s' => Q .next s') (.ref (I + 1)) (I + 1 + 1)) s₃ := by
    rintro s₃ rfl
    refine codeAny_compLoop_testsD
      (fun k s' => ∃ h' tk i kvs acc m', s' = { s₂ with heap := h', toks := tk } ∧ i ≤ n ∧ k = n + 1 - i ∧ IsRangeIter h' I (0 + (i : Nat) * 1) ((n : Int) - (i : Nat)) 1 ∧ h'.DictOf (intKind prog w) (I + 1) kvs ∧ Fr h₀ env.locals h' m ∧ h'.Ns (I + 1 + 1) m' ∧ (∃ v, h'.IsCell (I + 1 + 1 + 1) v) ∧
        News h₀ env.locals h' (K ++ acc) ∧ (∀ p ∈ acc, (@Ne Nat p.1 I) ∧ (@Ne Nat p.1 (I + 1)) ∧ (@Ne Nat p.1 (I + 1 + 1)) ∧ (@Ne Nat p.1 (I + 1 + 1 + 1))) ∧ Inv i kvs acc) ?_ (n + 1)
      ⟨H4, _, 0, [], [], _, rfl, Nat.zero_le _, rfl, ?_, hnew.at fun o e => k4 _ _ (k3 _ _ e), F.keeps up, hns3.keeps k4, ⟨_, _, e4, rfl⟩, ?_, (fun _ h => nomatch h), hI0⟩
    rotate_left
    · show IsRangeIter _ _ _ _ _
      have := k4 _ _ (k3 _ _ (k2 _ _ e1))
      rw [hI] at this
      simpa using this
    · rw [List.append_nil]; exact N.grown up
    rintro k s' ⟨h', tk, i, kvs, acc, m', rfl, hi, rfl, hR, hD, F', hns', ⟨v₀, hcv⟩, N', hacc, hInv⟩
    have hmem : ∀ p ∈ K ++ acc, (@Ne Nat p.1 I) ∧ (@Ne Nat p.1 (I + 1)) ∧ (@Ne Nat p.1 (I + 1 + 1)) ∧ (@Ne Nat p.1 (I + 1 + 1 + 1)) := fun p hp => (List.mem_append.mp hp).elim (fun h => kne (hKI p h)) (hacc p)
    by_cases hlt : i < n
    · refine wpAny_pyNext_range_item hR (by omega) fun h₁ hR₁ hs₁ => ?_
      have up1 : ∀ b o, b ≠ I → h'.get? b = some o → h₁.get? b = some o := fun b o hb e => hs₁.extBut b o hb e
      obtain ⟨oc0, eoc0, doc0⟩ := hcv
      refine wpAny_assign_Name (wpAny_storeName_cell (c := I + 1 + 1 + 1) (v₀ := v₀) (by show (relabel scope env).kind = _; exact hkind) (by show (relabel scope env).names.lookup x = _; exact hxc) (by simp [compEnvC]) ⟨oc0, up1 _ _ (Nat.ne_of_gt a03) eoc0, doc0⟩ (fun h₂ hc₂ hs₂ => ?_))
      have up2 : ∀ b o, b ≠ I → b ≠ I + 1 + 1 + 1 → h'.get? b = some o → h₂.get? b = some o := fun b o hb hb' e => hs₂.extBut b o hb' (up1 b o hb e)
      refine wpAny_tests_nil ?_
      simp only [if_true]
      obtain ⟨oc, eoc, doc⟩ := hc₂
      have nI1 : I ≠ I + 1 := Nat.ne_of_lt (Nat.lt_succ_self _)
      have nI2 : I ≠ I + 1 + 1 := Nat.ne_of_lt a02
      have nI3 : I ≠ I + 1 + 1 + 1 := Nat.ne_of_lt a03
      have n13 : I + 1 ≠ I + 1 + 1 + 1 := Nat.ne_of_lt a13
      have n12 : I + 1 ≠ I + 1 + 1 := Nat.ne_of_lt (Nat.lt_succ_self _)
      have n23 : I + 1 + 1 ≠ I + 1 + 1 + 1 := Nat.ne_of_lt (Nat.lt_succ_self _)
      have F₂ : Fr h₀ env.locals h₂ m := ⟨F'.ns.at' fun o e => up2 _ o nLI nLc e, fun b o e => up2 b o (fun q => by rw [q, hI₀] at e; cases e) (fun q => by rw [q, hcc₀] at e; cases e) (F'.keep b o e), F'.above⟩
      have hns₂ : h₂.Ns (I + 1 + 1) m' := hns'.at' fun o e => up2 _ o nI2.symm n23 e
      obtain ⟨oC, eC, hoC⟩ := ns_obj hns₂
      have hD₂ : h₂.DictOf (intKind prog w) (I + 1) kvs := hD.at fun o e => up2 _ o nI1.symm n13 e
      obtain ⟨oD, eD, rD⟩ := Heap.dictOf_iff.mp hD₂
      have eI : IsRangeIter h₂ I (0 + (i + 1 : Nat) * 1) ((n : Int) - (i + 1 : Nat)) 1 := by
        have a1 : (0 : Int) + ((i + 1 : Nat) : Int) * 1 = 0 + (i : Int) * 1 + 1 := by push_cast; omega
        have a2 : (n : Int) - ((i + 1 : Nat) : Int) = (n : Int) - (i : Int) - 1 := by push_cast; omega
        rw [a1, a2]
        exact (hs₂.2 I nI3).trans hR₁
      have N₂ : News h₀ env.locals h₂ (K ++ acc) := fun p hp => by
        refine ⟨up2 _ _ ?_ ?_ (N' p hp).1, (N' p hp).2⟩
        · exact (hmem p hp).1
        · exact (hmem p hp).2.2.2
      have N₃ : News h₀ env.locals h₂ ((I, _) :: (I + 1 + 1, oC) :: (I + 1 + 1 + 1, oc) :: (I + 1, oD) :: (K ++ acc)) :=
        news_cons (news_cons (news_cons (news_cons N₂ eD ⟨hD₀, nLD.symm⟩) eoc ⟨hcc₀, nLc.symm⟩) eC ⟨hC₀, nLC.symm⟩) eI ⟨hI₀, nLI.symm⟩
      refine wpAny_mono (turn i tk I _ (I + 1 + 1) oC (I + 1 + 1 + 1) oc (I + 1) oD m' h₂ _ acc kvs _ hlt hInv hoC ?_ F₂ N₃ (fun p hp => Nat.lt_trans (hKI p hp) (Nat.lt_succ_self _)) hacc (Nat.lt_succ_self _) (Nat.lt_succ_self _)) (fun kv s₄ h₄ => wpAny_mono h₄ (fun vv s₅ h₅ => ?_) fun _ _ e => e) fun _ _ e => e
      · rw [doc]; simp
      · obtain ⟨k, h₅, tk₅, acc₅, hkey, rfl, F₅, N₅, hacc₅, hInv₅⟩ := h₅
        have zI := (N₅ _ (.head _)).1
        have zC := (N₅ _ (.tail _ (.head _))).1
        have zc := (N₅ _ (.tail _ (.tail _ (.head _)))).1
        have zD := (N₅ _ (.tail _ (.tail _ (.tail _ (.head _))))).1
        have zK : News h₀ env.locals h₅ (K ++ acc₅) := fun q hq => N₅ q (.tail _ (.tail _ (.tail _ (.tail _ hq))))
        refine wpAny_dictSet_pairs (hsz := Nat.le_trans (hIl _ _ _ hInv) (Nat.le_trans hi hn)) hkey (Heap.dictOf_iff.mpr ⟨oD, zD, rD⟩) fun h₆ hD₆ hs₆ => ?_
        refine ⟨n + 1 - (i + 1), by omega, h₆, _, i + 1, stored kvs k vv, acc₅, _, rfl, hlt, rfl, hs₆.extBut _ _ nI1 zI, hD₆, F₅.change hs₆ nLD.symm hD₀, (hoC.ns zC).sameBut hs₆ n12.symm, ⟨_, oc, hs₆.extBut _ _ n13.symm zc, doc⟩, fun p hp => ⟨hs₆.extBut _ _ ?_ (zK p hp).1, (zK p hp).2⟩, hacc₅, hInv₅⟩
        rcases List.mem_append.mp hp with q | q
        · exact (kne (hKI p q)).2.1
        · exact (hacc₅ p q).2.1
    · have hin : i = n := Nat.le_antisymm hi (Nat.not_lt.mp hlt)
      subst hin
      refine wpAny_pyNext_range_end hh hR (by omega) fun h₁ hx₁ => ?_
      have kp : ∀ b o, b ≠ I → h'.get? b = some o → h₁.get? b = some o := fun b o hb e => hx₁ b o hb e
      have F₁ : Fr h₀ env.locals h₁ m := ⟨F'.ns.at' fun o e => kp _ o nLI e, fun b o e => kp b o (fun q => by rw [q, hI₀] at e; cases e) (F'.keep b o e), F'.above⟩
      show wpAny _ A (assign (.Name y py) env (.ref (I + 1))) _ _ _
      refine wpAny_assign_Name (wpAny_storeName_local hy F₁.ns (fun h₂ hn₂ hs₂ => ?_) hp)
      have hL₀ : h₀.get? env.locals = none := Heap.get?_none_of_le F₁.above
      have F₂ : Fr h₀ env.locals h₂ (fun z => if z = y then some (.ref (I + 1)) else m z) := ⟨hn₂, fun b o e => hs₂.extBut b o (fun q => by rw [q, hL₀] at e; cases e) (F₁.keep b o e), F₁.above⟩
      have kp2 : ∀ b o, b ≠ I → b ≠ env.locals → h'.get? b = some o → h₂.get? b = some o := fun b o hb hb' e => hs₂.extBut _ _ hb' (kp b o hb e)
      refine ⟨m', hns'.at' fun o e => kp2 _ o (Nat.ne_of_gt a02) nLC.symm e, fun h'' hs'' => fin _ kvs acc h'' _ hInv (F₂.change hs'' nLC.symm hC₀) (fun p hp => ?_) ((hD.at fun o e => kp2 _ o (Nat.ne_of_gt a01) nLD.symm e).at fun o e => hs''.extBut _ _ (Nat.ne_of_lt a12) e) hD₀ nLD.symm fun p hp => ?_⟩
      · have z := N' p hp
        refine ⟨hs''.extBut _ _ ?_ (kp2 _ _ ?_ z.2.1 z.1), z.2⟩
        · exact (hmem p hp).2.2.1
        · exact (hmem p hp).1
      · exact (hmem p hp).2.1
  have e5 := k4 _ _ (k3 _ _ (k2 _ _ e1))
  rw [hI] at e5
  exact codeAny_compStart_dict (loop _ rfl) (wpAny_pyIter_rangeiter e5 (loop _ rfl))
end
end Mine
end

section
open PySem PySem.W PySem.Spec PySem.Calls PyProof.Rows
set_option maxRecDepth 100000
namespace Mine

def rulePart (ds : List Int) (j : Nat) : Int × Int := (lawPart (ds.getD (2 * j) 0) j, lawPart (ds.getD (2 * j + 1) 0) j)
def rulesOf (ds : List Int) (n : Int) : Option (Int × Int) := if 256 ≤ n ∧ n < 260 then some (rulePart ds (n - 256).toNat) else none
def RuleInv (ds : List Int) (i : Nat) (kvs : List (Int × Value)) (acc : List (Addr × Obj)) : Prop :=
  kvs.length ≤ i ∧ (∀ x : Int, 256 + (i : Int) ≤ x → valueAt kvs x = none) ∧ ∀ j, j < i → ∃ l tx ty nl, valueAt kvs (256 + (j : Int)) = some (.ref l) ∧ (l, ({ cls := .type "list", data := .seq #[.int (rulePart ds j).1 tx, .int (rulePart ds j).2 ty] nl } : Obj)) ∈ acc
theorem RuleInv.zero (ds : List Int) : RuleInv ds 0 [] [] := ⟨Nat.le_refl _, fun _ _ => rfl, fun j h => absurd h (Nat.not_lt_zero _)⟩
theorem RuleInv.step {ds : List Int} {i : Nat} {kvs : List (Int × Value)} {acc : List (Addr × Obj)} (h : RuleInv ds i kvs acc) {l : Addr} {tx ty : Tok} {nl : Nat} {x y : Int} (ex : x = (rulePart ds i).1) (ey : y = (rulePart ds i).2) :
    RuleInv ds (i + 1) (stored kvs (256 + (i : Int)) (.ref l)) ((l, { cls := .type "list", data := .seq #[.int x tx, .int y ty] nl }) :: acc) := by
  subst ex ey
  have e := h.2.1 (256 + (i : Int)) (Int.le_refl _)
  refine ⟨Nat.le_trans (stored_length_le _ _ _) (Nat.succ_le_succ h.1), fun x hx => ?_, fun j hj => ?_⟩
  · rw [valueAt_new e, if_neg (by omega)]
    exact h.2.1 x (by omega)
  · rcases Nat.lt_or_ge j i with q | q
    · obtain ⟨l', tx', ty', nl', e1, m1⟩ := h.2.2 j q
      exact ⟨l', tx', ty', nl', by rw [valueAt_new e, if_neg (by omega)]; exact e1, List.mem_cons_of_mem _ m1⟩
    · obtain rfl : j = i := by omega
      exact ⟨l, tx, ty, nl, by rw [valueAt_new e, if_pos rfl], .head _⟩
theorem RuleInv.gram {prog : Program} {w : World} {hp : Heap} {D : Addr} {ds : List Int} {kvs : List (Int × Value)} {acc : List (Addr × Obj)} (h : RuleInv ds 4 kvs acc) (hm : ∀ p ∈ acc, hp.get? p.1 = some p.2) (hd : hp.DictOf (intKind prog w) D kvs) : Gram prog w hp D (rulesOf ds) := by
  refine ⟨_, hd.mapOf, fun n x y e => ?_⟩
  unfold rulesOf at e
  split at e
  · rename_i hn
    obtain ⟨l, tx, ty, nl, e1, m1⟩ := h.2.2 (n - 256).toNat (by omega)
    have en : (256 : Int) + ((n - 256).toNat : Int) = n := by omega
    rw [en] at e1
    cases e
    exact ⟨_, e1, l, tx, ty, rfl, _, hm _ m1, rfl, nl, rfl⟩
  · cases e
end Mine
end

section
open PySem PySem.W PySem.Spec PySem.Calls PyProof.Rows
set_option maxRecDepth 100000
namespace Mine

theorem divL_append (B d : Int) : ∀ (xs ys : List Int) (r : Int), divL B d (xs ++ ys) r = ((divL B d xs r).1 ++ (divL B d ys (divL B d xs r).2).1, (divL B d ys (divL B d xs r).2).2)
  | [], ys, r => by simp [divL]
  | x :: xs, ys, r => by simp [divL, divL_append B d xs]
theorem dvT_divL (dv : Int) : ∀ (t : Tr) (r : Int), (dvT dv t r).1.leaves = (divL 256 dv t.leaves r).1 ∧ (dvT dv t r).2 = (divL 256 dv t.leaves r).2
  | .leaf o, r => by
    have e : 256 * r + o = r * 256 + o := by omega
    simp [dvT, Tr.leaves, divL, e]
  | .node t u, r => by
    obtain ⟨a, b⟩ := dvT_divL dv t r
    obtain ⟨c, d⟩ := dvT_divL dv u (dvT dv t r).2
    constructor
    · simp only [dvT, Tr.leaves, divL_append]
      rw [a, c, b]
    · simp only [dvT, Tr.leaves, divL_append]
      rw [d, b]
theorem oct_figs : ∀ {t : Tr}, t.Oct → Figs 256 t.leaves
  | .leaf o, h => fun d hd => by
    simp only [Tr.leaves, List.mem_singleton] at hd
    subst hd; exact h
  | .node t u, h => fun d hd => by
    rcases List.mem_append.mp hd with hd | hd
    · exact oct_figs h.1 d hd
    · exact oct_figs h.2 d hd

/-- what a tree of octets tells, as a whole number: e = 1 where 255s stand ahead -/
def told (e : Int) (t : Tr) : Int := valB 256 t.leaves.reverse - e * 256 ^ t.leaves.length
theorem told_div {dv e : Int} (hdv : 0 < dv) (he : e = 0 ∨ e = 1) {t : Tr} (ho : t.Oct) :
    told e t / dv = told e (dvT dv t (e * (dv - 1))).1 ∧ told e t % dv = (dvT dv t (e * (dv - 1))).2 := by
  have r0 : 0 ≤ e * (dv - 1) := by rcases he with rfl | rfl <;> omega
  have r1 : e * (dv - 1) < dv := by rcases he with rfl | rfl <;> omega
  obtain ⟨a, b, f, k⟩ := divL_ok (by decide : (0 : Int) < 256) hdv t.leaves (e * (dv - 1)) (oct_figs ho) r0 r1
  obtain ⟨e1, e2⟩ := dvT_divL dv t (e * (dv - 1))
  have el := dvT_len dv t (e * (dv - 1))
  unfold told
  rw [el, e1, e2]
  generalize valB 256 (divL 256 dv t.leaves (e * (dv - 1))).1.reverse = q at k ⊢
  generalize (divL 256 dv t.leaves (e * (dv - 1))).2 = r at a b k ⊢
  generalize valB 256 t.leaves.reverse = v at k ⊢
  generalize (256 : Int) ^ t.leaves.length = P at k ⊢
  have := (Int.ediv_emod_unique (a := v - e * P) (r := r) (q := q - e * P) hdv).mpr ⟨by
    rcases he with rfl | rfl
    · simp only [Int.zero_mul, Int.sub_zero] at k ⊢
      omega
    · simp only [Int.one_mul] at k ⊢
      rw [Int.sub_mul, Int.one_mul] at k
      rw [Int.mul_sub]
      omega, a, b⟩
  exact this

theorem dgs_of_figs {B : Int} (hB : 0 < B) : ∀ (c : List Int), Figs B c → c = dgs B c.length (valB B c)
  | [], _ => rfl
  | d :: c, h => by
    obtain ⟨h0, h1⟩ := h d (.head _)
    have ih := dgs_of_figs hB c fun x hx => h x (.tail _ hx)
    show d :: c = (valB B (d :: c)) % B :: dgs B c.length (valB B (d :: c) / B)
    have e1 : valB B (d :: c) = d + B * valB B c := rfl
    rw [e1, Int.add_mul_emod_self_left, Int.emod_eq_of_lt h0 h1, Int.add_mul_ediv_left _ _ (Int.ne_of_gt hB), Int.ediv_eq_zero_of_lt h0 h1, Int.zero_add, ← ih]
theorem val_drop0 (B : Int) : ∀ q : List Int, valB B (q.dropWhile (· == 0)).reverse = valB B q.reverse
  | [] => rfl
  | x :: q => by
    rw [List.dropWhile_cons]
    by_cases h : x = 0
    · subst h
      rw [if_pos (by decide), val_drop0 B q, List.reverse_cons, valB_append]
      simp [valB]
    · rw [if_neg (by simpa using h)]
theorem drop0_head : ∀ (q : List Int) {x : Int} {r : List Int}, q.dropWhile (· == 0) = x :: r → x ≠ 0
  | [], _, _, h => by simp at h
  | y :: q, x, r, h => by
    rw [List.dropWhile_cons] at h
    by_cases hy : y = 0
    · subst hy; rw [if_pos (by decide)] at h; exact drop0_head q h
    · rw [if_neg (by simpa using hy)] at h; cases h; exact hy
theorem mem_drop0 : ∀ {q : List Int} {x : Int}, x ∈ q.dropWhile (· == 0) → x ∈ q := fun h => (List.dropWhile_suffix _).subset h

theorem pow256 (k : Nat) : (256 : Int) ^ k = ((2 ^ (8 * k) : Nat) : Int) := by
  rw [Nat.pow_mul]; push_cast; rfl
theorem bare_dgs {q : List Int} (hq : Figs 256 q) {m : Nat} (hm : ((Builtin.Int.intBits (valB 256 q.reverse) : Int) + 8 - 1) / 8 = m) :
    (q.dropWhile (· == 0)).reverse = dgs 256 m (valB 256 q.reverse) := by
  have hf : Figs 256 (q.dropWhile (· == 0)).reverse := fun d hd => hq d (mem_drop0 (List.mem_reverse.mp hd))
  have ev := val_drop0 256 q
  have key := dgs_of_figs (by decide : (0 : Int) < 256) _ hf
  rw [ev] at key
  obtain ⟨v0, v1⟩ := valB_bounds (by decide : (0 : Int) < 256) hf
  rw [ev] at v0 v1
  suffices e : (q.dropWhile (· == 0)).reverse.length = m by rw [← e]; exact key
  rw [pow256] at v1
  have hb1 := bits_of_lt v0 (by exact_mod_cast v1)
  have hb2 : ∀ k, (q.dropWhile (· == 0)).reverse.length = k + 1 → 8 * k < Builtin.Int.intBits (valB 256 q.reverse) := by
    intro k hk
    cases hd : q.dropWhile (· == 0) with
    | nil => rw [hd] at hk; cases hk
    | cons x r =>
      have hx := drop0_head q hd
      rw [hd] at hk hf ev
      have hx1 := hf x (by simp)
      have hrl : r.length = k := by simpa using hk
      rw [List.reverse_cons, valB_append, List.length_reverse, hrl] at ev
      have hr := valB_bounds (by decide : (0 : Int) < 256) (xs := r.reverse) fun d h' => hf d (by simp at h' ⊢; exact .inl h')
      have h1 : (256 : Int) ^ k ≤ valB 256 q.reverse := by
        rw [← ev]
        have : (256 : Int) ^ k * 1 ≤ 256 ^ k * valB 256 [x] := Int.mul_le_mul_of_nonneg_left (by simp [valB]; omega) (Int.le_of_lt (Int.pow_pos (by decide)))
        omega
      rw [pow256] at h1
      have a := natAbs_lt_pow_bits (valB 256 q.reverse)
      have h2 : 2 ^ (8 * k) < 2 ^ Builtin.Int.intBits (valB 256 q.reverse) := by omega
      exact (Nat.pow_lt_pow_iff_right (by decide)).mp h2
  generalize Builtin.Int.intBits (valB 256 q.reverse) = nb at hm hb1 hb2
  generalize (q.dropWhile (· == 0)).reverse.length = l at hb1 hb2 ⊢
  cases l with
  | zero => omega
  | succ k => have := hb2 k rfl; omega
end Mine
end

section
open PySem PySem.W PySem.Spec PySem.Calls PyProof.Rows
set_option maxRecDepth 100000
namespace Mine

theorem part_range {x : Int} {j : Int} (hx : 0 ≤ x) (h0 : 0 ≤ j) (h1 : j < 4) : 0 ≤ lawPart x j ∧ lawPart x j < 260 ∧ (lawPart x j < 256 ∨ 256 + j < lawPart x j) := by
  unfold lawPart
  split
  · rename_i h
    have a := Int.emod_nonneg (x / 3) (show 3 - j ≠ 0 by omega)
    have b := Int.emod_lt_of_pos (x / 3) (show 0 < 3 - j by omega)
    generalize x / 3 % (3 - j) = z at a b ⊢
    omega
  · have a := Int.emod_nonneg (x / 3) (show (256 : Int) ≠ 0 by decide)
    have b := Int.emod_lt_of_pos (x / 3) (show (0 : Int) < 256 by decide)
    omega
theorem sym_tree {ds : List Int} (hd : ∀ x ∈ ds, 0 ≤ x) : ∀ (k : Nat) (n : Int), 0 ≤ n → n < 260 → (260 - n ≤ k ∨ n < 256) → ∃ t : Tr, Unf (rulesOf ds) n t ∧ t.Oct ∧ t.depth ≤ k ∧ t.leaves.length ≤ 2 ^ k ∧ t.nodes + 1 ≤ 2 ^ k := by
  have nn : ∀ i, 0 ≤ ds.getD i 0 := fun i => by
    rw [List.getD_eq_getElem?_getD]
    cases e : ds[i]? with
    | none => exact Int.le_refl _
    | some x => exact hd x (List.mem_of_getElem? e)
  have lf : ∀ (k : Nat) (n : Int), 0 ≤ n → n < 256 → ∃ t : Tr, Unf (rulesOf ds) n t ∧ t.Oct ∧ t.depth ≤ k ∧ t.leaves.length ≤ 2 ^ k ∧ t.nodes + 1 ≤ 2 ^ k := fun k n h0 h1 =>
    ⟨.leaf n, .leaf h1, ⟨h0, h1⟩, Nat.zero_le _, Nat.pos_of_ne_zero (by simp), Nat.pos_of_ne_zero (by simp)⟩
  intro k
  induction k with
  | zero =>
    intro n h0 h1 h
    exact lf 0 n h0 (by omega)
  | succ k ih =>
    intro n h0 h1 h
    by_cases hn : n < 256
    · exact lf _ n h0 hn
    · have e : rulesOf ds n = some (rulePart ds (n - 256).toNat) := by
        unfold rulesOf
        rw [if_pos (by omega)]
      have p1 := part_range (nn (2 * (n - 256).toNat)) (j := ((n - 256).toNat : Int)) (by omega) (by omega)
      have p2 := part_range (nn (2 * (n - 256).toNat + 1)) (j := ((n - 256).toNat : Int)) (by omega) (by omega)
      obtain ⟨t, u1, o1, d1, l1, n1⟩ := ih (rulePart ds (n - 256).toNat).1 p1.1 p1.2.1 (by have := p1.2.2; unfold rulePart; dsimp only; omega)
      obtain ⟨u, u2, o2, d2, l2, n2⟩ := ih (rulePart ds (n - 256).toNat).2 p2.1 p2.2.1 (by have := p2.2.2; unfold rulePart; dsimp only; omega)
      refine ⟨.node t u, .node (by omega) e u1 u2, ⟨o1, o2⟩, ?_, ?_, ?_⟩
      · simp only [Tr.depth]; omega
      · simp only [Tr.leaves, List.length_append, Nat.pow_succ]; omega
      · simp only [Tr.nodes, Nat.pow_succ]; omega
theorem law_tree {ds : List Int} (hd : ∀ x ∈ ds, 0 ≤ x) : ∃ t : Tr, Unf (rulesOf ds) 256 t ∧ t.Oct ∧ t.depth ≤ 4 ∧ t.leaves.length ≤ 16 ∧ t.nodes ≤ 15 := by
  obtain ⟨t, a, b, c, d, e⟩ := sym_tree hd 4 256 (by decide) (by decide) (.inl (by decide))
  exact ⟨t, a, b, c, d, by omega⟩
theorem leaves_pos : ∀ t : Tr, 0 < t.leaves.length
  | .leaf _ => by simp [Tr.leaves]
  | .node t u => by have := leaves_pos t; simp [Tr.leaves]; omega

/-- the number is small -/
theorem told_bits {e : Int} (he : e = 0 ∨ e = 1) {t : Tr} (ho : t.Oct) (hl : t.leaves.length ≤ 16) : Builtin.Int.intBits (told e t) ≤ 129 := by
  obtain ⟨v0, v1⟩ := valB_bounds (by decide : (0 : Int) < 256) (xs := t.leaves.reverse) fun d h => oct_figs ho d (List.mem_reverse.mp h)
  rw [List.length_reverse] at v1
  have hp : (256 : Int) ^ t.leaves.length < ((2 ^ 129 : Nat) : Int) := by
    rw [pow256]
    exact_mod_cast Nat.pow_lt_pow_right (by decide) (by omega)
  refine intBits_le ?_
  unfold told
  generalize valB 256 t.leaves.reverse = v at v0 v1 ⊢
  generalize (256 : Int) ^ t.leaves.length = P at v1 hp ⊢
  generalize (2 : Nat) ^ 129 = Z at hp ⊢
  rcases he with rfl | rfl
  · rw [Int.zero_mul]; omega
  · rw [Int.one_mul]; omega
end Mine
end

section
open PySem PySem.W PySem.Spec PySem.Calls PyProof.Rows
set_option maxRecDepth 100000
namespace Mine

/-- a grammar, told by its dict's object and by where its pairs stand -/
def GrK (prog : Program) (w : World) (K : Addr → Obj → Prop) (oR : Obj) (R : Int → Option (Int × Int)) : Prop :=
  ∃ kvs, oR.IsDictOf (intKind prog w) kvs ∧ ∀ n x y, R n = some (x, y) → ∃ v, valueAt kvs n = some v ∧ PairK K v x y
variable {prog : Program} {w : World}
theorem GrK.mono {K K' : Addr → Obj → Prop} {oR : Obj} {R : Int → Option (Int × Int)} (x : GrK prog w K oR R) (k : ∀ a o, K a o → o.cls = .type "list" → K' a o) : GrK prog w K' oR R := by
  obtain ⟨kvs, d, q⟩ := x
  refine ⟨kvs, d, fun n x y e => ?_⟩
  obtain ⟨v, e1, l, o, tx, ty, nl, e2, hK, hc, hd⟩ := q n x y e
  exact ⟨v, e1, l, o, tx, ty, nl, e2, k _ _ hK hc, hc, hd⟩
theorem GrK.gram {K : Addr → Obj → Prop} {oR : Obj} {R : Int → Option (Int × Int)} {h : Heap} {D : Addr} (x : GrK prog w K oR R) (e : h.get? D = some oR) (k : ∀ a o, K a o → h.get? a = some o) : Gram prog w h D R := by
  obtain ⟨kvs, d, q⟩ := x
  refine ⟨_, (Heap.dictOf_iff.mpr ⟨oR, e, d⟩).mapOf, fun n x y e => ?_⟩
  obtain ⟨v, e1, p⟩ := q n x y e
  exact ⟨v, e1, pairAt_of k p⟩
theorem GrK.hide {K : Addr → Obj → Prop} {oR : Obj} {R : Int → Option (Int × Int)} {h : Heap} {D : Addr} {S : List Addr} (x : GrK prog w K oR R) (e : h.get? D = some oR) (hD : D ∉ S) (k : ∀ a o, K a o → h.get? a = some o)
    (hS : ∀ a ∈ S, ∃ o, h.get? a = some o ∧ o.cls ≠ .type "list") : Gram prog w (hideAll h S) D R := by
  refine (x.mono (K' := fun a o => (hideAll h S).get? a = some o) fun a o hK hc => hideAll_get _ (k _ _ hK) fun ha => ?_).gram (hideAll_get _ e hD) fun _ _ q => q
  obtain ⟨o', e', n⟩ := hS a ha
  rw [k _ _ hK] at e'
  cases e'
  exact n hc
theorem memo_gr {K : Addr → Obj → Prop} {om ol : Obj} {c : Nat} {M : Int → Option (Int × Int)} {Lf : Int → Option Int} (x : MemoO prog w K om ol c M Lf) : GrK prog w K om M :=
  let ⟨kM, _, d, _, r⟩ := x; ⟨kM, d, r.pair⟩
theorem RuleInv.grk {D : Addr} {h : Heap} {ds : List Int} {kvs : List (Int × Value)} {acc : List (Addr × Obj)} (x : RuleInv ds 4 kvs acc) (hd : h.DictOf (intKind prog w) D kvs) : ∃ oR, h.get? D = some oR ∧ GrK prog w (fun a o => (a, o) ∈ acc) oR (rulesOf ds) := by
  obtain ⟨oR, e, d⟩ := Heap.dictOf_iff.mp hd
  refine ⟨oR, e, kvs, d, fun n x' y' e => ?_⟩
  unfold rulesOf at e
  split at e
  · rename_i hn
    obtain ⟨l, tx, ty, nl, e1, m1⟩ := x.2.2 (n - 256).toNat (by omega)
    have en : (256 : Int) + ((n - 256).toNat : Int) = n := by omega
    rw [en] at e1
    cases e
    exact ⟨_, e1, l, _, tx, ty, nl, rfl, m1, rfl, rfl⟩
  · cases e
theorem dict_cls {o : Obj} {kvs : List (Int × Value)} (h : o.IsDictOf (intKind prog w) kvs) : o.cls ≠ .type "list" := by
  obtain ⟨es, ep, ⟨c, _⟩, _⟩ := h
  rw [c]
  decide
theorem memo_new {h : Heap} {dm dl : Addr} (e1 : h.DictOf (intKind prog w) dm []) (e2 : h.DictOf (intKind prog w) dl []) : MemoAt prog w h dm dl 0 (fun _ => none) (fun _ => none) :=
  ⟨[], [], e1, e2, ⟨Nat.le_refl _, Nat.le_refl _, fun _ => rfl, fun _ => rfl, fun _ _ _ e => (nomatch e), fun _ _ e => (nomatch e)⟩⟩
theorem news_lst_ne {g h : Heap} {L a c : Addr} {news : List (Addr × Obj)} {o o' : Obj} (N : News g L h news) (m : (a, o) ∈ news) (m' : (c, o') ∈ news) (hc : o.cls = .type "list") (hc' : o'.cls ≠ .type "list") : a ≠ c := fun q => by
  have e := (N _ m).1
  have e' := (N _ m').1
  dsimp only at e e'
  rw [q, e'] at e
  cases e
  exact hc' hc
theorem RecK.mono {K K' : Addr → Obj → Prop} {q : Str} {c' : Addr} (x : RecK K q c') (k : ∀ a o, K a o → a ≠ 58 → a ≠ 51 → (∃ vs, o.data = .fields vs) → K' a o) : RecK K' q c' := by
  obtain ⟨oc, vs, t, hK, hd, hv, n1, n2⟩ := x
  exact ⟨oc, vs, t, k _ _ hK n1 n2 ⟨vs, hd⟩, hd, hv, n1, n2⟩
theorem fields_not_mem {g h : Heap} {L a b c : Addr} {o ob oc : Obj} {r : List (Addr × Obj)} {kb kc : List (Int × Value)} (N : News g L h ((b, ob) :: (c, oc) :: r)) (m : (a, o) ∈ (b, ob) :: (c, oc) :: r) (hf : ∃ vs, o.data = .fields vs) (h1 : ob.IsDictOf (intKind prog w) kb) (h2 : oc.IsDictOf (intKind prog w) kc) : a ∉ [b, c] := fun ha => by
  obtain ⟨vs, hf⟩ := hf
  obtain ⟨_, _, _, hb, _⟩ := h1
  obtain ⟨_, _, _, hc, _⟩ := h2
  have e := (N _ m).1
  dsimp only at e
  simp only [List.mem_cons, List.not_mem_nil, or_false] at ha
  rcases ha with rfl | rfl
  · have e' := (N _ (.head _)).1
    dsimp only at e'
    rw [e'] at e; cases e; rw [hb] at hf; cases hf
  · have e' := (N _ (.tail _ (.head _))).1
    dsimp only at e'
    rw [e'] at e; cases e; rw [hc] at hf; cases hf
theorem tab_cls (p : Array Value) : (tabObj p).cls ≠ .type "list" := by unfold tabObj; dsimp only; decide
theorem not_mem2' {a b c : Nat} (h : a < b) (h' : a < c) : a ∉ [b, c] := by simp; omega
end Mine
end

section
open PySem PySem.W PySem.Spec PySem.Calls PyProof.Rows
set_option maxRecDepth 100000
namespace Mine
variable {prog : Program} {w : World} {A : Around} {E : Value → Shared → Prop} {s : Shared} {Q : Value → Shared → Prop}
theorem rows_eq {r1 r2 a1 a2 c1 c2 : Addr} {xs1 xs2 ys1 ys2 : List Value} {ns ms : List Int} (h1 : s.heap.IsList r1 #[.ref a1, .ref a2]) (h2 : s.heap.IsList r2 #[.ref c1, .ref c2])
    (ha1 : s.heap.IsList a1 xs1.toArray) (ha2 : s.heap.IsList a2 xs2.toArray) (hc1 : s.heap.IsList c1 ys1.toArray) (hc2 : s.heap.IsList c2 ys2.toArray)
    (i1 : IntsAre xs1 ns) (i2 : IntsAre xs2 ms) (j1 : IntsAre ys1 ns) (j2 : IntsAre ys2 ms) (hu : A.units + 64 < cLine) (h : Q (.bool true) s) : wpAny (model prog w) A (compareOp .Eq (.ref r1) (.ref r2)) Q E s := by
  obtain ⟨o1, e1, k1, n1, d1⟩ := h1
  obtain ⟨o2, e2, k2, n2, d2⟩ := h2
  have rd : ∀ {r a c : Addr} {xs ys : List Value} {o : Obj} {n : Nat}, s.heap.get? r = some o → o.cls = .type "list" → o.data = .seq #[.ref a, .ref c] n → s.heap.IsList a xs.toArray → s.heap.IsList c ys.toArray → IntsAre xs ns → IntsAre ys ms → ∃ as, Reads s.heap (.ref r) (.list [.list (ns.map PyData.int), .list (ms.map PyData.int)]) as := fun e k d ha hc i j =>
    ⟨_, reads_list_at e k d (.cons (reads_newData ha (ke_carried i)) (.cons (reads_newData hc (ke_carried j)) .nil))⟩
  obtain ⟨_, q1⟩ := rd e1 k1 d1 ha1 ha2 i1 i2
  obtain ⟨_, q2⟩ := rd e2 k2 d2 hc1 hc2 j1 j2
  have sh : SeqAt.shaped (.list [.list (ns.map PyData.int), .list (ms.map PyData.int)]) = true := by
    simp [SeqAt.shaped, PyData.canLay0, PyData.canLayAll0, PyData.depth, PyData.depthAll, ke_canLayAll0, ke_depthAll]
  refine eq_dataH q1 q2 sh sh hu ?_
  simp only [PyData.eqv, PyData.eqvAll, ked_eqvAll, decide_true, Bool.and_true, Bool.true_and]
  exact h
end Mine
end

section
open PySem PySem.W PySem.Spec PySem.Calls PyProof.Rows
set_option maxRecDepth 100000
set_option maxHeartbeats 1000000
namespace Mine
section
variable {prog : Program} {w : World} {loose : List Str} {mean : ExcName → Option Value} {mg mb : Str → Option Value} {g : Heap}
set_option pp.maxSteps 6000
set_option pp.deepTerms false
theorem law_rest (HB : Base w loose mean mg mb g) {dp un : Nat} {fr : Option (List Env)} {gd : Option (List Code)} {s : Shared} {Q : Flow → Shared → Prop} {E : Value → Shared → Prop} (hd : dp + 300 < recursionLimit) (hun : un + 100 < cLine)
    {name : Str} {prs : Arguments} {body : List Stmt} {scope : Scope} (hT : textOf (Mine.hd.heap_39 w.params) 110 = some (name, prs, body, scope)) {L fa al D D' : Addr} {cd : Value} {od oR : Obj} {acc : List (Addr × Obj)}
    {d0 d1 d2 d3 d4 d5 d6 d7 d8 d9 : Int} {t0 t1 t2 t3 t4 t5 t6 t7 t8 t9 : Tok}
    (F : Fr g L s.heap (fun z => if z = Str.ofString "rules" then some (.ref D') else if z = Str.ofString "script" then some (.ref al) else none)) (dd : od.data = .cell (some (.ref D)))
    (N : News g L s.heap ([(D, LCg.lst [.int d0 t0, .int d1 t1, .int d2 t2, .int d3 t3, .int d4 t4, .int d5 t5, .int d6 t6, .int d7 t7, .int d8 t8, .int d9 t9]), (L + 1 + 1, od), (58, tabObj #[]), (51, tabObj #[])] ++ (D', oR) :: acc))
    (R : Int → Option (Int × Int)) (gr : GrK prog w (fun a o => (a, o) ∈ acc) oR R) (hD58 : D' ≠ 58) (hD51 : D' ≠ 51) (t : Tr) (U : Unf R 256 t) (hO : t.Oct) (hdep : t.depth ≤ 4) (hlen : t.leaves.length ≤ 16) (hnod : t.nodes ≤ 15)
    (l0 : 58 < L ∧ 51 < L)
    (kk : ∀ h' tk' m', Fr g L h' m' → TabSt h' 51 41 4 qI → TabSt h' 58 56 4 qD → Q (.ret (.bool true)) { s with heap := h', toks := tk' }) :
    wpAny (model prog w) ((AA dp un fr gd).deeper (envOfC name scope L fa cd)) (execs (body.drop 3) (envOfC name scope L fa cd)) Q E s := by
  have hT' := law_text (P := w.params) rfl hT
  cases hT'
  clear hT
  have X := HB.X
  have T := HB.T
  have hb : g.StaysIn g := fun _ _ e => e
  rw [List.cons_append, List.cons_append, List.cons_append, List.cons_append, List.nil_append] at N
  (with_reducible show wpAny _ _ _ _ _ _)
  dsimp only [List.drop]
  repeat' ((fail_if_success (with_reducible show Exists _)); (fail_if_success (with_reducible show wpAny _ _ (call (Value.ref _) _) _ _ _)); first | (k_unfold; (try dsimp only)) | (walk1; (try ((fail_if_success (with_reducible show wpAny _ _ (subscriptTail _ _ (Value.ref _) (Value.ref _)) _ _ _)); dsimp only))) | (dsimp only; walk1; (try ((fail_if_success (with_reducible show wpAny _ _ (subscriptTail _ _ (Value.ref _) (Value.ref _)) _ _ _)); dsimp only))) | (leave1; (try dsimp only)))
  (rename Fr _ _ _ _ => F)
  (rename News _ _ _ _ => N)
  refine' spelled_spec HB D' R t ?hs1 ?hd1 _ _ (gr.gram (N (D', oR) (by k_mem)).1 fun a o hm => (N (a, o) (.tail _ (.tail _ (.tail _ (.tail _ (.tail _ hm)))))).1) U (by omega) ?kk1
  case hs1 => exact fun b' o' e' => F.keep _ _ e'
  case hd1 => (simp only [depth_deeper, AA] at *); omega
  intro h3 tk3 ar ws st3 hr3 hl3 hi3
  obtain ⟨orow, hro, hrc, hrn, hrd⟩ := id hl3
  have fr3 := fresh_facts F hr3
  (rename Fr _ _ _ _ => F)
  (rename News _ _ _ _ => N)
  have F' := fr_ext F st3
  have N' := news_ext N st3
  clear F N
  have F := F'
  have N := N'
  clear F' N'
  have N' := news_cons N hro fr3
  clear N
  have N := N'
  clear N'
  (try dsimp only)
  repeat' ((fail_if_success (with_reducible show Exists _)); (fail_if_success (with_reducible show wpAny _ _ (call (Value.ref _) _) _ _ _)); (fail_if_success (with_reducible show wpAny _ _ (binaryOp Operator.Pow _ _) _ _ _)); first | (k_unfold; (try dsimp only)) | (walk1; (try ((fail_if_success (with_reducible show wpAny _ _ (subscriptTail _ _ (Value.ref _) (Value.ref _)) _ _ _)); dsimp only))) | (dsimp only; walk1; (try ((fail_if_success (with_reducible show wpAny _ _ (subscriptTail _ _ (Value.ref _) (Value.ref _)) _ _ _)); dsimp only))) | (leave1; (try dsimp only)))
  (rename Fr _ _ _ _ => F)
  (rename News _ _ _ _ => N)
  have hwl : ws.toArray.size = t.leaves.length := by simp [hi3.length]
  refine' call_len_list (items := ws.toArray) ?lhl ?lfit ?lh
  case lhl => exact ⟨orow, (N (ar, orow) (by k_mem)).1, hrc, hrn, hrd⟩
  case lfit => rw [hwl]; omega
  rw [hwl]
  (try dsimp only)
  repeat' ((fail_if_success (with_reducible show Exists _)); (fail_if_success (with_reducible show wpAny _ _ (call (Value.ref _) _) _ _ _)); (fail_if_success (with_reducible show wpAny _ _ (binaryOp Operator.Pow _ _) _ _ _)); first | (k_unfold; (try dsimp only)) | (walk1; (try ((fail_if_success (with_reducible show wpAny _ _ (subscriptTail _ _ (Value.ref _) (Value.ref _)) _ _ _)); dsimp only))) | (dsimp only; walk1; (try ((fail_if_success (with_reducible show wpAny _ _ (subscriptTail _ _ (Value.ref _) (Value.ref _)) _ _ _)); dsimp only))) | (leave1; (try dsimp only)))
  refine' pow_int_small ?pk1 ?pk2 ?pk3 ?_
  case pk1 => omega
  case pk2 => omega
  case pk3 => decide
  (try dsimp only)
  repeat' ((fail_if_success (with_reducible show Exists _)); (fail_if_success (with_reducible show wpAny _ _ (call (Value.ref _) _) _ _ _)); (fail_if_success (with_reducible show wpAny _ _ (subscriptTail _ _ (Value.ref _) (Value.ref _)) _ _ _)); first | (k_unfold; (try dsimp only)) | (walk1; (try ((fail_if_success (with_reducible show wpAny _ _ (subscriptTail _ _ (Value.ref _) (Value.ref _)) _ _ _)); dsimp only))) | (dsimp only; walk1; (try ((fail_if_success (with_reducible show wpAny _ _ (subscriptTail _ _ (Value.ref _) (Value.ref _)) _ _ _)); dsimp only))) | (leave1; (try dsimp only)))
  (rename Fr _ _ _ _ => F)
  (rename News _ _ _ _ => N)
  refine' krv_ints (vs := ws) ?sF ?sN ?sl (IsPart.int _ _) hi3 ?sh ?ss ?st ?sz
  case sF => exact F
  case sN => exact N
  case sl => exact ⟨orow, (N (ar, orow) (by k_mem)).1, hrc, hrn, hrd⟩
  case ss => with_unfolding_all rfl
  case st => kmk_pure
  case sz => rw [hwl]; exact Nat.le_trans hlen (by decide)
  clear F N
  intro rr wr h4 F N l4 hir hlr
  k_lt l4
  (try dsimp only)
  repeat' ((fail_if_success (with_reducible show Exists _)); (fail_if_success (with_reducible show wpAny _ _ (call (Value.ref _) _) _ _ _)); first | (k_unfold; (try dsimp only)) | (walk1; (try ((fail_if_success (with_reducible show wpAny _ _ (subscriptTail _ _ (Value.ref _) (Value.ref _)) _ _ _)); dsimp only))) | (dsimp only; walk1; (try ((fail_if_success (with_reducible show wpAny _ _ (subscriptTail _ _ (Value.ref _) (Value.ref _)) _ _ _)); dsimp only))) | (leave1; (try dsimp only)))
  (rename Fr _ _ _ _ => F)
  (rename News _ _ _ _ => N)
  rw [show [d0, d1, d2, d3, d4, d5, d6, d7, d8, d9].getD (Int.toNat 8) 0 = d8 from rfl, show [d0, d1, d2, d3, d4, d5, d6, d7, d8, d9].getD (Int.toNat 9) 0 = d9 from rfl] at F
  have N' := news_sub (news' := (rr, W.listOf wr.toArray 0) :: (D, LCg.lst [.int d0 t0, .int d1 t1, .int d2 t2, .int d3 t3, .int d4 t4, .int d5 t5, .int d6 t6, .int d7 t7, .int d8 t8, .int d9 t9]) :: (L + 1 + 1, od) :: (58, tabObj #[]) :: (51, tabObj #[]) :: (D', oR) :: acc) N (by
    intro p hp
    simp only [List.mem_cons] at hp ⊢
    rcases hp with h | h | h | h | h | h | h <;> simp only [h, true_or, or_true])
  clear N
  have N := N'
  clear N'
  have hg58 : g.get? 58 = none ∧ (58 : Addr) ≠ L := ⟨(N (58, tabObj #[]) (by k_mem)).2.2, (N (58, tabObj #[]) (by k_mem)).2.1⟩
  have hg51 : g.get? 51 = none ∧ (51 : Addr) ≠ L := ⟨(N (51, tabObj #[]) (by k_mem)).2.2, (N (51, tabObj #[]) (by k_mem)).2.1⟩
  have hgr : ∀ a o, (a, o) ∈ acc → o.cls = .type "list" → a ≠ 58 ∧ a ≠ 51 := fun a o hm hc => ⟨news_lst_ne N (.tail _ (.tail _ (.tail _ (.tail _ (.tail _ (.tail _ hm)))))) (by k_mem) hc (by decide), news_lst_ne N (.tail _ (.tail _ (.tail _ (.tail _ (.tail _ (.tail _ hm)))))) (by k_mem) hc (by decide)⟩
  rw [Int.toNat_natCast] at F
  rw [fmod_nn (by decide), fmod_nn (by decide), fmod_nn (by decide), fmod_nn (by decide), fdiv_nn (by decide), fdiv_nn (by decide)] at F
  have he : d9 % 2 = 0 ∨ d9 % 2 = 1 := by omega
  have hdv : 7 ≤ 7 + d8 % 500 ∧ 7 + d8 % 500 < 507 := by omega
  have hsd : 1 ≤ 1 + d9 / 4 % 50 ∧ 1 + d9 / 4 % 50 < 51 := by omega
  have hu : 1 - 2 * (d9 / 2 % 2) = 1 ∨ 1 - 2 * (d9 / 2 % 2) = -1 := by omega
  refine' digits2int_spec ?HB240 ?hs240 ?hd240 rr wr t.leaves.reverse 8 _ ⟨_, hideAll_get _ (N (rr, _) (.head _)).1 (not_mem1 (.inr l4.2.2.2.2.1)), rfl, _, rfl⟩ hir (by decide) (by decide) (by rw [List.length_reverse]; omega) (fun x hx => oct_figs hO x (List.mem_reverse.mp hx)) ⟨#[], (N (58, tabObj #[]) (by k_mem)).1, .inl rfl⟩ ?kk240
  case HB240 => assumption
  case hs240 => exact fun b' o' e' => Fr.keep (by assumption) _ _ (hb _ _ e')
  case hd240 => (simp only [depth_deeper, AA] at *); omega
  intro h5 tk5 tv5 st5 T58
  obtain ⟨ext, F5, N5, full5, off5, old5⟩ := after_call (S := [58]) F N (by intro a ha; simp at ha; subst ha; exact hg58) st5
  obtain ⟨p58, e58, k58⟩ := tab_in (K := fun a o => g.get? a = some o ∨ (a, o) ∈ ext) T58 (fun a o vs e hd n1 n2 => full5 a o e (by simp; exact n1) (fields_ne_frame F5 e hd))
  have N6 : News g L h5 ((58, tabObj p58) :: (51, tabObj #[]) :: (L + 1 + 1, od) :: (D, LCg.lst [.int d0 t0, .int d1 t1, .int d2 t2, .int d3 t3, .int d4 t4, .int d5 t5, .int d6 t6, .int d7 t7, .int d8 t8, .int d9 t9]) :: (D', oR) :: ext) := by
    refine news_cons (fun p hp => ?_) e58 hg58
    rcases List.mem_cons.mp hp with rfl | hp
    · exact N5 _ (old5 _ (by k_mem) (by simp))
    · rcases List.mem_cons.mp hp with rfl | hp
      · exact N5 _ (old5 _ (by k_mem) (not_mem1 (.inr (Nat.lt_add_right 2 l0.1))))
      · rcases List.mem_cons.mp hp with rfl | hp
        · exact N5 _ (old5 _ (by k_mem) (by simp; exact news_lst_ne N (.tail _ (.head _)) (.tail _ (.tail _ (.tail _ (.head _)))) rfl (by decide)))
        · rcases List.mem_cons.mp hp with rfl | hp
          · exact N5 _ (old5 _ (by k_mem) (by simp; exact hD58))
          · exact N5 _ hp
  have gr6 : GrK prog w (fun a o => (a, o) ∈ ext) oR R := gr.mono fun a o hm hc => old5 (a, o) (.tail _ (.tail _ (.tail _ (.tail _ (.tail _ (.tail _ hm)))))) (by simp; exact (hgr a o hm hc).1)
  clear F N N5 gr hgr old5 full5 off5 T58
  have F := F5
  have N := N6
  have gr := gr6
  clear F5 N6 gr6
  rw [show (2 : Int) ^ Int.toNat 8 = 256 from rfl]
  (try dsimp only)
  repeat' ((fail_if_success (with_reducible show Exists _)); (fail_if_success (with_reducible show wpAny _ _ (call (Value.ref _) _) _ _ _)); first | (k_unfold; (try dsimp only)) | (walk1; (try ((fail_if_success (with_reducible show wpAny _ _ (subscriptTail _ _ (Value.ref _) (Value.ref _)) _ _ _)); dsimp only))) | (dsimp only; walk1; (try ((fail_if_success (with_reducible show wpAny _ _ (subscriptTail _ _ (Value.ref _) (Value.ref _)) _ _ _)); dsimp only))) | (leave1; (try dsimp only)))
  (rename Fr _ _ _ _ => F)
  (rename News _ _ _ _ => N)
  rename_i dm _ om lom _ _ him _ lm dl _ ol lol _ _ hil _ ll da _ oa loa _ _ hia _ la dq _ oq loq _ _ hiq _ lq tup _ ltup _ _ _ _ _ _
  have q9 : ([d0, d1, d2, d3, d4, d5, d6, d7, d8, d9].getD (Int.toNat 9) 0).fmod 2 = d9 % 2 := fmod_nn (by decide)
  rw [q9, Int.toNat_natCast] at F
  rw [q9]
  have N' := news_sub (news' := (dm, om) :: (dl, ol) :: (da, oa) :: (dq, oq) :: (58, tabObj p58) :: (51, tabObj #[]) :: (L + 1 + 1, od) :: (D, LCg.lst [.int d0 t0, .int d1 t1, .int d2 t2, .int d3 t3, .int d4 t4, .int d5 t5, .int d6 t6, .int d7 t7, .int d8 t8, .int d9 t9]) :: (D', oR) :: ext) N (by
    intro p hp
    simp only [List.mem_cons] at hp ⊢
    rcases hp with h | h | h | h | h | h | h | h | h | h <;> simp only [h, true_or, or_true])
  clear N ltup tup
  have N := N'
  clear N'
  have hS2 : ∀ a ∈ [dm, dl], g.get? a = none ∧ a ≠ L := by
    intro a ha
    simp at ha
    rcases ha with rfl | rfl
    · exact ⟨(N (_, om) (by k_mem)).2.2, (N (_, om) (by k_mem)).2.1⟩
    · exact ⟨(N (_, ol) (by k_mem)).2.2, (N (_, ol) (by k_mem)).2.1⟩
  have ext_in : ∀ a o, (a, o) ∈ ext → (a, o) ∈ (dm, om) :: (dl, ol) :: (da, oa) :: (dq, oq) :: (58, tabObj p58) :: (51, tabObj #[]) :: (L + 1 + 1, od) :: (D, LCg.lst [.int d0 t0, .int d1 t1, .int d2 t2, .int d3 t3, .int d4 t4, .int d5 t5, .int d6 t6, .int d7 t7, .int d8 t8, .int d9 t9]) :: (D', oR) :: ext := fun a o hm => .tail _ (.tail _ (.tail _ (.tail _ (.tail _ (.tail _ (.tail _ (.tail _ (.tail _ hm))))))))
  refine' divided_spec HB D' dm dl R (7 + d8 % 500) _ (by omega) (by omega) (hS2 dm (by simp)).1 (hS2 dl (by simp)).1 (Nat.ne_of_lt ll.1) lom t ?hs2 ?hd2 _ _ (d9 % 2 * (7 + d8 % 500 - 1)) _ 0 (fun _ => none) (fun _ => none) ?G2 U hO ?r02 ?r12 PInv.nil ?memo2 (by omega) ?kk2
  case hs2 => exact fun b' o' e' => F.keep _ _ e'
  case hd2 => (simp only [depth_deeper, AA] at *); omega
  case G2 =>
    refine gr.hide (N (D', oR) (by k_mem)).1 (by simp; exact ⟨Nat.ne_of_lt lm.2.2.2.2.1, Nat.ne_of_lt ll.2.2.2.2.2.1⟩) (fun a o hm => (N _ (ext_in a o hm)).1) ?_
    intro a ha
    simp at ha
    rcases ha with rfl | rfl
    · exact ⟨om, (N (_, om) (by k_mem)).1, dict_cls him⟩
    · exact ⟨ol, (N (_, ol) (by k_mem)).1, dict_cls hil⟩
  case r02 => rcases he with h | h <;> rw [h] <;> omega
  case r12 => rcases he with h | h <;> rw [h] <;> omega
  case memo2 => exact memo_new (Heap.dictOf_iff.mpr ⟨om, (N (dm, om) (by k_mem)).1, him⟩) (Heap.dictOf_iff.mpr ⟨ol, (N (dl, ol) (by k_mem)).1, hil⟩)
  intro h8 tk8 p8 q8 tq8 tr8 M1 Lf1 st8 hp8 hg8 P1 MA1 mono1 small1 U1
  have fp8 := fresh_facts F hp8
  obtain ⟨ext2, F8, N8, full8, off8, old8⟩ := after_call (S := [dm, dl]) F N hS2 st8
  obtain ⟨om1, ol1, e1, e2, MO1⟩ := memo_in (K := fun a o => g.get? a = some o ∨ (a, o) ∈ ext2) (fun a o vs n e hd => full8 a o (of_hideAll _ e) (fun ha => by rw [hideAll_none _ ha] at e; cases e) (list_ne_frame F8 (of_hideAll _ e) hd)) MA1
  have grM := memo_gr MO1
  have N9 : News g L h8 ((p8, { cls := .type "tuple", data := .seq #[.int q8 tq8, .int (dvT (7 + d8 % 500) t (d9 % 2 * (7 + d8 % 500 - 1))).2 tr8] }) :: (dm, om1) :: (da, oa) :: (dq, oq) :: (58, tabObj p58) :: (51, tabObj #[]) :: (L + 1 + 1, od) :: (D, LCg.lst [.int d0 t0, .int d1 t1, .int d2 t2, .int d3 t3, .int d4 t4, .int d5 t5, .int d6 t6, .int d7 t7, .int d8 t8, .int d9 t9]) :: ext2) := by
    refine news_cons (news_cons (fun p hp => ?_) e1 (hS2 dm (by simp))) hg8 fp8
    rcases List.mem_cons.mp hp with rfl | hp
    · exact N8 _ (old8 _ (by k_mem) (not_mem2 la.2.1 la.1))
    · rcases List.mem_cons.mp hp with rfl | hp
      · exact N8 _ (old8 _ (by k_mem) (not_mem2 lq.2.2.1 lq.2.1))
      · rcases List.mem_cons.mp hp with rfl | hp
        · exact N8 _ (old8 _ (by k_mem) (not_mem2' lm.1 ll.2.1))
        · rcases List.mem_cons.mp hp with rfl | hp
          · exact N8 _ (old8 _ (by k_mem) (not_mem2' lm.2.1 ll.2.2.1))
          · rcases List.mem_cons.mp hp with rfl | hp
            · exact N8 _ (old8 _ (by k_mem) (not_mem2' lm.2.2.1 ll.2.2.2.1))
            · rcases List.mem_cons.mp hp with rfl | hp
              · exact N8 _ (old8 _ (by k_mem) (not_mem2' lm.2.2.2.1 ll.2.2.2.2.1))
              · exact N8 _ hp
  have k58' := k58.mono fun c' hc => RecK.mono (K' := fun a o => g.get? a = some o ∨ (a, o) ∈ ext2) hc fun a o hK n1 n2 hf => hK.imp id fun hm => old8 (a, o) (ext_in a o hm) (fields_not_mem N (ext_in a o hm) hf him hil)
  clear F N N8 old8 full8 off8 MA1 ext_in gr k58
  have F := F8
  have N := N9
  have k58 := k58'
  clear F8 N9 k58'
  obtain ⟨O1, r10, r11⟩ := dvT_ok (dv := 7 + d8 % 500) (by omega) t (d9 % 2 * (7 + d8 % 500 - 1)) hO (by rcases he with h | h <;> rw [h] <;> omega) (by rcases he with h | h <;> rw [h] <;> omega)
  have dep1 := dvT_depth (7 + d8 % 500) t (d9 % 2 * (7 + d8 % 500 - 1))
  have nod1 := dvT_nodes (7 + d8 % 500) t (d9 % 2 * (7 + d8 % 500 - 1))
  have len1 := dvT_len (7 + d8 % 500) t (d9 % 2 * (7 + d8 % 500 - 1))
  have div1 := told_div (dv := 7 + d8 % 500) (by omega) he hO
  generalize hT1 : dvT (7 + d8 % 500) t (d9 % 2 * (7 + d8 % 500 - 1)) = T1 at N U1 O1 r10 r11 dep1 nod1 len1 div1
  (try dsimp only)
  repeat' ((fail_if_success (with_reducible show Exists _)); (fail_if_success (with_reducible show wpAny _ _ (call (Value.ref _) _) _ _ _)); first | (k_unfold; (try dsimp only)) | (walk1; (try ((fail_if_success (with_reducible show wpAny _ _ (subscriptTail _ _ (Value.ref _) (Value.ref _)) _ _ _)); dsimp only))) | (dsimp only; walk1; (try ((fail_if_success (with_reducible show wpAny _ _ (subscriptTail _ _ (Value.ref _) (Value.ref _)) _ _ _)); dsimp only))) | (leave1; (try dsimp only)))
  (rename Fr _ _ _ _ => F)
  (rename News _ _ _ _ => N)
  rw [q9]
  have N' := news_sub (news' := (da, oa) :: (dq, oq) :: (dm, om1) :: (58, tabObj p58) :: (51, tabObj #[]) :: (L + 1 + 1, od) :: (D, LCg.lst [.int d0 t0, .int d1 t1, .int d2 t2, .int d3 t3, .int d4 t4, .int d5 t5, .int d6 t6, .int d7 t7, .int d8 t8, .int d9 t9]) :: ext2) N (by
    intro p hp
    simp only [List.mem_cons] at hp ⊢
    rcases hp with h | h | h | h | h | h | h | h <;> simp only [h, true_or, or_true])
  clear N
  have N := N'
  clear N'
  have hS3 : ∀ a ∈ [da, dq], g.get? a = none ∧ a ≠ L := by
    intro a ha
    simp at ha
    rcases ha with rfl | rfl
    · exact ⟨(N (_, oa) (by k_mem)).2.2, (N (_, oa) (by k_mem)).2.1⟩
    · exact ⟨(N (_, oq) (by k_mem)).2.2, (N (_, oq) (by k_mem)).2.1⟩
  have ext_in : ∀ a o, (a, o) ∈ ext2 → (a, o) ∈ (da, oa) :: (dq, oq) :: (dm, om1) :: (58, tabObj p58) :: (51, tabObj #[]) :: (L + 1 + 1, od) :: (D, LCg.lst [.int d0 t0, .int d1 t1, .int d2 t2, .int d3 t3, .int d4 t4, .int d5 t5, .int d6 t6, .int d7 t7, .int d8 t8, .int d9 t9]) :: ext2 := fun a o hm => .tail _ (.tail _ (.tail _ (.tail _ (.tail _ (.tail _ (.tail _ hm))))))
  refine' divided_spec HB dm da dq M1 (1 + d9 / 4 % 50) _ (by omega) (by omega) (hS3 da (by simp)).1 (hS3 dq (by simp)).1 (Nat.ne_of_lt lq.1) loa T1.1 ?hs3 ?hd3 _ _ (d9 % 2 * (1 + d9 / 4 % 50 - 1)) _ 0 (fun _ => none) (fun _ => none) ?G3 U1 O1 ?r03 ?r13 PInv.nil ?memo3 (by omega) ?kk3
  case hs3 => exact fun b' o' e' => F.keep _ _ e'
  case hd3 => (simp only [depth_deeper, AA] at *); omega
  case G3 =>
    refine grM.hide (N (dm, om1) (by k_mem)).1 (not_mem2' la.2.1 lq.2.2.1) (fun a o hK => hK.elim (F.keep _ _) fun hm => (N _ (ext_in a o hm)).1) ?_
    intro a ha
    simp at ha
    rcases ha with rfl | rfl
    · exact ⟨oa, (N (_, oa) (by k_mem)).1, dict_cls hia⟩
    · exact ⟨oq, (N (_, oq) (by k_mem)).1, dict_cls hiq⟩
  case r03 => rcases he with h | h <;> rw [h] <;> omega
  case r13 => rcases he with h | h <;> rw [h] <;> omega
  case memo3 => exact memo_new (Heap.dictOf_iff.mpr ⟨oa, (N (da, oa) (by k_mem)).1, hia⟩) (Heap.dictOf_iff.mpr ⟨oq, (N (dq, oq) (by k_mem)).1, hiq⟩)
  intro h10 tk10 p10 q10 tq10 tr10 M2 Lf2 st10 hp10 hg10 P2 MA2 mono2 small2 U2
  have fp10 := fresh_facts F hp10
  obtain ⟨ext3, F10, N10, full10, off10, old10⟩ := after_call (S := [da, dq]) F N hS3 st10
  obtain ⟨om2, ol2, e3, e4, MO2⟩ := memo_in (K := fun a o => g.get? a = some o ∨ (a, o) ∈ ext3) (fun a o vs n e hd => full10 a o (of_hideAll _ e) (fun ha => by rw [hideAll_none _ ha] at e; cases e) (list_ne_frame F10 (of_hideAll _ e) hd)) MA2
  have grA := memo_gr MO2
  have N11 : News g L h10 ((p10, { cls := .type "tuple", data := .seq #[.int q10 tq10, .int (dvT (1 + d9 / 4 % 50) T1.1 (d9 % 2 * (1 + d9 / 4 % 50 - 1))).2 tr10] }) :: (da, om2) :: (dm, om1) :: (58, tabObj p58) :: (51, tabObj #[]) :: (L + 1 + 1, od) :: (D, LCg.lst [.int d0 t0, .int d1 t1, .int d2 t2, .int d3 t3, .int d4 t4, .int d5 t5, .int d6 t6, .int d7 t7, .int d8 t8, .int d9 t9]) :: ext3) := by
    refine news_cons (news_cons (fun p hp => ?_) e3 (hS3 da (by simp))) hg10 fp10
    rcases List.mem_cons.mp hp with rfl | hp
    · exact N10 _ (old10 _ (by k_mem) (not_mem2' la.2.1 lq.2.2.1))
    · rcases List.mem_cons.mp hp with rfl | hp
      · exact N10 _ (old10 _ (by k_mem) (not_mem2' la.2.2.1 lq.2.2.2.1))
      · rcases List.mem_cons.mp hp with rfl | hp
        · exact N10 _ (old10 _ (by k_mem) (not_mem2' la.2.2.2.1 lq.2.2.2.2.1))
        · rcases List.mem_cons.mp hp with rfl | hp
          · exact N10 _ (old10 _ (by k_mem) (not_mem2' la.2.2.2.2.1 lq.2.2.2.2.2.1))
          · rcases List.mem_cons.mp hp with rfl | hp
            · exact N10 _ (old10 _ (by k_mem) (not_mem2' la.2.2.2.2.2.1 lq.2.2.2.2.2.2.1))
            · exact N10 _ hp
  have k58' := k58.mono fun c' hc => RecK.mono (K' := fun a o => g.get? a = some o ∨ (a, o) ∈ ext3) hc fun a o hK n1 n2 hf => hK.imp id fun hm => old10 (a, o) (ext_in a o hm) (fields_not_mem N (ext_in a o hm) hf hia hiq)
  have grM' := grM.mono (K' := fun a o => g.get? a = some o ∨ (a, o) ∈ ext3) fun a o hK hc => hK.imp id fun hm => old10 (a, o) (ext_in a o hm) (by simp; exact ⟨news_lst_ne N (ext_in a o hm) (.head _) hc (dict_cls hia), news_lst_ne N (ext_in a o hm) (.tail _ (.head _)) hc (dict_cls hiq)⟩)
  clear F N N10 old10 full10 off10 MA2 ext_in k58 grM
  have F := F10
  have N := N11
  have k58 := k58'
  have grM := grM'
  clear F10 N11 k58' grM'
  obtain ⟨O2, r20, r21⟩ := dvT_ok (dv := 1 + d9 / 4 % 50) (by omega) T1.1 (d9 % 2 * (1 + d9 / 4 % 50 - 1)) O1 (by rcases he with h | h <;> rw [h] <;> omega) (by rcases he with h | h <;> rw [h] <;> omega)
  have dep2 := dvT_depth (1 + d9 / 4 % 50) T1.1 (d9 % 2 * (1 + d9 / 4 % 50 - 1))
  have nod2 := dvT_nodes (1 + d9 / 4 % 50) T1.1 (d9 % 2 * (1 + d9 / 4 % 50 - 1))
  have len2 := dvT_len (1 + d9 / 4 % 50) T1.1 (d9 % 2 * (1 + d9 / 4 % 50 - 1))
  have div2 := told_div (dv := 1 + d9 / 4 % 50) (by omega) he O1
  generalize hT2 : dvT (1 + d9 / 4 % 50) T1.1 (d9 % 2 * (1 + d9 / 4 % 50 - 1)) = T2 at N U2 O2 r20 r21 dep2 nod2 len2 div2
  (try dsimp only)
  repeat' ((fail_if_success (with_reducible show Exists _)); (fail_if_success (with_reducible show wpAny _ _ (call (Value.ref _) _) _ _ _)); first | (k_unfold; (try dsimp only)) | (walk1; (try ((fail_if_success (with_reducible show wpAny _ _ (subscriptTail _ _ (Value.ref _) (Value.ref _)) _ _ _)); dsimp only))) | (dsimp only; walk1; (try ((fail_if_success (with_reducible show wpAny _ _ (subscriptTail _ _ (Value.ref _) (Value.ref _)) _ _ _)); dsimp only))) | (leave1; (try dsimp only)))
  (rename Fr _ _ _ _ => F)
  (rename News _ _ _ _ => N)
  have hN : -(d9 % 2) * 256 ^ t.leaves.length + valB 256 t.leaves.reverse = told (d9 % 2) t := by unfold told; rw [Int.neg_mul]; omega
  rw [hN] at F
  rw [hN]
  have hnb := told_bits he hO hlen
  have hSS : ∀ a ∈ [58, 51], g.get? a = none ∧ a ≠ L := by
    intro a ha
    simp at ha
    rcases ha with rfl | rfl
    · exact hg58
    · exact hg51
  refine' int_divmod_spec ?HB247 ?hs247 ?hd247 (told (d9 % 2) t) (7 + d8 % 500) (1 - 2 * (d9 / 2 % 2)) _ _ hu (Nat.le_trans hnb (by decide)) (by omega) (by omega) ⟨#[], (N (51, tabObj #[]) (by k_mem)).1, .inl rfl⟩ (tab_out k58 (N (58, tabObj p58) (by k_mem)).1 fun a o hK _ _ => hK.elim (F.keep _ _) fun hm => (N (a, o) (.tail _ (.tail _ (.tail _ (.tail _ (.tail _ (.tail _ (.tail _ hm)))))))).1) ?kk247
  case HB247 => assumption
  case hs247 => exact fun b' o' e' => Fr.keep (by assumption) _ _ (hb _ _ e')
  case hd247 => (simp only [depth_deeper, AA] at *); omega
  intro h12 tk12 p12 tq12 tr12 st12 T51 T58 hnew12 hg12
  have np12 : p12 ∉ [58, 51] := none2 hnew12 (N (58, tabObj p58) (by k_mem)).1 (N (51, tabObj #[]) (by k_mem)).1
  have fp12 := fresh_facts F hnew12
  obtain ⟨ext4, q58, q51, F12, N12, old12, k51, k58'⟩ := after_div F N hSS st12 T51 T58
  rw [div1.1, div1.2] at hg12
  have N13 := news_cons (news_cons (news_cons N12 (N12 _ (.tail _ (.tail _ (old12 (dm, om1) (by k_mem) (not_mem2 lm.1 lm.2.1))))).1 (N12 _ (.tail _ (.tail _ (old12 (dm, om1) (by k_mem) (not_mem2 lm.1 lm.2.1))))).2.symm) (N12 _ (.tail _ (.tail _ (old12 (da, om2) (by k_mem) (not_mem2 la.2.2.1 la.2.2.2.1))))).1 (N12 _ (.tail _ (.tail _ (old12 (da, om2) (by k_mem) (not_mem2 la.2.2.1 la.2.2.2.1))))).2.symm) hg12 fp12
  have lst_in : ∀ a o, (a, o) ∈ ext3 → o.cls = .type "list" → (a, o) ∈ ext4 := fun a o hm hc => old12 (a, o) (.tail _ (.tail _ (.tail _ (.tail _ (.tail _ (.tail _ (.tail _ hm))))))) (by simp; exact ⟨news_lst_ne N (.tail _ (.tail _ (.tail _ (.tail _ (.tail _ (.tail _ (.tail _ hm))))))) (c := 58) (by k_mem) hc (o' := tabObj p58) (tab_cls _), news_lst_ne N (.tail _ (.tail _ (.tail _ (.tail _ (.tail _ (.tail _ (.tail _ hm))))))) (c := 51) (by k_mem) hc (o' := tabObj #[]) (tab_cls _)⟩)
  have grM' := grM.mono (K' := fun a o => g.get? a = some o ∨ (a, o) ∈ ext4) fun a o hK hc => hK.imp id fun hm => lst_in a o hm hc
  have grA' := grA.mono (K' := fun a o => g.get? a = some o ∨ (a, o) ∈ ext4) fun a o hK hc => hK.imp id fun hm => lst_in a o hm hc
  clear F N N12 old12 lst_in T51 T58 k58 grM grA
  have F := F12
  have N := N13
  have k58 := k58'
  have grM := grM'
  have grA := grA'
  clear F12 N13 k58' grM' grA'
  (try dsimp only)
  repeat' ((fail_if_success (with_reducible show Exists _)); (fail_if_success (with_reducible show wpAny _ _ (call (Value.ref _) _) _ _ _)); first | (k_unfold; (try dsimp only)) | (walk1; (try ((fail_if_success (with_reducible show wpAny _ _ (subscriptTail _ _ (Value.ref _) (Value.ref _)) _ _ _)); dsimp only))) | (dsimp only; walk1; (try ((fail_if_success (with_reducible show wpAny _ _ (subscriptTail _ _ (Value.ref _) (Value.ref _)) _ _ _)); dsimp only))) | (leave1; (try dsimp only)))
  (rename Fr _ _ _ _ => F)
  (rename News _ _ _ _ => N)
  rw [Int.mul_assoc (1 - 2 * (d9 / 2 % 2)) (7 + d8 % 500) (1 + d9 / 4 % 50)]
  have hprod : 0 < (7 + d8 % 500) * (1 + d9 / 4 % 50) ∧ (7 + d8 % 500) * (1 + d9 / 4 % 50) < 1073741824 := by
    have a1 : (7 + d8 % 500) * (1 + d9 / 4 % 50) ≤ 507 * 51 := Int.mul_le_mul (by omega) (by omega) (by omega) (by omega)
    have a2 := Int.mul_pos (show 0 < 7 + d8 % 500 by omega) (show 0 < 1 + d9 / 4 % 50 by omega)
    exact ⟨a2, by omega⟩
  refine' int_divmod_spec ?HB250 ?hs250 ?hd250 (told (d9 % 2) t) ((7 + d8 % 500) * (1 + d9 / 4 % 50)) (1 - 2 * (d9 / 2 % 2)) _ _ hu (Nat.le_trans hnb (by decide)) hprod.1 hprod.2 (tab_out k51 (N (51, tabObj q51) (by k_mem)).1 fun a o hK _ _ => hK.elim (F.keep _ _) fun hm => (N (a, o) (.tail _ (.tail _ (.tail _ (.tail _ (.tail _ hm)))))).1) (tab_out k58 (N (58, tabObj q58) (by k_mem)).1 fun a o hK _ _ => hK.elim (F.keep _ _) fun hm => (N (a, o) (.tail _ (.tail _ (.tail _ (.tail _ (.tail _ hm)))))).1) ?kk250
  case HB250 => assumption
  case hs250 => exact fun b' o' e' => Fr.keep (by assumption) _ _ (hb _ _ e')
  case hd250 => (simp only [depth_deeper, AA] at *); omega
  intro h14 tk14 p14 tq14 tr14 st14 T51 T58 hnew14 hg14
  have np14 : p14 ∉ [58, 51] := none2 hnew14 (N (58, tabObj q58) (by k_mem)).1 (N (51, tabObj q51) (by k_mem)).1
  have fp14 := fresh_facts F hnew14
  obtain ⟨ext5, r58, r51, F14, N14, old14, k51', k58'⟩ := after_div F N hSS st14 T51 T58
  rw [← ediv_ediv_pos (by omega), emod_mul_pos (by omega), div1.1, div1.2, div2.1, div2.2] at hg14
  have N15 := news_cons (news_cons (news_cons (news_cons N14 (N14 _ (.tail _ (.tail _ (old14 (dm, om1) (by k_mem) (not_mem2 lm.1 lm.2.1))))).1 (N14 _ (.tail _ (.tail _ (old14 (dm, om1) (by k_mem) (not_mem2 lm.1 lm.2.1))))).2.symm) (N14 _ (.tail _ (.tail _ (old14 (da, om2) (by k_mem) (not_mem2 la.2.2.1 la.2.2.2.1))))).1 (N14 _ (.tail _ (.tail _ (old14 (da, om2) (by k_mem) (not_mem2 la.2.2.1 la.2.2.2.1))))).2.symm) (N14 _ (.tail _ (.tail _ (old14 (p12, _) (.head _) np12)))).1 fp12) hg14 fp14
  have lst_in : ∀ a o, (a, o) ∈ ext4 → o.cls = .type "list" → (a, o) ∈ ext5 := fun a o hm hc => old14 (a, o) (.tail _ (.tail _ (.tail _ (.tail _ (.tail _ hm))))) (by simp; exact ⟨news_lst_ne N (.tail _ (.tail _ (.tail _ (.tail _ (.tail _ hm))))) (c := 58) (by k_mem) hc (o' := tabObj q58) (tab_cls _), news_lst_ne N (.tail _ (.tail _ (.tail _ (.tail _ (.tail _ hm))))) (c := 51) (by k_mem) hc (o' := tabObj q51) (tab_cls _)⟩)
  have grM' := grM.mono (K' := fun a o => g.get? a = some o ∨ (a, o) ∈ ext5) fun a o hK hc => hK.imp id fun hm => lst_in a o hm hc
  have grA' := grA.mono (K' := fun a o => g.get? a = some o ∨ (a, o) ∈ ext5) fun a o hK hc => hK.imp id fun hm => lst_in a o hm hc
  clear F N N14 old14 lst_in T51 T58 k58 k51 grM grA
  have F := F14
  have N := N15
  have k58 := k58'
  have k51 := k51'
  have grM := grM'
  have grA := grA'
  clear F14 N15 k58' k51' grM' grA'
  (try dsimp only)
  repeat' ((fail_if_success (with_reducible show Exists _)); (fail_if_success (with_reducible show wpAny _ _ (call (Value.ref _) _) _ _ _)); first | (k_unfold; (try dsimp only)) | (walk1; (try ((fail_if_success (with_reducible show wpAny _ _ (subscriptTail _ _ (Value.ref _) (Value.ref _)) _ _ _)); dsimp only))) | (dsimp only; walk1; (try ((fail_if_success (with_reducible show wpAny _ _ (subscriptTail _ _ (Value.ref _) (Value.ref _)) _ _ _)); dsimp only))) | (leave1; (try dsimp only)))
  all_goals try (exfalso; omega)
  (rename Fr _ _ _ _ => F)
  (rename News _ _ _ _ => N)
  have eed : ∀ T : Tr, T.leaves.length = t.leaves.length → told (d9 % 2) T - -(d9 % 2) * 256 ^ t.leaves.length = valB 256 T.leaves.reverse := fun T hT => by
    unfold told
    rw [hT, Int.neg_mul]
    omega
  have hlen2 : T2.1.leaves.length = t.leaves.length := by omega
  have vb : ∀ T : Tr, T.Oct → T.leaves.length = t.leaves.length → 0 ≤ valB 256 T.leaves.reverse ∧ ∃ m : Nat, ((Builtin.Int.intBits (valB 256 T.leaves.reverse) : Int) + 8 - 1) / 8 = m ∧ m ≤ 140 := fun T hO hT => by
    refine ⟨(valB_bounds (by decide) fun d h => oct_figs hO d (List.mem_reverse.mp h)).1, digits_count (by decide) ?_⟩
    have := told_bits (e := 0) (.inl rfl) hO (by omega)
    unfold told at this
    rw [Int.zero_mul, Int.sub_zero] at this
    omega
  obtain ⟨v1, m1, hm1, hm1'⟩ := vb T1.1 O1 len1
  obtain ⟨v2, m2, hm2, hm2'⟩ := vb T2.1 O2 hlen2
  rw [eed T1.1 len1]
  have b1 := bare_dgs (oct_figs O1) hm1
  have b2 := bare_dgs (oct_figs O2) hm2
  have N' := news_sub (news' := (p14, { cls := .type "tuple", data := .seq #[.int (told (d9 % 2) T2.1) tq14, .int ((1 - 2 * (d9 / 2 % 2)) * (T1.2 + (7 + d8 % 500) * T2.2)) tr14] }) :: (da, om2) :: (dm, om1) :: (58, tabObj r58) :: (51, tabObj r51) :: ext5) N (by
    intro p hp
    simp only [List.mem_cons] at hp ⊢
    rcases hp with h | h | h | h | h | h <;> simp only [h, true_or, or_true])
  clear N
  have N := N'
  clear N'
  have hS51 : ∀ a ∈ [51], g.get? a = none ∧ a ≠ L := fun a ha => hSS a (List.mem_cons_of_mem _ ha)
  refine' int2digits_spec ?HB253 ?hs253 ?hd253 _ 8 _ _ v1 (by decide) (by decide) m1 hm1 (by omega) (tab_out k51 (N (51, tabObj r51) (by k_mem)).1 fun a o hK _ _ => hK.elim (F.keep _ _) fun hm => (N (a, o) (.tail _ (.tail _ (.tail _ (.tail _ (.tail _ hm)))))).1) ?kk253
  case HB253 => assumption
  case hs253 => exact fun b' o' e' => Fr.keep (by assumption) _ _ (hb _ _ e')
  case hd253 => (simp only [depth_deeper, AA] at *); omega
  intro h16 tk16 a16 ws16 st16 T51 hnew16 hl16 hi16
  rw [show (2 : Int) ^ Int.toNat 8 = 256 from rfl, ← b1] at hi16
  obtain ⟨oa16, ha16, ca16, na16, da16⟩ := id hl16
  have fp16 := fresh_facts F hnew16
  obtain ⟨ext6, F16, N16, full16, off16, old16⟩ := after_call (S := [51]) F N hS51 st16
  obtain ⟨s51, e51, k51'⟩ := tab_in (K := fun a o => g.get? a = some o ∨ (a, o) ∈ ext6) T51 (fun a o vs e hd n1 n2 => full16 a o e (by simp; exact n2) (fields_ne_frame F16 e hd))
  have ext_in : ∀ a o, (a, o) ∈ ext5 → a ≠ 51 → (a, o) ∈ ext6 := fun a o hm hn => old16 (a, o) (.tail _ (.tail _ (.tail _ (.tail _ (.tail _ hm))))) (by simp; exact hn)
  have l51 : ∀ a o, (a, o) ∈ ext5 → o.cls = .type "list" → a ≠ 51 := fun a o hm hc => news_lst_ne N (.tail _ (.tail _ (.tail _ (.tail _ (.tail _ hm))))) (c := 51) (by k_mem) hc (o' := tabObj r51) (tab_cls _)
  have grM' := grM.mono (K' := fun a o => g.get? a = some o ∨ (a, o) ∈ ext6) fun a o hK hc => hK.imp id fun hm => ext_in a o hm (l51 a o hm hc)
  have grA' := grA.mono (K' := fun a o => g.get? a = some o ∨ (a, o) ∈ ext6) fun a o hK hc => hK.imp id fun hm => ext_in a o hm (l51 a o hm hc)
  have k58' := k58.mono fun c' hc => RecK.mono (K' := fun a o => g.get? a = some o ∨ (a, o) ∈ ext6) hc fun a o hK n1 n2 hf => hK.imp id fun hm => ext_in a o hm n2
  have N17 : News g L h16 ((a16, oa16) :: (51, tabObj s51) :: (p14, { cls := .type "tuple", data := .seq #[.int (told (d9 % 2) T2.1) tq14, .int ((1 - 2 * (d9 / 2 % 2)) * (T1.2 + (7 + d8 % 500) * T2.2)) tr14] }) :: (da, om2) :: (dm, om1) :: (58, tabObj r58) :: ext6) := by
    refine news_cons (news_cons (fun p hp => ?_) e51 hg51) ha16 fp16
    rcases List.mem_cons.mp hp with rfl | hp
    · exact N16 _ (old16 _ (by k_mem) (by simp; exact fun q => np14 (by rw [q]; simp)))
    · rcases List.mem_cons.mp hp with rfl | hp
      · exact N16 _ (old16 _ (by k_mem) (not_mem1 (.inr la.2.2.2.1)))
      · rcases List.mem_cons.mp hp with rfl | hp
        · exact N16 _ (old16 _ (by k_mem) (not_mem1 (.inr lm.2.1)))
        · rcases List.mem_cons.mp hp with rfl | hp
          · exact N16 _ (old16 _ (by k_mem) (by simp))
          · exact N16 _ hp
  clear F N N16 old16 full16 off16 T51 k58 k51 grM grA ext_in l51
  have F := F16
  have N := N17
  have k58 := k58'
  have k51 := k51'
  have grM := grM'
  have grA := grA'
  clear F16 N17 k58' k51' grM' grA'
  (try dsimp only)
  repeat' ((fail_if_success (with_reducible show Exists _)); (fail_if_success (with_reducible show wpAny _ _ (call (Value.ref _) _) _ _ _)); first | (k_unfold; (try dsimp only)) | (walk1; (try ((fail_if_success (with_reducible show wpAny _ _ (subscriptTail _ _ (Value.ref _) (Value.ref _)) _ _ _)); dsimp only))) | (dsimp only; walk1; (try ((fail_if_success (with_reducible show wpAny _ _ (subscriptTail _ _ (Value.ref _) (Value.ref _)) _ _ _)); dsimp only))) | (leave1; (try dsimp only)))
  (rename Fr _ _ _ _ => F)
  (rename News _ _ _ _ => N)
  rw [eed T2.1 hlen2]
  have np16 : a16 ≠ 51 := fun q => by
    have e := (N (a16, oa16) (by k_mem)).1
    have e' := (N (51, tabObj s51) (by k_mem)).1
    dsimp only at e e'
    rw [q, e'] at e
    cases e
    cases da16
  refine' int2digits_spec ?HB256 ?hs256 ?hd256 _ 8 _ _ v2 (by decide) (by decide) m2 hm2 (by omega) (tab_out k51 (N (51, tabObj s51) (by k_mem)).1 fun a o hK _ _ => hK.elim (F.keep _ _) fun hm => (N (a, o) (by first | exact .tail _ (.tail _ (.tail _ (.tail _ (.tail _ (.tail _ hm))))) | exact .tail _ (.tail _ (.tail _ (.tail _ (.tail _ (.tail _ (.tail _ hm)))))))).1) ?kk256
  case HB256 => assumption
  case hs256 => exact fun b' o' e' => Fr.keep (by assumption) _ _ (hb _ _ e')
  case hd256 => (simp only [depth_deeper, AA] at *); omega
  intro h18 tk18 a18 ws18 st18 T51 hnew18 hl18 hi18
  rw [show (2 : Int) ^ Int.toNat 8 = 256 from rfl, ← b2] at hi18
  obtain ⟨oa18, ha18, ca18, na18, da18⟩ := id hl18
  have fp18 := fresh_facts F hnew18
  obtain ⟨ext7, F18, N18, full18, off18, old18⟩ := after_call (S := [51]) F N hS51 st18
  obtain ⟨u51, f51, k51'⟩ := tab_in (K := fun a o => g.get? a = some o ∨ (a, o) ∈ ext7) T51 (fun a o vs e hd n1 n2 => full18 a o e (by simp; exact n2) (fields_ne_frame F18 e hd))
  have ext_in : ∀ a o, (a, o) ∈ ext6 → a ≠ 51 → (a, o) ∈ ext7 := fun a o hm hn => old18 (a, o) (by first | exact .tail _ (.tail _ (.tail _ (.tail _ (.tail _ (.tail _ hm))))) | exact .tail _ (.tail _ (.tail _ (.tail _ (.tail _ (.tail _ (.tail _ hm))))))) (by simp; exact hn)
  have l51 : ∀ a o, (a, o) ∈ ext6 → o.cls = .type "list" → a ≠ 51 := fun a o hm hc => news_lst_ne N (by first | exact .tail _ (.tail _ (.tail _ (.tail _ (.tail _ (.tail _ hm))))) | exact .tail _ (.tail _ (.tail _ (.tail _ (.tail _ (.tail _ (.tail _ hm))))))) (c := 51) (by k_mem) hc (o' := tabObj s51) (tab_cls _)
  have grM' := grM.mono (K' := fun a o => g.get? a = some o ∨ (a, o) ∈ ext7) fun a o hK hc => hK.imp id fun hm => ext_in a o hm (l51 a o hm hc)
  have grA' := grA.mono (K' := fun a o => g.get? a = some o ∨ (a, o) ∈ ext7) fun a o hK hc => hK.imp id fun hm => ext_in a o hm (l51 a o hm hc)
  have k58' := k58.mono fun c' hc => RecK.mono (K' := fun a o => g.get? a = some o ∨ (a, o) ∈ ext7) hc fun a o hK n1 n2 hf => hK.imp id fun hm => ext_in a o hm n2
  have N19 : News g L h18 ((a18, oa18) :: (51, tabObj u51) :: (a16, oa16) :: (da, om2) :: (dm, om1) :: (58, tabObj r58) :: ext7) := by
    refine news_cons (news_cons (fun p hp => ?_) f51 hg51) ha18 fp18
    rcases List.mem_cons.mp hp with rfl | hp
    · exact N18 _ (old18 _ (by k_mem) (by simp; exact np16))
    · rcases List.mem_cons.mp hp with rfl | hp
      · exact N18 _ (old18 _ (by k_mem) (not_mem1 (.inr la.2.2.2.1)))
      · rcases List.mem_cons.mp hp with rfl | hp
        · exact N18 _ (old18 _ (by k_mem) (not_mem1 (.inr lm.2.1)))
        · rcases List.mem_cons.mp hp with rfl | hp
          · exact N18 _ (old18 _ (by k_mem) (by simp))
          · exact N18 _ hp
  clear F N N18 old18 full18 off18 T51 k58 k51 grM grA ext_in l51
  have F := F18
  have N := N19
  have k58 := k58'
  have k51 := k51'
  have grM := grM'
  have grA := grA'
  clear F18 N19 k58' k51' grM' grA'
  (try dsimp only)
  repeat' ((fail_if_success (with_reducible show Exists _)); (fail_if_success (with_reducible show wpAny _ _ (call (Value.ref _) _) _ _ _)); first | (k_unfold; (try dsimp only)) | (walk1; (try ((fail_if_success (with_reducible show wpAny _ _ (subscriptTail _ _ (Value.ref _) (Value.ref _)) _ _ _)); dsimp only))) | (dsimp only; walk1; (try ((fail_if_success (with_reducible show wpAny _ _ (subscriptTail _ _ (Value.ref _) (Value.ref _)) _ _ _)); dsimp only))) | (leave1; (try dsimp only)))
  (rename Fr _ _ _ _ => F)
  (rename News _ _ _ _ => N)
  refine' spelled_spec HB dm M1 T1.1 ?hs5 ?hd5 _ _ (grM.gram (N (dm, om1) (by k_mem)).1 fun a o hK => hK.elim (F.keep _ _) fun hm => (N (a, o) (by first | exact .tail _ (.tail _ (.tail _ (.tail _ (.tail _ (.tail _ (.tail _ hm)))))))).1) U1 (by omega) ?kk5
  case hs5 => exact fun b' o' e' => F.keep _ _ e'
  case hd5 => (simp only [depth_deeper, AA] at *); omega
  intro h20 tk20 a20 ws20 st20 hn20 hl20 hi20
  obtain ⟨oa20, ha20, ca20, na20, da20⟩ := id hl20
  have fp20 := fresh_facts F hn20
  (rename Fr _ _ _ _ => F)
  (rename News _ _ _ _ => N)
  have F' := fr_ext F st20
  have N' := news_ext N st20
  clear F N
  have F := F'
  have N := N'
  clear F' N'
  have N' := news_cons N ha20 fp20
  clear N
  have N := N'
  clear N'
  (try dsimp only)
  repeat' ((fail_if_success (with_reducible show Exists _)); (fail_if_success (with_reducible show wpAny _ _ (call (Value.ref _) _) _ _ _)); first | (k_unfold; (try dsimp only)) | (walk1; (try ((fail_if_success (with_reducible show wpAny _ _ (subscriptTail _ _ (Value.ref _) (Value.ref _)) _ _ _)); dsimp only))) | (dsimp only; walk1; (try ((fail_if_success (with_reducible show wpAny _ _ (subscriptTail _ _ (Value.ref _) (Value.ref _)) _ _ _)); dsimp only))) | (leave1; (try dsimp only)))
  (rename Fr _ _ _ _ => F)
  (rename News _ _ _ _ => N)
  refine' bared_spec HB ?hs6 rfl ?hd6 a20 ws20 T1.1.leaves ?hl6 hi20 (by omega) ?kk6
  case hs6 => exact fun b' o' e' => F.keep _ _ e'
  case hd6 => (simp only [depth_deeper, AA] at *); omega
  case hl6 => exact ⟨oa20, (N (a20, oa20) (by k_mem)).1, ca20, na20, da20⟩
  intro h21 tk21 a21 ws21 st21 hn21 hl21 hi21
  obtain ⟨oa21, ha21, ca21, na21, da21⟩ := id hl21
  have fp21 := fresh_facts F hn21
  (rename Fr _ _ _ _ => F)
  (rename News _ _ _ _ => N)
  have F' := fr_ext F st21
  have N' := news_ext N st21
  clear F N
  have F := F'
  have N := N'
  clear F' N'
  have N' := news_cons N ha21 fp21
  clear N
  have N := N'
  clear N'
  (try dsimp only)
  repeat' ((fail_if_success (with_reducible show Exists _)); (fail_if_success (with_reducible show wpAny _ _ (call (Value.ref _) _) _ _ _)); first | (k_unfold; (try dsimp only)) | (walk1; (try ((fail_if_success (with_reducible show wpAny _ _ (subscriptTail _ _ (Value.ref _) (Value.ref _)) _ _ _)); dsimp only))) | (dsimp only; walk1; (try ((fail_if_success (with_reducible show wpAny _ _ (subscriptTail _ _ (Value.ref _) (Value.ref _)) _ _ _)); dsimp only))) | (leave1; (try dsimp only)))
  (rename Fr _ _ _ _ => F)
  (rename News _ _ _ _ => N)
  refine' spelled_spec HB da M2 T2.1 ?hs7 ?hd7 _ _ (grA.gram (N (da, om2) (by k_mem)).1 fun a o hK => hK.elim (F.keep _ _) fun hm => (N (a, o) (.tail _ (.tail _ (.tail _ (.tail _ (.tail _ (.tail _ (.tail _ (.tail _ (.tail _ hm)))))))))).1) U2 (by omega) ?kk7
  case hs7 => exact fun b' o' e' => F.keep _ _ e'
  case hd7 => (simp only [depth_deeper, AA] at *); omega
  intro h22 tk22 a22 ws22 st22 hn22 hl22 hi22
  obtain ⟨oa22, ha22, ca22, na22, da22⟩ := id hl22
  have fp22 := fresh_facts F hn22
  (rename Fr _ _ _ _ => F)
  (rename News _ _ _ _ => N)
  have F' := fr_ext F st22
  have N' := news_ext N st22
  clear F N
  have F := F'
  have N := N'
  clear F' N'
  have N' := news_cons N ha22 fp22
  clear N
  have N := N'
  clear N'
  (try dsimp only)
  repeat' ((fail_if_success (with_reducible show Exists _)); (fail_if_success (with_reducible show wpAny _ _ (call (Value.ref _) _) _ _ _)); first | (k_unfold; (try dsimp only)) | (walk1; (try ((fail_if_success (with_reducible show wpAny _ _ (subscriptTail _ _ (Value.ref _) (Value.ref _)) _ _ _)); dsimp only))) | (dsimp only; walk1; (try ((fail_if_success (with_reducible show wpAny _ _ (subscriptTail _ _ (Value.ref _) (Value.ref _)) _ _ _)); dsimp only))) | (leave1; (try dsimp only)))
  (rename Fr _ _ _ _ => F)
  (rename News _ _ _ _ => N)
  refine' bared_spec HB ?hs8 rfl ?hd8 a22 ws22 T2.1.leaves ?hl8 hi22 (by omega) ?kk8
  case hs8 => exact fun b' o' e' => F.keep _ _ e'
  case hd8 => (simp only [depth_deeper, AA] at *); omega
  case hl8 => exact ⟨oa22, (N (a22, oa22) (by k_mem)).1, ca22, na22, da22⟩
  intro h23 tk23 a23 ws23 st23 hn23 hl23 hi23
  obtain ⟨oa23, ha23, ca23, na23, da23⟩ := id hl23
  have fp23 := fresh_facts F hn23
  (rename Fr _ _ _ _ => F)
  (rename News _ _ _ _ => N)
  have F' := fr_ext F st23
  have N' := news_ext N st23
  clear F N
  have F := F'
  have N := N'
  clear F' N'
  have N' := news_cons N ha23 fp23
  clear N
  have N := N'
  clear N'
  (try dsimp only)
  repeat' ((fail_if_success (with_reducible show Exists _)); (fail_if_success (with_reducible show wpAny _ _ (compareOp _ _ _) _ _ _)); first | (k_unfold; (try dsimp only)) | (walk1; (try ((fail_if_success (with_reducible show wpAny _ _ (subscriptTail _ _ (Value.ref _) (Value.ref _)) _ _ _)); dsimp only))) | (dsimp only; walk1; (try ((fail_if_success (with_reducible show wpAny _ _ (subscriptTail _ _ (Value.ref _) (Value.ref _)) _ _ _)); dsimp only))) | (leave1; (try dsimp only)))
  (rename Fr _ _ _ _ => F)
  (rename News _ _ _ _ => N)
  rename_i lr2 _ lrl
  refine rows_eq (xs1 := ws16) (xs2 := ws18) (ys1 := ws21) (ys2 := ws23) ⟨_, (N (_, W.listOf #[.ref a16, .ref a18] 0) (by k_mem)).1, rfl, _, rfl⟩ ⟨_, (N (_, W.listOf #[.ref a21, .ref a23] 0) (by k_mem)).1, rfl, _, rfl⟩ ⟨oa16, (N (a16, oa16) (by k_mem)).1, ca16, na16, da16⟩ ⟨oa18, (N (a18, oa18) (by k_mem)).1, ca18, na18, da18⟩ ⟨oa21, (N (a21, oa21) (by k_mem)).1, ca21, na21, da21⟩ ⟨oa23, (N (a23, oa23) (by k_mem)).1, ca23, na23, da23⟩ hi16 hi18 hi21 hi23 ?hun9 ?_
  case hun9 => simp only [units_deeper, AA]; omega
  have tail_in : ∀ a o, (a, o) ∈ ext7 → _ := fun a o hm => (N (a, o) (by repeat (first | exact hm | refine .tail _ ?_))).1
  exact kk _ _ _ F (tab_out k51 (N (51, tabObj u51) (by k_mem)).1 fun a o hK _ _ => hK.elim (F.keep _ _) (tail_in a o)) (tab_out k58 (N (58, tabObj r58) (by k_mem)).1 fun a o hK _ _ => hK.elim (F.keep _ _) (tail_in a o))
end
end Mine
end

section
open PySem PySem.W PySem.Spec PySem.Calls PyProof.Rows
set_option maxRecDepth 100000
set_option maxHeartbeats 1000000
namespace Mine
theorem news_lt {g h : Heap} {L : Addr} {news : List (Addr × Obj)} (N : News g L h news) : ∀ p ∈ news, p.1 < h.objs.size := fun p hp => Heap.lt_size (N p hp).1
theorem getD_nonneg {l : List Int} (h : ∀ x ∈ l, 0 ≤ x) (i : Nat) : 0 ≤ l.getD i 0 := by
  rw [List.getD_eq_getElem?_getD]
  cases e : l[i]? with
  | none => exact Int.le_refl _
  | some x => exact h x (List.mem_of_getElem? e)
theorem sum_nonneg : ∀ {l : List Int}, (∀ x ∈ l, 0 ≤ x) → 0 ≤ l.sum
  | [], _ => Int.le_refl _
  | x :: l, h => by rw [List.sum_cons]; exact Int.add_nonneg (h x (.head _)) (sum_nonneg fun y hy => h y (.tail _ hy))
theorem mem_pick {ns : List Int} {lo hi st : Option Int} {x : Int} (h : x ∈ pickNums ns lo hi st) : x ∈ ns := by
  obtain ⟨i, _, e⟩ := List.mem_filterMap.mp h
  exact List.mem_of_getElem? e
theorem ints_ten {vs : List Value} {ns : List Int} (h : IntsAre vs ns) (e : ns.length = 10) : ∃ d0 d1 d2 d3 d4 d5 d6 d7 d8 d9 t0 t1 t2 t3 t4 t5 t6 t7 t8 t9, vs = [.int d0 t0, .int d1 t1, .int d2 t2, .int d3 t3, .int d4 t4, .int d5 t5, .int d6 t6, .int d7 t7, .int d8 t8, .int d9 t9] ∧ ns = [d0, d1, d2, d3, d4, d5, d6, d7, d8, d9] := by
  match ns, e with
  | [d0, d1, d2, d3, d4, d5, d6, d7, d8, d9], _ =>
    obtain ⟨t0, v0, rfl, h0⟩ := h.cons_inv
    obtain ⟨t1, v1, rfl, h1⟩ := h0.cons_inv
    obtain ⟨t2, v2, rfl, h2⟩ := h1.cons_inv
    obtain ⟨t3, v3, rfl, h3⟩ := h2.cons_inv
    obtain ⟨t4, v4, rfl, h4⟩ := h3.cons_inv
    obtain ⟨t5, v5, rfl, h5⟩ := h4.cons_inv
    obtain ⟨t6, v6, rfl, h6⟩ := h5.cons_inv
    obtain ⟨t7, v7, rfl, h7⟩ := h6.cons_inv
    obtain ⟨t8, v8, rfl, h8⟩ := h7.cons_inv
    obtain ⟨t9, v9, rfl, h9⟩ := h8.cons_inv
    obtain rfl := h9.nil_inv
    exact ⟨_, _, _, _, _, _, _, _, _, _, _, _, _, _, _, _, _, _, _, _, rfl, rfl⟩
section
variable {prog : Program} {w : World} {loose : List Str} {mean : ExcName → Option Value} {mg mb : Str → Option Value} {g : Heap}
set_option pp.maxSteps 6000
set_option pp.deepTerms false
theorem law_body (HB : Base w loose mean mg mb g) {dp un : Nat} {fr : Option (List Env)} {gd : Option (List Code)} {s : Shared} {Q : Flow → Shared → Prop} {E : Value → Shared → Prop} (hd : dp + 300 < recursionLimit) (hun : un + 100 < cLine)
    {name : Str} {prs : Arguments} {body : List Stmt} {scope : Scope} (hT : textOf (Mine.hd.heap_39 w.params) 110 = some (name, prs, body, scope)) {L fa al : Addr} {cd : Value} {o1 o2 : Obj} {vs : List Value} {ns : List Int} (lifted : g.IsList al vs.toArray) (hI : IntsAre vs ns) (hn : ns.length ≤ 63)
    (F : Fr g L s.heap (fun y => if y = Str.ofString "script" then some (.ref al) else none)) (d2 : o2.data = .cell none) (d1 : o1.data = .cell none) (l0 : 58 < L ∧ 51 < L)
    (N : News g L s.heap [(L + 1 + 1, o2), (L + 1, o1), (58, tabObj #[]), (51, tabObj #[])])
    (kk : ∀ h' tk' m', Fr g L h' m' → TabSt h' 51 41 4 qI → TabSt h' 58 56 4 qD → Q (.ret (.bool true)) { s with heap := h', toks := tk' }) :
    wpAny (model prog w) ((AA dp un fr gd).deeper (envOfC name scope L fa cd)) (execs body (envOfC name scope L fa cd)) Q E s := by
  have hT' := law_text (P := w.params) rfl hT
  cases hT'
  clear hT
  have X := HB.X
  have T := HB.T
  have hb : g.StaysIn g := fun _ _ e => e
  (with_reducible show wpAny _ _ _ _ _ _)
  (try k_fold)
  repeat' ((fail_if_success (with_reducible show Exists _)); (fail_if_success (with_reducible show wpAny _ _ (eval (PySem.Expr.ListComp _ _ _ _) _) _ _ _)); first | (k_unfold; (try dsimp only)) | (walk1; (try ((fail_if_success (with_reducible show wpAny _ _ (subscriptTail _ _ (Value.ref _) (Value.ref _)) _ _ _)); dsimp only))) | (dsimp only; walk1; (try ((fail_if_success (with_reducible show wpAny _ _ (subscriptTail _ _ (Value.ref _) (Value.ref _)) _ _ _)); dsimp only))) | (leave1; (try dsimp only)))
  (walk1; (try dsimp only))
  repeat' ((fail_if_success (with_reducible show Exists _)); (fail_if_success (with_reducible show wpAny _ _ (eval (PySem.Expr.ListComp _ _ _ _) _) _ _ _)); (fail_if_success (with_reducible show wpAny _ _ (exec (Stmt.Assign _ _ _) _) _ _ _)); first | (k_unfold; (try dsimp only)) | (walk1; (try ((fail_if_success (with_reducible show wpAny _ _ (subscriptTail _ _ (Value.ref _) (Value.ref _)) _ _ _)); dsimp only))) | (dsimp only; walk1; (try ((fail_if_success (with_reducible show wpAny _ _ (subscriptTail _ _ (Value.ref _) (Value.ref _)) _ _ _)); dsimp only))) | (leave1; (try dsimp only)))
  rename_i cws _ _ _ _ _ _ _ _ _ ys cYs _ cD _ _ _ _ _ h₂ oc F N dc
  have hcs : ∀ x ∈ List.map (fun k' : Int => k'.fmod (10 ^ Int.toNat 6)) (List.take 20 ns), 0 ≤ x := by
    intro x hx
    obtain ⟨y, _, rfl⟩ := List.mem_map.mp hx
    exact Int.fmod_nonneg_of_pos y (by decide)
  have hcl : (List.map (fun k' : Int => k'.fmod (10 ^ Int.toNat 6)) (List.take 20 ns)).length ≤ 20 := by simp; omega
  generalize List.map (fun k' : Int => k'.fmod (10 ^ Int.toNat 6)) (List.take 20 ns) = cs at *
  refine wpAny_Assign_Name ?_
  refine' ListComp_enum (h₀ := g) (L := L) (m := fun y => if y = Str.ofString "script" then some (.ref al) else none) ?hh1 ?hclos1 ?hcell1 ?hkind1 ?hnames1 ?hxa1 ?hxb1 ?hab1 ?_
  case hh1 => rfl
  case hclos1 => with_unfolding_all rfl
  case hcell1 => decide
  case hkind1 => rfl
  case hnames1 => decide
  case hxa1 => rfl
  case hxb1 => rfl
  case hab1 => decide
  have N' := news_sub (news' := [(cD, LCg.lst ys), (L + 1 + 1, o2), (L + 1, oc), (58, tabObj #[]), (51, tabObj #[])]) N (by simp)
  clear N
  have N := N'
  clear N'
  repeat' ((fail_if_success (with_reducible show Exists _)); (fail_if_success (with_reducible show wpAny _ _ (call (Value.type "enumerate") _) _ _ _)); first | (k_unfold; (try dsimp only)) | (walk1; (try ((fail_if_success (with_reducible show wpAny _ _ (subscriptTail _ _ (Value.ref _) (Value.ref _)) _ _ _)); dsimp only))) | (dsimp only; walk1; (try ((fail_if_success (with_reducible show wpAny _ _ (subscriptTail _ _ (Value.ref _) (Value.ref _)) _ _ _)); dsimp only))) | (leave1; (try dsimp only)))
  (rename Fr _ _ _ _ => F)
  (rename News _ _ _ _ => N)
  rename_i ll _ _
  refine call_enumerate_list ⟨_, (N _ (.head _)).1, rfl, _, rfl⟩ ?_
  intro h₃ hE hJ hsz hk
  have hlt := news_lt N
  refine ⟨_, _, ll, _, _, _, _, fun i ys => ∃ ns : List Int, IntsAre ys ns ∧ ns.length = i ∧ ∀ x ∈ ns, 0 ≤ x, rfl, F.keeps hk, N.grown hk, hE, hJ, .head _, rfl, rfl, Nat.succ_ne_self _, fun p hp => ⟨Nat.ne_of_lt (Nat.lt_succ_of_lt (hlt p hp)), Nat.ne_of_lt (hlt p hp)⟩, Nat.ne_of_lt (Nat.lt_succ_of_lt F.ns.lt), Nat.ne_of_lt F.ns.lt, Heap.get?_none_of_le (Nat.le_of_lt (Nat.lt_succ_of_lt (Nat.lt_of_le_of_lt F.above F.ns.lt))), next_is_new F, Nat.le_trans (m := 10) (Nat.le_refl _) (by decide), ⟨[], .nil, rfl, fun _ h => by cases h⟩, ?_, ?_⟩
  · clear hE hJ hsz hk F N
    intro i v t I oI J oJ C oC D m₂ h tk ys' E' hv ⟨ns', hi', hl', hnn⟩ hoC ha hb F N off ne
    obtain ⟨tv, rfl⟩ := (IntsAre.int_at (ns := [0, 3, 0, 7, 4, 0, 1, 16, 0, 9]) (by repeat constructor) i v hv)
    simp only [LCg.Off3, and_true] at off
    repeat' ((fail_if_success (with_reducible show Exists _)); (fail_if_success (with_reducible show wpAny _ _ (call (Value.builtin "sum") _) _ _ _)); first | (k_unfold; (try dsimp only)) | (walk1; (try ((fail_if_success (with_reducible show wpAny _ _ (subscriptTail _ _ (Value.ref _) (Value.ref _)) _ _ _)); dsimp only))) | (dsimp only; walk1; (try ((fail_if_success (with_reducible show wpAny _ _ (subscriptTail _ _ (Value.ref _) (Value.ref _)) _ _ _)); dsimp only))) | (leave1; (try dsimp only)))
    (rename Fr _ _ _ _ => F)
    (rename News _ _ _ _ => N)
    refine LSm.sum_ints F N rfl (vs := (slicePick ys.toArray (some (i : Int)) none (some 10)).toList) (by rw [Array.toArray_toList]; exact ⟨_, (N _ (.head _)).1, rfl, _, rfl⟩) (cYs.pick _ _ _) ?_
    clear F N
    intro h5 tk5 t5 F N
    dsimp only
    repeat' ((fail_if_success (with_reducible show Exists _)); first | (k_unfold; (try dsimp only)) | (walk1; (try ((fail_if_success (with_reducible show wpAny _ _ (subscriptTail _ _ (Value.ref _) (Value.ref _)) _ _ _)); dsimp only))) | (dsimp only; walk1; (try ((fail_if_success (with_reducible show wpAny _ _ (subscriptTail _ _ (Value.ref _) (Value.ref _)) _ _ _)); dsimp only))) | (leave1; (try dsimp only)))
    refine LCg.CompEnd.intro F N _ (fun p hp => .tail _ hp) (by simp only [LCg.Off3, and_true]; exact off) (fun p hp => hp) ?_
    refine ⟨ns' ++ [_], hi'.append (.cons _ _ .nil), by simp [hl'], fun x hx => ?_⟩
    rcases List.mem_append.mp hx with hx | hx
    · exact hnn _ hx
    · rw [List.mem_singleton.mp hx]
      refine Int.add_nonneg (getD_nonneg (by decide) _) (sum_nonneg fun y hy => hcs _ (mem_pick hy))
  · clear hE hJ hsz hk F N hlt
    intro D h tk ysd ⟨ds, hid, hld, hnd⟩ F N off
    dsimp only
    have N' := news_sub (news' := [(D, LCg.lst ysd), (L + 1 + 1, o2), (L + 1, oc), (58, tabObj #[]), (51, tabObj #[])]) N (by simp)
    replace hld : ds.length = 10 := hld
    clear N off
    have N := N'
    clear N'
    repeat' ((fail_if_success (with_reducible show Exists _)); (fail_if_success (with_reducible show wpAny _ _ (exec (Stmt.Assign _ _ _) _) _ _ _)); first | (k_unfold; (try dsimp only)) | (walk1; (try ((fail_if_success (with_reducible show wpAny _ _ (subscriptTail _ _ (Value.ref _) (Value.ref _)) _ _ _)); dsimp only))) | (dsimp only; walk1; (try ((fail_if_success (with_reducible show wpAny _ _ (subscriptTail _ _ (Value.ref _) (Value.ref _)) _ _ _)); dsimp only))) | (leave1; (try dsimp only)))
    obtain ⟨d0, d1, d2, d3, d4, d5, d6, d7, d8, d9, t0, t1, t2, t3, t4, t5, t6, t7, t8, t9, rfl, rfl⟩ := ints_ten hid hld
    rename_i h₄ od F N dd
    refine' Assign_DictComp_cell (h₀ := g) (L := L) (m := fun y => if y = Str.ofString "script" then some (Value.ref al) else none) (n := 4) ?hh2 ?hLe2 ?hsw2 ?hy2 ?hp2 ?hclos2 ?hkind2 ?hnames2 ?hxc2 ?hcf2 ?hpc2 ?hn2 ?hsm2 ?_
    case hh2 => rfl
    case hLe2 => rfl
    case hsw2 => with_unfolding_all rfl
    case hy2 => rfl
    case hp2 => rfl
    case hclos2 => with_unfolding_all rfl
    case hkind2 => rfl
    case hnames2 => decide
    case hxc2 => rfl
    case hcf2 => intro _; rfl
    case hpc2 => intro _; rfl
    case hn2 => decide
    case hsm2 => decide
    repeat' ((fail_if_success (with_reducible show Exists _)); first | (k_unfold; (try dsimp only)) | (walk1; (try ((fail_if_success (with_reducible show wpAny _ _ (subscriptTail _ _ (Value.ref _) (Value.ref _)) _ _ _)); dsimp only))) | (dsimp only; walk1; (try ((fail_if_success (with_reducible show wpAny _ _ (subscriptTail _ _ (Value.ref _) (Value.ref _)) _ _ _)); dsimp only))) | (leave1; (try dsimp only)))
    (rename Fr _ _ _ _ => F)
    (rename News _ _ _ _ => N)
    rename IsRange _ _ _ _ _ _ _ _ => hrange
    refine ⟨_, _, _, _, [(D, _), (L + 1 + 1, _), (L + 1, oc), (58, tabObj #[]), (51, tabObj #[])], fun i kvs acc => RuleInv [d0, d1, d2, d3, d4, d5, d6, d7, d8, d9] i kvs acc, rfl, hrange, F, N, RuleInv.zero _, fun i kvs acc h => h.1, ?_, ?_⟩
    · clear hrange F N
      intro i t I oI C oC cc oc' D' oD m₂ h tk acc kvs E' hi hInv hoC doc F N hK hacc hDC hCcc
      dsimp only [List.cons_append, List.nil_append] at N
      repeat' ((fail_if_success (with_reducible show Exists _)); (fail_if_success (with_reducible show wpAny _ _ (eval (PySem.Expr.ListComp _ _ _ _) _) _ _ _)); first | (k_unfold; (try dsimp only)) | (walk1; (try ((fail_if_success (with_reducible show wpAny _ _ (subscriptTail _ _ (Value.ref _) (Value.ref _)) _ _ _)); dsimp only))) | (dsimp only; walk1; (try ((fail_if_success (with_reducible show wpAny _ _ (subscriptTail _ _ (Value.ref _) (Value.ref _)) _ _ _)); dsimp only))) | (leave1; (try dsimp only)))
      (walk1; (try dsimp only))
      · skip
        repeat' ((fail_if_success (with_reducible show Exists _)); (fail_if_success (with_reducible show wpAny _ _ (call (Value.ref _) _) _ _ _)); first | (k_unfold; (try dsimp only)) | (walk1; (try ((fail_if_success (with_reducible show wpAny _ _ (subscriptTail _ _ (Value.ref _) (Value.ref _)) _ _ _)); dsimp only))) | (dsimp only; walk1; (try ((fail_if_success (with_reducible show wpAny _ _ (subscriptTail _ _ (Value.ref _) (Value.ref _)) _ _ _)); dsimp only))) | (leave1; (try dsimp only)))
        (rename Fr _ _ _ _ => F)
        (rename News _ _ _ _ => N)
        refine' law_part_spec ?HB285 ?hs285 ?hd285 _ _ _ _ (Int.natCast_nonneg i) ?kk285
        case HB285 => assumption
        case hs285 => exact fun b' o' e' => Fr.keep (by assumption) _ _ (hb _ _ e')
        case hd285 => (simp only [depth_deeper, AA] at *); omega
        intro h3 tk3 t3 st3
        (rename Fr _ _ _ _ => F)
        (rename News _ _ _ _ => N)
        have F' := fr_ext F st3
        have N' := news_ext N st3
        clear F N
        have F := F'
        have N := N'
        clear F' N'
        (try dsimp only)
        repeat' ((fail_if_success (with_reducible show Exists _)); first | (k_unfold; (try dsimp only)) | (walk1; (try ((fail_if_success (with_reducible show wpAny _ _ (subscriptTail _ _ (Value.ref _) (Value.ref _)) _ _ _)); dsimp only))) | (dsimp only; walk1; (try ((fail_if_success (with_reducible show wpAny _ _ (subscriptTail _ _ (Value.ref _) (Value.ref _)) _ _ _)); dsimp only))) | (leave1; (try dsimp only)))
      · skip
        repeat' ((fail_if_success (with_reducible show Exists _)); first | (k_unfold; (try dsimp only)) | (walk1; (try ((fail_if_success (with_reducible show wpAny _ _ (subscriptTail _ _ (Value.ref _) (Value.ref _)) _ _ _)); dsimp only))) | (dsimp only; walk1; (try ((fail_if_success (with_reducible show wpAny _ _ (subscriptTail _ _ (Value.ref _) (Value.ref _)) _ _ _)); dsimp only))) | (leave1; (try dsimp only)))
        (rename Fr _ _ _ _ => F)
        (rename News _ _ _ _ => N)
        rename_i hI8 hB8 hL8 Dn hn' tkn offn
        have hI9 : IntsAre ys [lawPart ([d0, d1, d2, d3, d4, d5, d6, d7, d8, d9].getD (2 * i) 0) i, lawPart ([d0, d1, d2, d3, d4, d5, d6, d7, d8, d9].getD (2 * i + 1) 0) i] := by
          have hi4 : i = 0 ∨ i = 1 ∨ i = 2 ∨ i = 3 := by omega
          rcases hi4 with rfl | rfl | rfl | rfl <;> exact hI8
        obtain ⟨tx, v1, rfl, h1⟩ := hI9.cons_inv
        obtain ⟨ty, v2, rfl, h2⟩ := h1.cons_inv
        obtain rfl := h2.nil_inv
        refine ⟨256 + (i : Int), _, _, (Dn, LCg.lst [Value.int _ tx, Value.int _ ty]) :: acc, intKind_is prog w _ _, rfl, F, news_sub N ?_, ?_, RuleInv.step (tx := tx) (ty := ty) (nl := 2) hInv rfl rfl⟩
        · intro p hp
          simp only [List.cons_append, List.nil_append, List.mem_cons] at hp ⊢
          rcases hp with h | h | h | h | h | h | h | h | h | h | h <;> first | exact .inl h | simp only [h, true_or, or_true]
        · intro p hp
          rcases List.mem_cons.mp hp with rfl | hp
          · exact ⟨Ne.symm offn.2.1, Ne.symm offn.2.2.2.2.1, Ne.symm offn.2.2.1, Ne.symm offn.2.2.2.1⟩
          · exact hacc p hp
    · clear hrange F N
      intro D' kvs acc h tk hInv F N hDo hD₀ hDL hDn
      obtain ⟨oR, eR, gr⟩ := hInv.grk hDo
      obtain ⟨t, U, hO, hdep, hlen, hnod⟩ := law_tree hnd
      have n58 : D' ≠ 58 := fun q => hDn (58, tabObj #[]) (by k_mem) q.symm
      have n51 : D' ≠ 51 := fun q => hDn (51, tabObj #[]) (by k_mem) q.symm
      have N3 := news_cons N eR ⟨hD₀, hDL⟩

      have W := fun od dd N => law_rest (s := { s with heap := h, toks := tk }) (Q := Q) (E := E) HB hd hun rfl (fa := fa) (cd := cd) (od := od) (D := D) (fr := fr) (gd := gd) (d0 := d0) (d1 := d1) (d2 := d2) (d3 := d3) (d4 := d4) (d5 := d5) (d6 := d6) (d7 := d7) (d8 := d8) (d9 := d9) (t0 := t0) (t1 := t1) (t2 := t2) (t3 := t3) (t4 := t4) (t5 := t5) (t6 := t6) (t7 := t7) (t8 := t8) (t9 := t9) F dd N (rulesOf [d0, d1, d2, d3, d4, d5, d6, d7, d8, d9]) gr n58 n51 t U hO hdep hlen hnod l0 kk
      exact W _ (by assumption) (news_sub N3 (by simp only [List.mem_cons, List.mem_append]; intro p hp; rcases hp with (h | h | h | h | h) | h | h <;> simp [h]))
end
end Mine
end

open PySem PySem.W PySem.Spec PySem.Calls PyProof.Rows
set_option maxRecDepth 100000
set_option maxHeartbeats 4000000
theorem PySem.Challenge.cw_we0010_01_holds : PySem.Challenge.rw_we0010_01.Holds := by
  exact Mine.hd (by
    k_go0
    (all_goals try k_fold)
    rename_i w s₀ s₁ mg mb G Y fa o pm cd doc ho hcd hg X V T B TE TW ns hs hlay hL1 hr1 hl2 w6 w5 al vs w2 hL ra w1 r0 hI hr hc1 hc2 hD h₁ tk₁ o2 o1 left right X0 X' T' K' F' cH1 N' l0
    have HB : Mine.Base w _ _ mg mb (ghostOf s₁.heap [(62, 58), (55, 51)]) := ⟨X', T', cH1, codeHd, (N' (58, tabObj #[]) (by k_mem)).2.2, (N' (51, tabObj #[]) (by k_mem)).2.2⟩
    have F1 := Mine.fr_congr F' fun y => Mine.bindL_one rfl
    dsimp only [callerA]
    refine Mine.law_body HB (dp := _) (un := _) (fr := _) (gd := _) ?ha ?hb rfl lifted hI (by omega) F1 left right l0 N' ?kk
    case ha => decide
    case hb => decide
    intro h' tk' m' F T51 T58
    clear HB F1 left right X0 F' N' ho hcd hD
    dsimp only
    refine ⟨?_, ?_⟩
    · close_w
    · exact ⟨⟨_, T58.choose_spec.1⟩, ⟨_, T51.choose_spec.1⟩, True.intro⟩)
