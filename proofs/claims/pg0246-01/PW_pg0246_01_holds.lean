import PyProof.Rows.All
import Wide.All
import OpenK.AllK
import Wide.FinOn
import Lean
import PySem.Challenge.RW_pg0246_01
set_option Elab.async false
set_option maxRecDepth 100000
set_option maxHeartbeats 8000000
section
open PySem PySem.W PyProof.Rows
set_option maxHeartbeats 8000000
namespace Mine
theorem lawSaid : OpenLaw.wellSaid PySem.Challenge.rw_pg0246_01 = true := by
  rw [PySem.W.Fast.te9446332074065402090]
  kernel_rfl
structure HeadMark : Prop
theorem pairH {p q : Prop} (hl : p) (main9 : q) : q := (fun _ => main9) hl
section
local macro_rules | `(tactic| o_law) => `(tactic| (refine holds_law lawSaid fun said9 => ?_))
set_option hygiene false in
local macro_rules | `(tactic| k_head) => `(tactic| ((fail_if_success (rename HeadMark => x9)); (have mk9 : HeadMark := HeadMark.mk); (apply pairH); (case' main9 => k_head); (case hl => (refine LeftO.of_split "special-get-raises" ?_; clear mk9; (rename _ = true => sd9); clear sd9; intro w; delta fencedOpening topFrom; (try rw [PySem.W.Fast.te10274390034422433532]); (try rw [PySem.W.Fast.te14082659384304107361]); (try rw [PySem.W.Fast.te14289696077712309145]); (try rw [PySem.W.Fast.te4187177175401517315]); (try rw [PySem.W.Fast.te1435165496053646825]); (try rw [PySem.W.Fast.te14364793385576792824]); (try rw [PySem.W.Fast.te5923862056798008813]); kernel_rfl))))
open_top hd for PySem.Challenge.rw_pg0246_01
end
end Mine
end
section
open PySem PySem.W PyProof.Rows
set_option maxHeartbeats 8000000
namespace Mine
theorem off_P1 : True := by
  w_top off
  k_with_none
  exact True.intro
abbrev Led := List (Addr × Obj)
/-- a call's contract: from any frame and ledger -/
def Ctr (w : World) (mean : ExcName → Option Value) (mg mb : Str → Option Value) (f : Addr) (dep uns : Nat) (news : Led) (vs : List Value) (R : Value → Led → Prop) : Prop :=
  ∀ (dp un : Nat) (gd : Option (List Code)) (cn : Str) (cs : Scope) (a : Addr) (ccd : Value) (cl : List (Str × Addr)) (outer : List Env) (A₀ : Around) (base h₀ : Heap) (L : Addr) (m : Str → Option Value) (s : Shared) (Q E : Value → Shared → Prop),
    Below A₀ base outer h₀ → Fr h₀ L s.heap m → (Mine.hd.heap_1 w.params).In h₀ → News h₀ L s.heap news → Top Mine.hd.view_1 (looseW Mine.hd.view_1 [Str.ofString "Whitespace"]) mean mg mb h₀ → cs.kind = .function →
    dp + dep < recursionLimit → un + uns < cLine →
    (∀ (v : Value) (tl : Led) (h' : Heap) (tk' : Nat), Fr h₀ L h' m → News h₀ L h' (tl ++ news) → OwnOff tl (news.map (·.1)) → R v tl → Q v { s with heap := h', toks := tk' }) →
      wpAny (model PySem.Challenge.rw_pg0246_01.row.prog w) (ktrTop dp un gd cn cs L a ccd cl outer) (call (.ref f) vs) Q E s

def spelled (hand : Int) : Str :=
  if hand = 0 then Str.ofString "&<>" else if hand = 1 then Str.ofString "&<>\r" else if hand = 2 then Str.ofString "&<>\"\r\n\t" else if hand = 3 then Str.ofString "&>\"" else Str.ofString "&<\"\r\n\t"


section
variable {w : World} {mean : ExcName → Option Value} {mg mb : Str → Option Value}
theorem Ctr.use {f : Addr} {dep uns : Nat} {news : Led} {vs : List Value} {R : Value → Led → Prop} (c : Ctr w mean mg mb f dep uns news vs R)
    {dp un : Nat} {gd : Option (List Code)} {cn : Str} {cs : Scope} {a : Addr} {ccd : Value} {cl : List (Str × Addr)} {outer : List Env} {A₀ : Around} {base h₀ : Heap} {L : Addr} {m : Str → Option Value} {s : Shared} {Q E : Value → Shared → Prop}
    (B : Below A₀ base outer h₀) (F : Fr h₀ L s.heap m) (X : (Mine.hd.heap_1 w.params).In h₀) (N : News h₀ L s.heap news) (T : Top Mine.hd.view_1 (looseW Mine.hd.view_1 [Str.ofString "Whitespace"]) mean mg mb h₀) (hk : cs.kind = .function)
    (hd : dp + dep < recursionLimit) (hu : un + uns < cLine)
    (hret : ∀ (v : Value) (tl : Led) (h' : Heap) (tk' : Nat), Fr h₀ L h' m → News h₀ L h' (tl ++ news) → OwnOff tl (news.map (·.1)) → R v tl → Q v { s with heap := h', toks := tk' }) :
    wpAny (model PySem.Challenge.rw_pg0246_01.row.prog w) (ktrTop dp un gd cn cs L a ccd cl outer) (call (.ref f) vs) Q E s :=
  c _ _ _ _ _ _ _ _ _ _ _ _ _ _ _ _ _ B F X N T hk hd hu hret
/-- an end of a contract's walk that made nothing -/
theorem ret0 {h₀ : Heap} {L : Addr} {m : Str → Option Value} {s : Shared} {Q : Value → Shared → Prop} {news : Led} {R : Value → Led → Prop}
    (hret : ∀ (v : Value) (tl : Led) (h' : Heap) (tk' : Nat), Fr h₀ L h' m → News h₀ L h' (tl ++ news) → OwnOff tl (news.map (·.1)) → R v tl → Q v { s with heap := h', toks := tk' })
    {v : Value} {h' : Heap} {tk' : Nat} (F : Fr h₀ L h' m) (N : News h₀ L h' news) (hR : R v []) : Q v { s with heap := h', toks := tk' } :=
  hret v [] h' tk' F N (fun _ hp => nomatch hp) hR

theorem ctr_spelled (news : Led) (hand : Int) (t : Tok) :
    Ctr w mean mg mb 136 1 8 news [.int hand t] (fun v tl => tl = [] ∧ ∃ t', v = .str (spelled hand) t') := by
  unfold Ctr
  k_fill
  intro dp un gd cn cs a ccd cl outer A₀ base h₀ L m s Q E B F X N T hk hd hu hret
  refine wpAny_call ?_
  cell_enter
  k_steps
  all_goals (refine' ret0 hret (by assumption) (by assumption) ⟨rfl, _, congrArg (fun z => Value.str z _) ?_⟩; unfold spelled; (repeat' split) <;> first | rfl | omega)
end
end Mine
end
section
open PySem PySem.W PyProof.Rows
set_option maxHeartbeats 8000000
namespace Mine
theorem off_W1 : True := by
  w_top off
  k_with_none
  exact True.intro

/-! texts: one sign replaced by a word -/
open Builtin.Str in
theorem replace_list (x c z : Str) (n : Nat) (hc : c = ⟨#[n]⟩) : (Txt.replace x c z).cps.toList = x.cps.toList.flatMap (fun k => if k = n then z.cps.toList else [k]) := by
  subst hc
  have key : ∀ parts : List Str, (∀ p ∈ parts, n ∉ p.cps.toList) → (Str.join z parts).cps.toList = (Str.join ⟨#[n]⟩ parts).cps.toList.flatMap (fun k => if k = n then z.cps.toList else [k]) := by
    have free : ∀ l : List Nat, n ∉ l → l.flatMap (fun k => if k = n then z.cps.toList else [k]) = l := by
      intro l
      induction l with
      | nil => intro _; rfl
      | cons a r ih =>
        intro h
        have h1 : ¬ a = n := fun e => h (e ▸ List.mem_cons_self ..)
        rw [List.flatMap_cons, if_neg h1, ih (fun m => h (List.mem_cons_of_mem _ m))]
        rfl
    intro parts
    induction parts with
    | nil => intro _; rfl
    | cons p r ih =>
      intro h
      cases r with
      | nil => exact (free _ (h p (List.mem_singleton.mpr rfl))).symm
      | cons q r =>
        have ih' := ih fun a ha => h a (List.mem_cons_of_mem _ ha)
        show (p ++ z ++ Str.join z (q :: r)).cps.toList = (p ++ ⟨#[n]⟩ ++ Str.join ⟨#[n]⟩ (q :: r)).cps.toList.flatMap _
        simp only [Str.cps_append, Array.toList_append, List.flatMap_append]
        rw [ih', free _ (h p (List.mem_cons_self ..))]
        simp
  rw [StrLaws.replace_one, key _ (StrLaws.split_free x n), StrLaws.join_split]
open Builtin.Str in
theorem replace_out (x c z : Str) (n : Nat) (hc : c = ⟨#[n]⟩) (h : (occurrences x c 0 x.length 1).isEmpty = true) : Txt.replace x c z = x := by
  have h1 := StrLaws.found_one x n
  have h0 := replace_list x c z n hc
  subst hc
  rw [h] at h1
  have h2 : n ∉ x.cps.toList := by simpa using h1
  refine Str.ext' (Array.toList_inj.mp ?_)
  rw [h0]
  generalize x.cps.toList = l at h2
  induction l with
  | nil => rfl
  | cons a r ih =>
    have h1 : ¬ a = n := fun e => h2 (e ▸ List.mem_cons_self ..)
    rw [List.flatMap_cons, if_neg h1, ih (fun m => h2 (List.mem_cons_of_mem _ m))]
    rfl
/-- the words for the signs that stand in the table -/
def ent (ps : List (Nat × List Nat)) (k : Nat) : List Nat := match ps.lookup k with
  | some e => e
  | none => [k]
def escT (ps : List (Nat × List Nat)) (x : Str) : Str := ⟨(x.cps.toList.flatMap (ent ps)).toArray⟩
theorem escT_nil (x : Str) : escT [] x = x := by
  refine Str.ext' (Array.toList_inj.mp ?_)
  show x.cps.toList.flatMap (fun k => [k]) = x.cps.toList
  simp
theorem lookup_snoc (c k : Nat) (z : List Nat) : ∀ ps : List (Nat × List Nat), (ps ++ [(c, z)]).lookup k = (ps.lookup k).or (if k = c then some z else none)
  | [] => by
    simp only [List.nil_append, List.lookup_cons, List.lookup_nil, Option.none_or]
    by_cases h : k = c
    · simp [h]
    · have : (k == c) = false := by simpa using h
      rw [this, if_neg h]
  | (a, e) :: r => by
    simp only [List.cons_append, List.lookup_cons]
    cases k == a
    · exact lookup_snoc c k z r
    · rfl
theorem escT_step (ps : List (Nat × List Nat)) (x cs z : Str) (c : Nat) (zl : List Nat) (hc : cs = ⟨#[c]⟩) (hz : z.cps.toList = zl) (h1 : (ps.lookup c).isNone = true) (h2 : (ps.all fun p => !p.2.contains c) = true) :
    Txt.replace (escT ps x) cs z = escT (ps ++ [(c, zl)]) x := by
  refine Str.ext' (Array.toList_inj.mp ?_)
  rw [replace_list _ _ _ c hc, hz]
  show (x.cps.toList.flatMap (ent ps)).flatMap _ = x.cps.toList.flatMap (ent (ps ++ [(c, zl)]))
  rw [List.flatMap_assoc]
  congr 1
  funext k
  unfold ent
  rw [lookup_snoc]
  cases hk : ps.lookup k with
  | none =>
    simp only [Option.none_or]
    by_cases e : k = c
    · subst e; simp
    · simp [e]
  | some e =>
    simp only [Option.some_or]
    have hm : ∃ q, (q, e) ∈ ps := by
      clear h1 h2
      induction ps with
      | nil => cases hk
      | cons p r ih =>
        obtain ⟨a, b⟩ := p
        rw [List.lookup_cons] at hk
        cases hh : k == a
        · rw [hh] at hk; obtain ⟨q, hq⟩ := ih hk; exact ⟨q, .tail _ hq⟩
        · rw [hh] at hk; cases hk; exact ⟨a, .head _⟩
    obtain ⟨q, hq⟩ := hm
    have := List.all_eq_true.mp h2 _ hq
    have hce : c ∉ e := by simpa using this
    clear this hq hk
    induction e with
    | nil => rfl
    | cons a r ih =>
      have n1 : ¬ a = c := fun e' => hce (e' ▸ List.mem_cons_self ..)
      rw [List.flatMap_cons, if_neg n1, ih (fun m => hce (List.mem_cons_of_mem _ m))]
      rfl
theorem escT_length (ps : List (Nat × List Nat)) (x : Str) (h : (ps.all fun p => decide (p.2.length ≤ 6)) = true) : (escT ps x).length ≤ 6 * x.length := by
  show (x.cps.toList.flatMap (ent ps)).toArray.size ≤ 6 * x.cps.size
  rw [List.size_toArray, ← Array.length_toList]
  induction x.cps.toList with
  | nil => exact Nat.le_refl _
  | cons a r ih =>
    rw [List.flatMap_cons, List.length_append, List.length_cons]
    have : (ent ps a).length ≤ 6 := by
      unfold ent
      cases hk : ps.lookup a with
      | none => show [a].length ≤ 6; simp
      | some e =>
        show e.length ≤ 6
        clear ih
        induction ps with
        | nil => cases hk
        | cons p q ih =>
          obtain ⟨b, e'⟩ := p
          rw [List.all_cons, Bool.and_eq_true] at h
          rw [List.lookup_cons] at hk
          cases hh : a == b
          · rw [hh] at hk; exact ih h.2 hk
          · rw [hh] at hk; cases hk; simpa using h.1
    omega

theorem fr_coll {h₀ h : Heap} {L : Addr} {a : Str} {v u : Option Value} {m : Str → Option Value} (F : Fr h₀ L h (fun z => if z = a then v else if z = a then u else m z)) : Fr h₀ L h (fun z => if z = a then v else m z) := by
  have e : (fun z => if z = a then v else if z = a then u else m z) = fun z => if z = a then v else m z := by
    funext z; by_cases h : z = a <;> simp [h]
  rw [e] at F; exact F
/-- the end of one 'if': the text is turned, all else stands -/
def EndText (h₀ : Heap) (L : Addr) (m : Str → Option Value) (news : Led) (s : Shared) (y : Str) (f : Flow) (s' : Shared) : Prop :=
  ∃ h' tk t', f = .next ∧ s' = { s with heap := h', toks := tk } ∧ Fr h₀ L h' (fun z => if z = Str.ofString "text" then some (.str y t') else m z) ∧ News h₀ L h' news
theorem cut_if {M : Model} {A : Around} {E : Value → Shared → Prop} {Q : Flow → Shared → Prop} {s : Shared} {env : Env} {h₀ : Heap} {L : Addr} {m : Str → Option Value} {news : Led} {st : Stmt} {rest : List Stmt} {x : Str} {t : Tok} {ps : List (Nat × List Nat)} (cs z : Str) (c : Nat) (zl : List Nat)
    (F : Fr h₀ L s.heap m) (N : News h₀ L s.heap news) (hm : m (Str.ofString "text") = some (.str (escT ps x) t)) (hc : cs = ⟨#[c]⟩) (hz : z.cps.toList = zl) (h1 : (ps.lookup c).isNone = true) (h2 : (ps.all fun p => !p.2.contains c) = true) (h3 : (ps.all fun p => decide (p.2.length ≤ 6)) = true) (hx : x.length ≤ 100000)
    (step : Fr h₀ L s.heap (fun z => if z = Str.ofString "text" then some (.str (escT ps x) t) else m z) → (escT ps x).length ≤ 1048576 → wpAny M A (exec st env) (EndText h₀ L m news s (Txt.replace (escT ps x) cs z)) E s)
    (k : ∀ h' tk t', Fr h₀ L h' (fun y => if y = Str.ofString "text" then some (.str (escT (ps ++ [(c, zl)]) x) t') else m y) → News h₀ L h' news → wpAny M A (execs rest env) Q E { s with heap := h', toks := tk }) :
    wpAny M A (execs (st :: rest) env) Q E s := by
  have em : m = fun y => if y = Str.ofString "text" then some (.str (escT ps x) t) else m y := by
    funext y; by_cases e : y = Str.ofString "text"
    · rw [if_pos e, e, hm]
    · rw [if_neg e]
  have F' := F
  rw [em] at F'
  refine wpAny_execs_cons (wpAny_mono (step F' (Nat.le_trans (escT_length ps x h3) (by omega))) (fun f s' hq => ?_) fun _ _ e => e)
  obtain ⟨h', tk, t', rfl, rfl, Fr', Nw⟩ := hq
  rw [escT_step ps x cs z c zl hc hz h1 h2] at Fr'
  exact k h' tk t' Fr' Nw
abbrev pAmp : Nat × List Nat := (38, [38, 97, 109, 112, 59])
abbrev pLt : Nat × List Nat := (60, [38, 108, 116, 59])
abbrev pGt : Nat × List Nat := (62, [38, 103, 116, 59])
abbrev pQt : Nat × List Nat := (34, [38, 113, 117, 111, 116, 59])
abbrev pCr : Nat × List Nat := (13, [38, 35, 49, 51, 59])
abbrev pNl : Nat × List Nat := (10, [38, 35, 49, 48, 59])
abbrev pTb : Nat × List Nat := (9, [38, 35, 48, 57, 59])
abbrev pCrX : Nat × List Nat := (13, [38, 35, 120, 68, 59])
abbrev pNlX : Nat × List Nat := (10, [38, 35, 120, 65, 59])
abbrev pTbX : Nat × List Nat := (9, [38, 35, 120, 57, 59])
abbrev psC : List (Nat × List Nat) := [pAmp, pLt, pGt]
abbrev psA : List (Nat × List Nat) := [pAmp, pLt, pGt, pQt, pCr, pNl, pTb]
abbrev psH : List (Nat × List Nat) := [pAmp, pGt, pQt]
abbrev psD : List (Nat × List Nat) := [pAmp, pLt, pGt, pCrX]
abbrev psE : List (Nat × List Nat) := [pAmp, pLt, pQt, pTbX, pNlX, pCrX]
section
variable {w : World} {mean : ExcName → Option Value} {mg mb : Str → Option Value}
section
local macro_rules | `(tactic| walk_at "execs cons") => `(tactic| refine wpAny_execs_cons ?_)
local macro_rules | `(tactic| walk_at "execs nil") => `(tactic| refine wpAny_execs_nil ?_)
theorem ctr_cdata0 (news : Led) (x : Str) (t : Tok) (hx : x.length ≤ 100000) :
    Ctr w mean mg mb 94 1 8 news [.str (escT [] x) t] (fun v tl => tl = [] ∧ ∃ t', v = .str (escT psC x) t') := by
  unfold Ctr
  k_fill
  intro dp un gd cn cs a ccd cl outer A₀ base h₀ L m s Q E B F X N T hk hd hu hret
  refine wpAny_call ?_
  cell_enter
  walk1; walk1
  refine' cut_if (Str.ofString "&") (Str.ofString "&amp;") 38 [38, 97, 109, 112, 59] ?F ?N ?hm (by decide +kernel) (by decide +kernel) ?k1 ?k2 ?k3 hx ?_ ?_
  case F => assumption
  case N => assumption
  case hm => with_unfolding_all rfl
  case k1 => decide
  case k2 => decide
  case k3 => decide
  · intro F1 hl
    repeat' walk1
    · exact ⟨_, _, _, rfl, rfl, by rw [replace_out _ _ _ 38 (by decide +kernel) (by assumption)]; exact F1, by assumption⟩
    · exact ⟨_, _, _, rfl, rfl, fr_coll (by assumption), by assumption⟩
  intro h2 tk2 t2 F2 N2
  refine' cut_if (Str.ofString "<") (Str.ofString "&lt;") 60 [38, 108, 116, 59] ?F ?N ?hm (by decide +kernel) (by decide +kernel) ?k1 ?k2 ?k3 hx ?_ ?_
  case F => assumption
  case N => assumption
  case hm => with_unfolding_all rfl
  case k1 => decide
  case k2 => decide
  case k3 => decide
  · intro F1 hl
    repeat' walk1
    · exact ⟨_, _, _, rfl, rfl, by rw [replace_out _ _ _ 60 (by decide +kernel) (by assumption)]; exact F1, by assumption⟩
    · exact ⟨_, _, _, rfl, rfl, fr_coll (by assumption), by assumption⟩
  intro h2 tk2 t2 F2 N2
  refine' cut_if (Str.ofString ">") (Str.ofString "&gt;") 62 [38, 103, 116, 59] ?F ?N ?hm (by decide +kernel) (by decide +kernel) ?k1 ?k2 ?k3 hx ?_ ?_
  case F => assumption
  case N => assumption
  case hm => with_unfolding_all rfl
  case k1 => decide
  case k2 => decide
  case k3 => decide
  · intro F1 hl
    repeat' walk1
    · exact ⟨_, _, _, rfl, rfl, by rw [replace_out _ _ _ 62 (by decide +kernel) (by assumption)]; exact F1, by assumption⟩
    · exact ⟨_, _, _, rfl, rfl, fr_coll (by assumption), by assumption⟩
  intro h2 tk2 t2 F2 N2
  k_steps
  exact ret0 hret (by assumption) (by assumption) ⟨rfl, _, rfl⟩
theorem ctr_cdata (news : Led) (x : Str) (t : Tok) (hx : x.length ≤ 100000) :
    Ctr w mean mg mb 94 1 8 news [.str x t] (fun v tl => tl = [] ∧ ∃ t', v = .str (escT psC x) t') := by
  have h := ctr_cdata0 (w := w) (mean := mean) (mg := mg) (mb := mb) news x t hx
  rw [escT_nil] at h
  exact h

theorem ctr_attrib0 (news : Led) (x : Str) (t : Tok) (hx : x.length ≤ 100000) :
    Ctr w mean mg mb 101 1 8 news [.str (escT [] x) t] (fun v tl => tl = [] ∧ ∃ t', v = .str (escT psA x) t') := by
  unfold Ctr
  k_fill
  intro dp un gd cn cs a ccd cl outer A₀ base h₀ L m s Q E B F X N T hk hd hu hret
  refine wpAny_call ?_
  cell_enter
  walk1; walk1
  refine' cut_if (Str.ofString "&") (Str.ofString "&amp;") 38 [38, 97, 109, 112, 59] ?F ?N ?hm (by decide +kernel) (by decide +kernel) ?k1 ?k2 ?k3 hx ?_ ?_
  case F => assumption
  case N => assumption
  case hm => with_unfolding_all rfl
  case k1 => decide
  case k2 => decide
  case k3 => decide
  · intro F1 hl
    repeat' walk1
    · exact ⟨_, _, _, rfl, rfl, by rw [replace_out _ _ _ 38 (by decide +kernel) (by assumption)]; exact F1, by assumption⟩
    · exact ⟨_, _, _, rfl, rfl, fr_coll (by assumption), by assumption⟩
  intro h2 tk2 t2 F2 N2
  refine' cut_if (Str.ofString "<") (Str.ofString "&lt;") 60 [38, 108, 116, 59] ?F ?N ?hm (by decide +kernel) (by decide +kernel) ?k1 ?k2 ?k3 hx ?_ ?_
  case F => assumption
  case N => assumption
  case hm => with_unfolding_all rfl
  case k1 => decide
  case k2 => decide
  case k3 => decide
  · intro F1 hl
    repeat' walk1
    · exact ⟨_, _, _, rfl, rfl, by rw [replace_out _ _ _ 60 (by decide +kernel) (by assumption)]; exact F1, by assumption⟩
    · exact ⟨_, _, _, rfl, rfl, fr_coll (by assumption), by assumption⟩
  intro h2 tk2 t2 F2 N2
  refine' cut_if (Str.ofString ">") (Str.ofString "&gt;") 62 [38, 103, 116, 59] ?F ?N ?hm (by decide +kernel) (by decide +kernel) ?k1 ?k2 ?k3 hx ?_ ?_
  case F => assumption
  case N => assumption
  case hm => with_unfolding_all rfl
  case k1 => decide
  case k2 => decide
  case k3 => decide
  · intro F1 hl
    repeat' walk1
    · exact ⟨_, _, _, rfl, rfl, by rw [replace_out _ _ _ 62 (by decide +kernel) (by assumption)]; exact F1, by assumption⟩
    · exact ⟨_, _, _, rfl, rfl, fr_coll (by assumption), by assumption⟩
  intro h2 tk2 t2 F2 N2
  refine' cut_if (Str.ofString "\"") (Str.ofString "&quot;") 34 [38, 113, 117, 111, 116, 59] ?F ?N ?hm (by decide +kernel) (by decide +kernel) ?k1 ?k2 ?k3 hx ?_ ?_
  case F => assumption
  case N => assumption
  case hm => with_unfolding_all rfl
  case k1 => decide
  case k2 => decide
  case k3 => decide
  · intro F1 hl
    repeat' walk1
    · exact ⟨_, _, _, rfl, rfl, by rw [replace_out _ _ _ 34 (by decide +kernel) (by assumption)]; exact F1, by assumption⟩
    · exact ⟨_, _, _, rfl, rfl, fr_coll (by assumption), by assumption⟩
  intro h2 tk2 t2 F2 N2
  refine' cut_if (Str.ofString "\r") (Str.ofString "&#13;") 13 [38, 35, 49, 51, 59] ?F ?N ?hm (by decide +kernel) (by decide +kernel) ?k1 ?k2 ?k3 hx ?_ ?_
  case F => assumption
  case N => assumption
  case hm => with_unfolding_all rfl
  case k1 => decide
  case k2 => decide
  case k3 => decide
  · intro F1 hl
    repeat' walk1
    · exact ⟨_, _, _, rfl, rfl, by rw [replace_out _ _ _ 13 (by decide +kernel) (by assumption)]; exact F1, by assumption⟩
    · exact ⟨_, _, _, rfl, rfl, fr_coll (by assumption), by assumption⟩
  intro h2 tk2 t2 F2 N2
  refine' cut_if (Str.ofString "\n") (Str.ofString "&#10;") 10 [38, 35, 49, 48, 59] ?F ?N ?hm (by decide +kernel) (by decide +kernel) ?k1 ?k2 ?k3 hx ?_ ?_
  case F => assumption
  case N => assumption
  case hm => with_unfolding_all rfl
  case k1 => decide
  case k2 => decide
  case k3 => decide
  · intro F1 hl
    repeat' walk1
    · exact ⟨_, _, _, rfl, rfl, by rw [replace_out _ _ _ 10 (by decide +kernel) (by assumption)]; exact F1, by assumption⟩
    · exact ⟨_, _, _, rfl, rfl, fr_coll (by assumption), by assumption⟩
  intro h2 tk2 t2 F2 N2
  refine' cut_if (Str.ofString "\t") (Str.ofString "&#09;") 9 [38, 35, 48, 57, 59] ?F ?N ?hm (by decide +kernel) (by decide +kernel) ?k1 ?k2 ?k3 hx ?_ ?_
  case F => assumption
  case N => assumption
  case hm => with_unfolding_all rfl
  case k1 => decide
  case k2 => decide
  case k3 => decide
  · intro F1 hl
    repeat' walk1
    · exact ⟨_, _, _, rfl, rfl, by rw [replace_out _ _ _ 9 (by decide +kernel) (by assumption)]; exact F1, by assumption⟩
    · exact ⟨_, _, _, rfl, rfl, fr_coll (by assumption), by assumption⟩
  intro h2 tk2 t2 F2 N2
  k_steps
  exact ret0 hret (by assumption) (by assumption) ⟨rfl, _, rfl⟩
theorem ctr_attrib (news : Led) (x : Str) (t : Tok) (hx : x.length ≤ 100000) :
    Ctr w mean mg mb 101 1 8 news [.str x t] (fun v tl => tl = [] ∧ ∃ t', v = .str (escT psA x) t') := by
  have h := ctr_attrib0 (w := w) (mean := mean) (mg := mg) (mb := mb) news x t hx
  rw [escT_nil] at h
  exact h

theorem ctr_html0 (news : Led) (x : Str) (t : Tok) (hx : x.length ≤ 100000) :
    Ctr w mean mg mb 108 1 8 news [.str (escT [] x) t] (fun v tl => tl = [] ∧ ∃ t', v = .str (escT psH x) t') := by
  unfold Ctr
  k_fill
  intro dp un gd cn cs a ccd cl outer A₀ base h₀ L m s Q E B F X N T hk hd hu hret
  refine wpAny_call ?_
  cell_enter
  walk1; walk1
  refine' cut_if (Str.ofString "&") (Str.ofString "&amp;") 38 [38, 97, 109, 112, 59] ?F ?N ?hm (by decide +kernel) (by decide +kernel) ?k1 ?k2 ?k3 hx ?_ ?_
  case F => assumption
  case N => assumption
  case hm => with_unfolding_all rfl
  case k1 => decide
  case k2 => decide
  case k3 => decide
  · intro F1 hl
    repeat' walk1
    · exact ⟨_, _, _, rfl, rfl, by rw [replace_out _ _ _ 38 (by decide +kernel) (by assumption)]; exact F1, by assumption⟩
    · exact ⟨_, _, _, rfl, rfl, fr_coll (by assumption), by assumption⟩
  intro h2 tk2 t2 F2 N2
  refine' cut_if (Str.ofString ">") (Str.ofString "&gt;") 62 [38, 103, 116, 59] ?F ?N ?hm (by decide +kernel) (by decide +kernel) ?k1 ?k2 ?k3 hx ?_ ?_
  case F => assumption
  case N => assumption
  case hm => with_unfolding_all rfl
  case k1 => decide
  case k2 => decide
  case k3 => decide
  · intro F1 hl
    repeat' walk1
    · exact ⟨_, _, _, rfl, rfl, by rw [replace_out _ _ _ 62 (by decide +kernel) (by assumption)]; exact F1, by assumption⟩
    · exact ⟨_, _, _, rfl, rfl, fr_coll (by assumption), by assumption⟩
  intro h2 tk2 t2 F2 N2
  refine' cut_if (Str.ofString "\"") (Str.ofString "&quot;") 34 [38, 113, 117, 111, 116, 59] ?F ?N ?hm (by decide +kernel) (by decide +kernel) ?k1 ?k2 ?k3 hx ?_ ?_
  case F => assumption
  case N => assumption
  case hm => with_unfolding_all rfl
  case k1 => decide
  case k2 => decide
  case k3 => decide
  · intro F1 hl
    repeat' walk1
    · exact ⟨_, _, _, rfl, rfl, by rw [replace_out _ _ _ 34 (by decide +kernel) (by assumption)]; exact F1, by assumption⟩
    · exact ⟨_, _, _, rfl, rfl, fr_coll (by assumption), by assumption⟩
  intro h2 tk2 t2 F2 N2
  k_steps
  exact ret0 hret (by assumption) (by assumption) ⟨rfl, _, rfl⟩
theorem ctr_html (news : Led) (x : Str) (t : Tok) (hx : x.length ≤ 100000) :
    Ctr w mean mg mb 108 1 8 news [.str x t] (fun v tl => tl = [] ∧ ∃ t', v = .str (escT psH x) t') := by
  have h := ctr_html0 (w := w) (mean := mean) (mg := mg) (mb := mb) news x t hx
  rw [escT_nil] at h
  exact h

theorem ctr_c14n0 (news : Led) (x : Str) (t : Tok) (hx : x.length ≤ 100000) :
    Ctr w mean mg mb 115 1 8 news [.str (escT [] x) t] (fun v tl => tl = [] ∧ ∃ t', v = .str (escT psD x) t') := by
  unfold Ctr
  k_fill
  intro dp un gd cn cs a ccd cl outer A₀ base h₀ L m s Q E B F X N T hk hd hu hret
  refine wpAny_call ?_
  cell_enter
  walk1; walk1
  refine' cut_if (Str.ofString "&") (Str.ofString "&amp;") 38 [38, 97, 109, 112, 59] ?F ?N ?hm (by decide +kernel) (by decide +kernel) ?k1 ?k2 ?k3 hx ?_ ?_
  case F => assumption
  case N => assumption
  case hm => with_unfolding_all rfl
  case k1 => decide
  case k2 => decide
  case k3 => decide
  · intro F1 hl
    repeat' walk1
    · exact ⟨_, _, _, rfl, rfl, by rw [replace_out _ _ _ 38 (by decide +kernel) (by assumption)]; exact F1, by assumption⟩
    · exact ⟨_, _, _, rfl, rfl, fr_coll (by assumption), by assumption⟩
  intro h2 tk2 t2 F2 N2
  refine' cut_if (Str.ofString "<") (Str.ofString "&lt;") 60 [38, 108, 116, 59] ?F ?N ?hm (by decide +kernel) (by decide +kernel) ?k1 ?k2 ?k3 hx ?_ ?_
  case F => assumption
  case N => assumption
  case hm => with_unfolding_all rfl
  case k1 => decide
  case k2 => decide
  case k3 => decide
  · intro F1 hl
    repeat' walk1
    · exact ⟨_, _, _, rfl, rfl, by rw [replace_out _ _ _ 60 (by decide +kernel) (by assumption)]; exact F1, by assumption⟩
    · exact ⟨_, _, _, rfl, rfl, fr_coll (by assumption), by assumption⟩
  intro h2 tk2 t2 F2 N2
  refine' cut_if (Str.ofString ">") (Str.ofString "&gt;") 62 [38, 103, 116, 59] ?F ?N ?hm (by decide +kernel) (by decide +kernel) ?k1 ?k2 ?k3 hx ?_ ?_
  case F => assumption
  case N => assumption
  case hm => with_unfolding_all rfl
  case k1 => decide
  case k2 => decide
  case k3 => decide
  · intro F1 hl
    repeat' walk1
    · exact ⟨_, _, _, rfl, rfl, by rw [replace_out _ _ _ 62 (by decide +kernel) (by assumption)]; exact F1, by assumption⟩
    · exact ⟨_, _, _, rfl, rfl, fr_coll (by assumption), by assumption⟩
  intro h2 tk2 t2 F2 N2
  refine' cut_if (Str.ofString "\r") (Str.ofString "&#xD;") 13 [38, 35, 120, 68, 59] ?F ?N ?hm (by decide +kernel) (by decide +kernel) ?k1 ?k2 ?k3 hx ?_ ?_
  case F => assumption
  case N => assumption
  case hm => with_unfolding_all rfl
  case k1 => decide
  case k2 => decide
  case k3 => decide
  · intro F1 hl
    repeat' walk1
    · exact ⟨_, _, _, rfl, rfl, by rw [replace_out _ _ _ 13 (by decide +kernel) (by assumption)]; exact F1, by assumption⟩
    · exact ⟨_, _, _, rfl, rfl, fr_coll (by assumption), by assumption⟩
  intro h2 tk2 t2 F2 N2
  k_steps
  exact ret0 hret (by assumption) (by assumption) ⟨rfl, _, rfl⟩
theorem ctr_c14n (news : Led) (x : Str) (t : Tok) (hx : x.length ≤ 100000) :
    Ctr w mean mg mb 115 1 8 news [.str x t] (fun v tl => tl = [] ∧ ∃ t', v = .str (escT psD x) t') := by
  have h := ctr_c14n0 (w := w) (mean := mean) (mg := mg) (mb := mb) news x t hx
  rw [escT_nil] at h
  exact h

theorem ctr_ac14n0 (news : Led) (x : Str) (t : Tok) (hx : x.length ≤ 100000) :
    Ctr w mean mg mb 122 1 8 news [.str (escT [] x) t] (fun v tl => tl = [] ∧ ∃ t', v = .str (escT psE x) t') := by
  unfold Ctr
  k_fill
  intro dp un gd cn cs a ccd cl outer A₀ base h₀ L m s Q E B F X N T hk hd hu hret
  refine wpAny_call ?_
  cell_enter
  walk1; walk1
  refine' cut_if (Str.ofString "&") (Str.ofString "&amp;") 38 [38, 97, 109, 112, 59] ?F ?N ?hm (by decide +kernel) (by decide +kernel) ?k1 ?k2 ?k3 hx ?_ ?_
  case F => assumption
  case N => assumption
  case hm => with_unfolding_all rfl
  case k1 => decide
  case k2 => decide
  case k3 => decide
  · intro F1 hl
    repeat' walk1
    · exact ⟨_, _, _, rfl, rfl, by rw [replace_out _ _ _ 38 (by decide +kernel) (by assumption)]; exact F1, by assumption⟩
    · exact ⟨_, _, _, rfl, rfl, fr_coll (by assumption), by assumption⟩
  intro h2 tk2 t2 F2 N2
  refine' cut_if (Str.ofString "<") (Str.ofString "&lt;") 60 [38, 108, 116, 59] ?F ?N ?hm (by decide +kernel) (by decide +kernel) ?k1 ?k2 ?k3 hx ?_ ?_
  case F => assumption
  case N => assumption
  case hm => with_unfolding_all rfl
  case k1 => decide
  case k2 => decide
  case k3 => decide
  · intro F1 hl
    repeat' walk1
    · exact ⟨_, _, _, rfl, rfl, by rw [replace_out _ _ _ 60 (by decide +kernel) (by assumption)]; exact F1, by assumption⟩
    · exact ⟨_, _, _, rfl, rfl, fr_coll (by assumption), by assumption⟩
  intro h2 tk2 t2 F2 N2
  refine' cut_if (Str.ofString "\"") (Str.ofString "&quot;") 34 [38, 113, 117, 111, 116, 59] ?F ?N ?hm (by decide +kernel) (by decide +kernel) ?k1 ?k2 ?k3 hx ?_ ?_
  case F => assumption
  case N => assumption
  case hm => with_unfolding_all rfl
  case k1 => decide
  case k2 => decide
  case k3 => decide
  · intro F1 hl
    repeat' walk1
    · exact ⟨_, _, _, rfl, rfl, by rw [replace_out _ _ _ 34 (by decide +kernel) (by assumption)]; exact F1, by assumption⟩
    · exact ⟨_, _, _, rfl, rfl, fr_coll (by assumption), by assumption⟩
  intro h2 tk2 t2 F2 N2
  refine' cut_if (Str.ofString "\t") (Str.ofString "&#x9;") 9 [38, 35, 120, 57, 59] ?F ?N ?hm (by decide +kernel) (by decide +kernel) ?k1 ?k2 ?k3 hx ?_ ?_
  case F => assumption
  case N => assumption
  case hm => with_unfolding_all rfl
  case k1 => decide
  case k2 => decide
  case k3 => decide
  · intro F1 hl
    repeat' walk1
    · exact ⟨_, _, _, rfl, rfl, by rw [replace_out _ _ _ 9 (by decide +kernel) (by assumption)]; exact F1, by assumption⟩
    · exact ⟨_, _, _, rfl, rfl, fr_coll (by assumption), by assumption⟩
  intro h2 tk2 t2 F2 N2
  refine' cut_if (Str.ofString "\n") (Str.ofString "&#xA;") 10 [38, 35, 120, 65, 59] ?F ?N ?hm (by decide +kernel) (by decide +kernel) ?k1 ?k2 ?k3 hx ?_ ?_
  case F => assumption
  case N => assumption
  case hm => with_unfolding_all rfl
  case k1 => decide
  case k2 => decide
  case k3 => decide
  · intro F1 hl
    repeat' walk1
    · exact ⟨_, _, _, rfl, rfl, by rw [replace_out _ _ _ 10 (by decide +kernel) (by assumption)]; exact F1, by assumption⟩
    · exact ⟨_, _, _, rfl, rfl, fr_coll (by assumption), by assumption⟩
  intro h2 tk2 t2 F2 N2
  refine' cut_if (Str.ofString "\r") (Str.ofString "&#xD;") 13 [38, 35, 120, 68, 59] ?F ?N ?hm (by decide +kernel) (by decide +kernel) ?k1 ?k2 ?k3 hx ?_ ?_
  case F => assumption
  case N => assumption
  case hm => with_unfolding_all rfl
  case k1 => decide
  case k2 => decide
  case k3 => decide
  · intro F1 hl
    repeat' walk1
    · exact ⟨_, _, _, rfl, rfl, by rw [replace_out _ _ _ 13 (by decide +kernel) (by assumption)]; exact F1, by assumption⟩
    · exact ⟨_, _, _, rfl, rfl, fr_coll (by assumption), by assumption⟩
  intro h2 tk2 t2 F2 N2
  k_steps
  exact ret0 hret (by assumption) (by assumption) ⟨rfl, _, rfl⟩
theorem ctr_ac14n (news : Led) (x : Str) (t : Tok) (hx : x.length ≤ 100000) :
    Ctr w mean mg mb 122 1 8 news [.str x t] (fun v tl => tl = [] ∧ ∃ t', v = .str (escT psE x) t') := by
  have h := ctr_ac14n0 (w := w) (mean := mean) (mg := mg) (mb := mb) news x t hx
  rw [escT_nil] at h
  exact h


end
end
end Mine
end
section
open PySem PySem.W PyProof.Rows
set_option maxHeartbeats 8000000
namespace Mine
theorem off_W2 : True := by
  w_top off
  k_with_none
  exact True.intro
def psOf (hand : Int) : List (Nat × List Nat) := if hand = 0 then psC else if hand = 1 then psD else if hand = 2 then psA else if hand = 3 then psH else psE
section
variable {w : World} {mean : ExcName → Option Value} {mg mb : Str → Option Value}
section
local macro_rules | `(tactic| walk_at $s:str) => `(tactic| k_extra $s)
theorem ctr_write (news : Led) (hand : Int) (x : Str) (t1 t : Tok) (hx : x.length ≤ 100000) :
    Ctr w mean mg mb 129 2 16 news [.int hand t1, .str x t] (fun v tl => tl = [] ∧ ∃ t', v = .str (escT (psOf hand) x) t') := by
  k_with_none
  k_with "call ref" => (k_here; k_dflt (first | refine' Ctr.use (ctr_cdata _ _ _ ?hx) ?k1 ?k2 ?k3 ?k4 ?k5 ?kK ?kd ?ku ?_ | refine' Ctr.use (ctr_attrib _ _ _ ?hx) ?k1 ?k2 ?k3 ?k4 ?k5 ?kK ?kd ?ku ?_ | refine' Ctr.use (ctr_html _ _ _ ?hx) ?k1 ?k2 ?k3 ?k4 ?k5 ?kK ?kd ?ku ?_ | refine' Ctr.use (ctr_c14n _ _ _ ?hx) ?k1 ?k2 ?k3 ?k4 ?k5 ?kK ?kd ?ku ?_ | refine' Ctr.use (ctr_ac14n _ _ _ ?hx) ?k1 ?k2 ?k3 ?k4 ?k5 ?kK ?kd ?ku ?_); (case hx => assumption); (case k1 => k_asm); (case k2 => k_asm); (case k3 => k_asm); (case k4 => k_asm); (case k5 => k_asm); (case kK => exact rfl); (case kd => ktr_room); (case ku => ktr_units); intro v' tl' h' tk' F' N' o' hR'; obtain ⟨e', t', e2'⟩ := hR'; subst e'; subst e2'; clear o')
  unfold Ctr
  k_fill
  intro dp un gd cn cs a ccd cl outer A₀ base h₀ L m s Q E B F X N T hk hd hu hret
  refine wpAny_call ?_
  cell_enter
  k_steps
  all_goals (refine' ret0 hret (by assumption) (by assumption) ⟨rfl, _, congrArg (fun z => Value.str (escT z x) _) ?_⟩; unfold psOf; (repeat' split) <;> first | rfl | omega)
end
end
end Mine
end
section
open PySem PySem.W PyProof.Rows PySem.Calls PyProof.V PySem.Spec
set_option maxHeartbeats 8000000
namespace Mine
theorem news_ne {h₀ h : Heap} {L a b : Addr} {o1 o2 : Obj} {l : Led} (N : News h₀ L h l) (h1 : (a, o1) ∈ l) (h2 : (b, o2) ∈ l) (hne : o1.cls ≠ o2.cls) : a ≠ b := by
  intro e
  subst e
  have e1 := (N _ h1).1
  rw [(N _ h2).1] at e1
  exact hne (congrArg Obj.cls (Option.some.inj e1)).symm
theorem allLt_append {d : Addr} : ∀ {a b : Led}, AllLt d (a ++ b) → AllLt d a ∧ AllLt d b
  | [], _, h => ⟨trivial, h⟩
  | _ :: _, _, h => let q := allLt_append h.2; ⟨⟨h.1, q.1⟩, q.2⟩
theorem ownOff_cons {own : Led} {d : Addr} {r : List Addr} (h1 : AllLt d own) (h2 : OwnOff own r) : OwnOff own (d :: r) := by
  intro p hp b hb
  rcases List.mem_cons.mp hb with rfl | hb
  · exact Nat.ne_of_lt (kst_ltOf h1 p hp)
  · exact h2 p hp b hb
theorem ownOff_tail {own : Led} {d : Addr} {r : List Addr} (h : OwnOff own (d :: r)) : OwnOff own r := fun p hp b hb => h p hp b (.tail _ hb)
theorem ownOff_new {d : Addr} {o : Obj} {r news : Led} (h1 : AllLt d news) (h2 : OwnOff r (news.map (·.1))) : OwnOff ((d, o) :: r) (news.map (·.1)) := by
  intro p hp b hb
  rcases List.mem_cons.mp hp with rfl | hp
  · obtain ⟨q, hq, rfl⟩ := List.mem_map.mp hb
    exact Nat.ne_of_gt (kst_ltOf h1 q hq)
  · exact h2 p hp b hb
theorem ownOff_nil {adr : List Addr} : OwnOff [] adr := fun _ hp => nomatch hp
theorem allLt_up {d e : Addr} (h : d ≤ e) : ∀ {l : Led}, AllLt d l → AllLt e l
  | [], _ => trivial
  | _ :: _, q => ⟨Nat.lt_of_lt_of_le q.1 h, allLt_up h q.2⟩
/-- what holds between the turns of a loop: a state, what the frame and the ledger say of it, a word -/
def JS {σ : Type} (LedOf : σ → Led) (ps : σ → List (Str × Value)) (P : Nat → σ → Prop) (i : Nat) (m : Str → Option Value) (nx : Led) : Prop :=
  ∃ c : σ, nx = LedOf c ∧ (∀ p ∈ ps c, m p.1 = some p.2) ∧ P i c
theorem fr_over {h₀ h : Heap} {L : Addr} {x : Str} {v : Value} {ps : List (Str × Value)} {m : Str → Option Value} (h1 : ∀ p ∈ ps, m p.1 = some p.2) (F : Fr h₀ L h (fun y => if y = x then some v else m y)) :
    Fr h₀ L h (fun y => if y = x then some v else kstB m ps y) := by
  have e : (fun y => if y = x then some v else kstB m ps y) = fun y => if y = x then some v else m y := by
    funext y; rw [kstB_eq h1 fun _ => rfl]
  rw [e]; exact F
theorem fr_over0 {h₀ h : Heap} {L : Addr} {ps : List (Str × Value)} {m : Str → Option Value} (h1 : ∀ p ∈ ps, m p.1 = some p.2) (F : Fr h₀ L h m) : Fr h₀ L h (kstB m ps) := by
  have e : kstB m ps = m := by funext y; rw [kstB_eq h1 fun _ => rfl]
  rw [e]; exact F
/-- where the walk is to stop -/
def Stop (P : Prop) : Prop := P
theorem Stop.mk {P : Prop} (h : P) : Stop P := h
theorem For_stop {prog : Program} {w : World} {A : Around} {E : Value → Shared → Prop} {s : Shared} {h₀ : Heap} {env : Env} {x : Str} {body : List Stmt} {Q : Flow → Shared → Prop} {m : Str → Option Value} {px pos : Pos} {iter : Expr} (F : Fr h₀ env.locals s.heap m) (hx : env.kindOf x = some .local)
    (hp : (env.scope.kind == .class || (env.scope.kind == .module && env.locals != env.globals)) = false)
    (h : wpAny (model prog w) A (eval iter env) (fun xv s₁ => Stop (wpAny (model prog w) A (pyIter xv) (fun it s₂ => LoopAtV prog w A h₀ env x body Q E it s₂) E s₁)) E s)
    (hs : ∀ x, foldedSetIterable iter env x = pure x := by intro _; rfl)
    (hE : PassesOwn (model prog w) A env E := by passes_own) :
    wpAny (model prog w) A (exec (.For (.Name x px) iter body [] pos) env) Q E s := For_invVF F hx hp h hs hE
section
variable {prog : Program} {w : World} {A : Around} {E : Value → Shared → Prop} {s : Shared} {env : Env} {h₀ : Heap} {x : Str} {body : List Stmt} {Q : Flow → Shared → Prop}
theorem turn_end {σ : Type} {LedOf : σ → Led} {ps : σ → List (Str × Value)} {P : Nat → σ → Prop} {i : Nat} (c : σ) {L : Addr} {m' : Str → Option Value} {own news' : Led} {s₁ : Shared} {h' : Heap} {tk : Nat}
    (F : Fr h₀ L h' m') (N : News h₀ L h' news') (hn : ∀ p ∈ LedOf c, p ∈ news') (ho : ∀ p ∈ own, p ∈ news') (ha : OwnOff own ((LedOf c).map (·.1))) (hk : ∀ p ∈ ps c, m' p.1 = some p.2) (hp : P i c) :
    InvEndG h₀ L (JS LedOf ps P i) own s₁ { s₁ with heap := h', toks := tk } := InvEndG.intro F N ⟨c, rfl, hk, hp⟩ ha hn ho
/-- a loop over a text's signs -/
theorem loop_str {σ : Type} {xt : Str} {tx : Tok} {m₀ : Str → Option Value} {news : Led} (LedOf : σ → Led) (ps : σ → List (Str × Value)) (P : Nat → σ → Prop) (c₀ : σ)
    (hh : A.handled = none) (F : Fr h₀ env.locals s.heap m₀) (N : News h₀ env.locals s.heap news) (hn : ∀ p ∈ LedOf c₀, p ∈ news) (hk : ∀ p ∈ ps c₀, m₀ p.1 = some p.2) (hp : P 0 c₀)
    (turn : ∀ (c : σ) i ch t (m₁ : Str → Option Value) h tk own, xt.cps.toList[i]? = some ch → OwnOff own ((LedOf c).map (·.1)) → P i c →
      Fr h₀ env.locals h (fun y => if y = x then some (.str ⟨#[ch]⟩ t) else kstB m₁ (ps c) y) → News h₀ env.locals h (LedOf c ++ own) →
      wpAny (model prog w) A (execs body env) (InvPostG h₀ env.locals (JS LedOf ps P (i + 1)) own { s with heap := h, toks := tk } Q) E { s with heap := h, toks := tk })
    (done : ∀ (c : σ) (m₁ : Str → Option Value) h tk, P xt.cps.size c → Fr h₀ env.locals h (kstB m₁ (ps c)) → News h₀ env.locals h (LedOf c) → Q .next { s with heap := h, toks := tk }) :
    wpAny (model prog w) A (pyIter (.str xt tx)) (fun it s₂ => LoopAtV prog w A h₀ env x body Q E it s₂) E s := by
  have go : ∀ (ty : String) (o : Obj), o.isFreed = false → Walks prog w A s.heap.objs.size [s.heap.objs.size] [s.heap.objs.size] xt.cps.size (SignAt xt) (fun i h => h.IsStrIter s.heap.objs.size ty xt tx i) → (s.heap.push o).IsStrIter s.heap.objs.size ty xt tx 0 →
      LoopAtV prog w A h₀ env x body Q E (.ref s.heap.objs.size) { s with heap := s.heap.push o } := by
    intro ty o hfree W hst
    refine kdr_loop (JS LedOf ps P) W (fun _ h => h) (fun _ h => h) ?_ ?_ ?_ ?_ hst (F.push _) (fun p hp => ⟨Heap.get?_push_of_some _ (N p (hn p hp)).1, (N p (hn p hp)).2⟩) ⟨c₀, rfl, hk, hp⟩ ?_ ?_
    · intro i h hs b hb
      obtain ⟨o, ho, _⟩ := hs
      exact ⟨o, (List.mem_singleton.mp hb) ▸ ho⟩
    · intro hm
      exact absurd F.ns.lt ((List.mem_singleton.mp hm) ▸ Nat.lt_irrefl _)
    · intro b' hb
      rw [List.mem_singleton.mp hb]
      exact next_is_new F
    · intro p hp hI
      exact absurd (Heap.lt_size (N p (hn p hp)).1) ((List.mem_singleton.mp hI) ▸ Nat.lt_irrefl _)
    · rintro i v m₁ nx h tk own hi ⟨n, u, hn, rfl⟩ hoff ⟨c, rfl, h1, hp'⟩ F₁ N₁
      exact turn c i n u m₁ h tk own (by simpa using hn) hoff hp' (fr_over h1 F₁) N₁
    · rintro m₁ nx h tk ⟨c, rfl, h1, hp'⟩ F₁ N₁
      exact done c m₁ h tk hp' (fr_over0 h1 F₁) N₁
  cases ha : xt.cps.all (· < 128)
  · exact wpAny_pyIter_wide ha (go _ _ rfl (Walks.strWide hh _ xt tx) ⟨_, Heap.get?_push_size _ rfl, rfl, rfl⟩)
  · exact wpAny_pyIter_ascii ha (go _ _ rfl (Walks.strAscii hh _ xt tx) ⟨_, Heap.get?_push_size _ rfl, rfl, rfl⟩)
/-- a loop over a list of the ledger -/
theorem loop_list {σ : Type} {l : Addr} {vs : List Value} {nn : Nat} {m₀ : Str → Option Value} {news : Led} (LedOf : σ → Led) (ps : σ → List (Str × Value)) (P : Nat → σ → Prop) (c₀ : σ)
    (hh : A.handled = none) (hl : ∀ c, (l, W.listOf vs.toArray nn) ∈ LedOf c) (F : Fr h₀ env.locals s.heap m₀) (N : News h₀ env.locals s.heap news) (hn : ∀ p ∈ LedOf c₀, p ∈ news) (hk : ∀ p ∈ ps c₀, m₀ p.1 = some p.2) (hp : P 0 c₀)
    (turn : ∀ (c : σ) i v (m₁ : Str → Option Value) h tk own, vs[i]? = some v → OwnOff own ((LedOf c).map (·.1)) → P i c →
      Fr h₀ env.locals h (fun y => if y = x then some v else kstB m₁ (ps c) y) → News h₀ env.locals h (LedOf c ++ own) →
      wpAny (model prog w) A (execs body env) (InvPostG h₀ env.locals (JS LedOf ps P (i + 1)) own { s with heap := h, toks := tk } Q) E { s with heap := h, toks := tk })
    (done : ∀ (c : σ) (m₁ : Str → Option Value) h tk, P vs.length c → Fr h₀ env.locals h (kstB m₁ (ps c)) → News h₀ env.locals h (LedOf c) → Q .next { s with heap := h, toks := tk }) :
    wpAny (model prog w) A (pyIter (.ref l)) (fun it s₂ => LoopAtV prog w A h₀ env x body Q E it s₂) E s := by
  refine kdl_iter (news := LedOf c₀) (JS LedOf ps P) hh (hl c₀) F (fun p hp => N p (hn p hp)) ⟨c₀, rfl, hk, hp⟩ ?_ ?_
  · rintro i v m₁ nx h tk own hv hoff _ ⟨c, rfl, h1, hp'⟩ F₁ N₁
    refine wpAny_mono (turn c i v m₁ h tk own hv hoff hp' (fr_over h1 F₁) N₁) (fun f s₂ p => ?_) fun _ _ x => x
    have up : InvEndG h₀ env.locals (JS LedOf ps P (i + 1)) own { s with heap := h, toks := tk } s₂ →
        InvEndG h₀ env.locals (fun m' nx => (l, W.listOf vs.toArray nn) ∈ nx ∧ JS LedOf ps P (i + 1) m' nx) own { s with heap := h, toks := tk } s₂ := by
      rintro ⟨h', tk', m', news', nx', e', F', N', hn', ho', ha, hS⟩
      refine ⟨h', tk', m', news', nx', e', F', N', hn', ho', ha, ?_, hS⟩
      obtain ⟨c', rfl, _⟩ := hS
      exact hl c'
    cases f with
    | ret v => exact p
    | brk => exact p
    | next => exact up p
    | cont => exact up p
  · rintro m₁ nx h tk ⟨c, rfl, h1, hp'⟩ F₁ N₁
    exact done c m₁ h tk hp' (fr_over0 h1 F₁) N₁
/-- a loop over a range by ones -/
theorem loop_range {σ : Type} {r : Addr} {a₀ b₀ : Int} {t₀ u₀ v₀ : Tok} {n : Nat} {m₀ : Str → Option Value} {news : Led} (LedOf : σ → Led) (ps : σ → List (Str × Value)) (P : Nat → σ → Prop) (c₀ : σ)
    (hh : A.handled = none) (hr : IsRange s.heap r a₀ b₀ 1 t₀ u₀ v₀) (hsmall : Builtin.Range.small a₀ b₀ 1 = true) (hsz : Builtin.Range.rangeSize a₀ b₀ 1 = (n : Int))
    (F : Fr h₀ env.locals s.heap m₀) (N : News h₀ env.locals s.heap news) (hn : ∀ p ∈ LedOf c₀, p ∈ news) (hk : ∀ p ∈ ps c₀, m₀ p.1 = some p.2) (hp : P 0 c₀)
    (turn : ∀ (c : σ) (i : Nat) t (m₁ : Str → Option Value) h tk own, i < n → OwnOff own ((LedOf c).map (·.1)) → P i c →
      Fr h₀ env.locals h (fun y => if y = x then some (.int (a₀ + (i : Int)) t) else kstB m₁ (ps c) y) → News h₀ env.locals h (LedOf c ++ own) →
      wpAny (model prog w) A (execs body env) (InvPostG h₀ env.locals (JS LedOf ps P (i + 1)) own { s with heap := h, toks := tk } Q) E { s with heap := h, toks := tk })
    (done : ∀ (c : σ) (m₁ : Str → Option Value) h tk, P n c → Fr h₀ env.locals h (kstB m₁ (ps c)) → News h₀ env.locals h (LedOf c) → Q .next { s with heap := h, toks := tk }) :
    wpAny (model prog w) A (pyIter (.ref r)) (fun it s₂ => LoopAtV prog w A h₀ env x body Q E it s₂) E s := by
  refine wpAny_pyIter_range hr hsmall ?_
  have W : Walks prog w A s.heap.objs.size [s.heap.objs.size] [s.heap.objs.size] n (fun i v => i < n ∧ ∃ t, v = .int (a₀ + i * 1) t)
      (fun i h => IsRangeIter h s.heap.objs.size (a₀ + (i : Nat) * 1) ((n : Int) - (i : Nat)) 1) := (Walks.range hh _ a₀ 1 n).bound
  refine kdr_loop (JS LedOf ps P) W (fun _ h => h) (fun _ h => h) ?_ ?_ ?_ ?_ (by show IsRangeIter _ _ _ _ _; rw [hsz]; simpa using Heap.get?_push_size _ rfl) (F.push _) (fun p hp => ⟨Heap.get?_push_of_some _ (N p (hn p hp)).1, (N p (hn p hp)).2⟩) ⟨c₀, rfl, hk, hp⟩ ?_ ?_
  · intro i h hs b hb
    exact ⟨_, (List.mem_singleton.mp hb) ▸ hs⟩
  · intro hm
    exact absurd F.ns.lt ((List.mem_singleton.mp hm) ▸ Nat.lt_irrefl _)
  · intro b' hb
    rw [List.mem_singleton.mp hb]
    exact next_is_new F
  · intro p hp hI
    exact absurd (Heap.lt_size (N p (hn p hp)).1) ((List.mem_singleton.mp hI) ▸ Nat.lt_irrefl _)
  · rintro i v m₁ nx h tk own hi ⟨_, t, rfl⟩ hoff ⟨c, rfl, h1, hp'⟩ F₁ N₁
    have e1 : a₀ + (i : Int) * 1 = a₀ + (i : Int) := by omega
    rw [e1] at F₁
    exact turn c i t m₁ h tk own hi hoff hp' (fr_over h1 F₁) N₁
  · rintro m₁ nx h tk ⟨c, rfl, h1, hp'⟩ F₁ N₁
    exact done c m₁ h tk hp' (fr_over0 h1 F₁) N₁
/-- a turn's end where the loop may be left -/
def BPost {σ : Type} (h₀ : Heap) (L : Addr) (LedOf : σ → Led) (ps : σ → List (Str × Value)) (P : Nat → σ → Prop) (Fin : σ → Prop) (i : Nat) (own : Led) (s₁ : Shared) (Q : Flow → Shared → Prop) (f : Flow) (s₂ : Shared) : Prop :=
  match f with
  | .ret v => Q (.ret v) s₂
  | .brk => ∃ c h' tk m', s₂ = { s₁ with heap := h', toks := tk } ∧ Fr h₀ L h' m' ∧ News h₀ L h' (LedOf c) ∧ (∀ p ∈ ps c, m' p.1 = some p.2) ∧ Fin c
  | _ => InvEndG h₀ L (JS LedOf ps P i) own s₁ s₂
theorem loop_strB {σ : Type} {xt : Str} {tx : Tok} {m₀ : Str → Option Value} {news : Led} (LedOf : σ → Led) (ps : σ → List (Str × Value)) (P : Nat → σ → Prop) (Fin : σ → Prop) (c₀ : σ)
    (hh : A.handled = none) (F : Fr h₀ env.locals s.heap m₀) (N : News h₀ env.locals s.heap news) (hn : ∀ p ∈ LedOf c₀, p ∈ news) (hk : ∀ p ∈ ps c₀, m₀ p.1 = some p.2) (hp : P 0 c₀)
    (turn : ∀ (c : σ) i ch t (m₁ : Str → Option Value) h tk own, xt.cps.toList[i]? = some ch → OwnOff own ((LedOf c).map (·.1)) → P i c →
      Fr h₀ env.locals h (fun y => if y = x then some (.str ⟨#[ch]⟩ t) else kstB m₁ (ps c) y) → News h₀ env.locals h (LedOf c ++ own) →
      wpAny (model prog w) A (execs body env) (BPost h₀ env.locals LedOf ps P Fin (i + 1) own { s with heap := h, toks := tk } Q) E { s with heap := h, toks := tk })
    (done : ∀ c, P xt.cps.size c → Fin c)
    (fin : ∀ (c : σ) (m₁ : Str → Option Value) h tk, Fin c → Fr h₀ env.locals h (kstB m₁ (ps c)) → News h₀ env.locals h (LedOf c) → Q .next { s with heap := h, toks := tk }) :
    wpAny (model prog w) A (pyIter (.str xt tx)) (fun it s₂ => LoopAtV prog w A h₀ env x body Q E it s₂) E s := by
  refine loop_str LedOf ps P c₀ hh F N hn hk hp ?_ ?_
  · intro c i ch t m₁ h tk own h1 h2 h3 F₁ N₁
    refine wpAny_mono (turn c i ch t m₁ h tk own h1 h2 h3 F₁ N₁) (fun f s₂ p => ?_) fun _ _ x => x
    cases f with
    | ret v => exact p
    | brk =>
      obtain ⟨c', h', tk', m', rfl, F', N', hk', hf⟩ := p
      exact fin c' m' h' tk' hf (fr_over0 hk' F') N'
    | next => exact p
    | cont => exact p
  · intro c m₁ h tk h1 F₁ N₁
    exact fin c m₁ h tk (done c h1) F₁ N₁
end
end Mine
end
section
open PySem PySem.W PyProof.Rows PySem.Calls PyProof.V PySem.Spec
set_option maxHeartbeats 8000000
namespace Mine
theorem For_stopT {prog : Program} {w : World} {A : Around} {E : Value → Shared → Prop} {s : Shared} {h₀ : Heap} {env : Env} {target : Expr} {body : List Stmt} {Q : Flow → Shared → Prop} {m : Str → Option Value} {pos : Pos} {iter : Expr} (F : Fr h₀ env.locals s.heap m)
    (h : wpAny (model prog w) A (eval iter env) (fun xv s₁ => Stop (wpAny (model prog w) A (pyIter xv) (fun it s₂ => TurnsAt prog w A h₀ env target body Q E it s₂) E s₁)) E s)
    (hs : ∀ x, foldedSetIterable iter env x = pure x := by intro _; rfl)
    (hE : PassesOwn (model prog w) A env E := by passes_own) :
    wpAny (model prog w) A (exec (.For target iter body [] pos) env) Q E s := For_turns F h hs hE
section
variable {prog : Program} {w : World} {A : Around} {E : Value → Shared → Prop} {s : Shared} {env : Env} {h₀ : Heap} {target : Expr} {body : List Stmt} {Q : Flow → Shared → Prop}
/-- a loop over a list of the ledger, whatever the target -/
theorem loop_listT {σ : Type} {l : Addr} {vs : List Value} {nn : Nat} {m₀ : Str → Option Value} {news : Led} (LedOf : σ → Led) (ps : σ → List (Str × Value)) (P : Nat → σ → Prop) (c₀ : σ)
    (hh : A.handled = none) (hl : ∀ c, (l, W.listOf vs.toArray nn) ∈ LedOf c) (F : Fr h₀ env.locals s.heap m₀) (N : News h₀ env.locals s.heap news) (hn : ∀ p ∈ LedOf c₀, p ∈ news) (hk : ∀ p ∈ ps c₀, m₀ p.1 = some p.2) (hp : P 0 c₀)
    (turn : ∀ (c : σ) i v (m₁ : Str → Option Value) h tk own, vs[i]? = some v → OwnOff own ((LedOf c).map (·.1)) → P i c →
      Fr h₀ env.locals h (kstB m₁ (ps c)) → News h₀ env.locals h (LedOf c ++ own) →
      wpAny (model prog w) A (assign target env v) (fun _ s₂ => wpAny (model prog w) A (execs body env) (InvPostG h₀ env.locals (JS LedOf ps P (i + 1)) own { s with heap := h, toks := tk } Q) E s₂) E { s with heap := h, toks := tk })
    (done : ∀ (c : σ) (m₁ : Str → Option Value) h tk, P vs.length c → Fr h₀ env.locals h (kstB m₁ (ps c)) → News h₀ env.locals h (LedOf c) → Q .next { s with heap := h, toks := tk }) :
    wpAny (model prog w) A (pyIter (.ref l)) (fun it s₂ => TurnsAt prog w A h₀ env target body Q E it s₂) E s := by
  have N0 : News h₀ env.locals s.heap (LedOf c₀) := fun p hp => N p (hn p hp)
  have hol := (N0 _ (hl c₀)).1
  have hls : s.heap.IsList l vs.toArray := ⟨_, hol, rfl, nn, rfl⟩
  have hne : l ≠ s.heap.objs.size := Nat.ne_of_lt (Heap.lt_size hol)
  have I0 : h₀.get? s.heap.objs.size = none := next_is_new F
  refine wpAny_pyIter_list hls ?_
  have W0 := Walks.list (prog := prog) (w := w) hh s.heap.objs.size l hne vs.toArray
  have hlen : vs.toArray.size = vs.length := by simp
  rw [hlen] at W0
  have WT := KTurns.ofWalks (target := target) W0 fun i v s Q E st q => letGo_listiter st.1 q
  refine ⟨_, _, _, vs.length, _, _, _, m₀, LedOf c₀, JS LedOf ps P, rfl, WT, ?_, ?_, ?_, ⟨⟨_, Heap.get?_push_size _ rfl, rfl, rfl⟩, hls.at fun o e => Heap.get?_push_of_some _ e⟩, F.push _, (fun p hp => ⟨Heap.get?_push_of_some _ (N0 p hp).1, (N0 p hp).2⟩), ⟨c₀, rfl, hk, hp⟩, ?_, ?_⟩
  · intro hm
    rcases List.mem_cons.mp hm with e | hm
    · exact absurd F.ns.lt (e ▸ Nat.lt_irrefl _)
    · exact (N0 _ (hl c₀)).2.1 (List.mem_singleton.mp hm).symm
  · intro b hb
    rw [List.mem_singleton.mp hb]
    exact I0
  · intro p hp hI
    exact absurd (Heap.lt_size (N0 p hp).1) ((List.mem_singleton.mp hI) ▸ Nat.lt_irrefl _)
  · rintro i v m₁ nx h tk own hin hP ⟨c, rfl, h1, hp'⟩ hoff hown hget hall hst F₁ N₁
    have hv : vs[i]? = some v := by simpa using hP
    obtain ⟨⟨oI, hoI, _⟩, _⟩ := id hst
    have hI : (s.heap.objs.size, oI) ∈ own := hall _ (List.mem_cons.mpr (.inl rfl)) I0 _ hoI
    have hlo : h.get? l = some (W.listOf vs.toArray nn) := (N₁ _ (List.mem_append.mpr (.inr (hl c)))).1
    have one : ∀ p ∈ own, p = (s.heap.objs.size, oI) ∨ p = (l, W.listOf vs.toArray nn) := by
      intro p hp
      have g := hget p hp
      rcases List.mem_cons.mp (hown p hp) with e | e
      · rw [e, hoI] at g
        exact .inl (Prod.ext e (Option.some.inj g).symm)
      · rw [List.mem_singleton.mp e, hlo] at g
        exact .inr (Prod.ext (List.mem_singleton.mp e) (Option.some.inj g).symm)
    have off1 : OwnOff [(s.heap.objs.size, oI)] ((LedOf c).map (·.1)) := by
      intro p hp b hb e
      obtain ⟨q, hq, rfl⟩ := List.mem_map.mp hb
      rw [List.mem_singleton.mp hp] at e
      exact hoff q hq (List.mem_singleton.mpr e.symm)
    have N₂ : News h₀ env.locals h (LedOf c ++ [(s.heap.objs.size, oI)]) := fun p hp => by
      rcases List.mem_append.mp hp with hp | hp
      · exact N₁ p (List.mem_append.mpr (.inr hp))
      · rw [List.mem_singleton.mp hp]; exact N₁ _ (List.mem_append.mpr (.inl hI))
    refine wpAny_mono (turn c i v m₁ h tk _ hv off1 hp' (fr_over0 h1 F₁) N₂) (fun _ s₂ h₂ => wpAny_mono h₂ (fun f s₃ p => ?_) fun _ _ e => e) fun _ _ e => e
    have fin : InvEndG h₀ env.locals (JS LedOf ps P (i + 1)) [(s.heap.objs.size, oI)] { s with heap := h, toks := tk } s₃ →
        LoopStepU h₀ env.locals [s.heap.objs.size] own (JS LedOf ps P (i + 1)) { s with heap := h, toks := tk } .next s₃ := by
      rintro ⟨h', tk', m', news', nx', e, F', N', hn', ho', ha, hS⟩
      refine ⟨rfl, h', tk', m', nx', e, F', fun p hp => ?_, fun p hp hq => ?_, hS⟩
      · rcases List.mem_append.mp hp with hp | hp
        · rcases one p hp with rfl | rfl
          · exact N' _ (ho' _ (.head _))
          · obtain ⟨c', rfl, _⟩ := hS
            exact N' _ (hn' _ (hl c'))
        · exact N' p (hn' p hp)
      · exact ha _ (.head _) p.1 (List.mem_map.mpr ⟨p, hp, rfl⟩) (List.mem_singleton.mp hq).symm
    cases f with
    | ret v => exact .ret p
    | brk => exact .brk p
    | next => exact .next (fin p)
    | cont => exact .cont (fin p)
  · rintro h tk m₁ nx F₁ N₁ _ ⟨c, rfl, h1, hp'⟩
    exact done c m₁ h tk hp' (fr_over0 h1 F₁) N₁
/-- a loop over a text's signs, the target a name of any kind -/
theorem loop_strT {σ : Type} {xn : Str} {px : Pos} {xt : Str} {tx : Tok} {m₀ : Str → Option Value} {news : Led} (LedOf : σ → Led) (ps : σ → List (Str × Value)) (P : Nat → σ → Prop) (c₀ : σ)
    (hh : A.handled = none) (F : Fr h₀ env.locals s.heap m₀) (N : News h₀ env.locals s.heap news) (hn : ∀ p ∈ LedOf c₀, p ∈ news) (hk : ∀ p ∈ ps c₀, m₀ p.1 = some p.2) (hp : P 0 c₀)
    (turn : ∀ (c : σ) i ch t (m₁ : Str → Option Value) h tk own, xt.cps.toList[i]? = some ch → OwnOff own ((LedOf c).map (·.1)) → P i c →
      Fr h₀ env.locals h (kstB m₁ (ps c)) → News h₀ env.locals h (LedOf c ++ own) →
      wpAny (model prog w) A (assign (.Name xn px) env (.str ⟨#[ch]⟩ t)) (fun _ s₂ => wpAny (model prog w) A (execs body env) (InvPostG h₀ env.locals (JS LedOf ps P (i + 1)) own { s with heap := h, toks := tk } Q) E s₂) E { s with heap := h, toks := tk })
    (done : ∀ (c : σ) (m₁ : Str → Option Value) h tk, P xt.cps.size c → Fr h₀ env.locals h (kstB m₁ (ps c)) → News h₀ env.locals h (LedOf c) → Q .next { s with heap := h, toks := tk }) :
    wpAny (model prog w) A (pyIter (.str xt tx)) (fun it s₂ => TurnsAt prog w A h₀ env (.Name xn px) body Q E it s₂) E s := by
  have I0 : h₀.get? s.heap.objs.size = none := next_is_new F
  have go : ∀ (ty : String) (o : Obj), o.isFreed = false → Walks prog w A s.heap.objs.size [s.heap.objs.size] [s.heap.objs.size] xt.cps.size (SignAt xt) (fun i h => h.IsStrIter s.heap.objs.size ty xt tx i) → (s.heap.push o).IsStrIter s.heap.objs.size ty xt tx 0 →
      TurnsAt prog w A h₀ env (.Name xn px) body Q E (.ref s.heap.objs.size) { s with heap := s.heap.push o } := by
    intro ty o hfree W0 hst
    have WT := KTurns.ofWalks (target := .Name xn px) W0 fun i v s Q E st q => (by show wpAny _ _ (pure ()) _ _ _; exact wpAny_pure q)
    refine ⟨_, _, _, xt.cps.size, _, _, _, m₀, LedOf c₀, JS LedOf ps P, rfl, WT, ?_, ?_, ?_, hst, F.push _, (fun p hp => ⟨Heap.get?_push_of_some _ (N p (hn p hp)).1, (N p (hn p hp)).2⟩), ⟨c₀, rfl, hk, hp⟩, ?_, ?_⟩
    · intro hm
      exact absurd F.ns.lt ((List.mem_singleton.mp hm) ▸ Nat.lt_irrefl _)
    · intro b hb
      rw [List.mem_singleton.mp hb]
      exact I0
    · intro p hp hI
      exact absurd (Heap.lt_size (N p (hn p hp)).1) ((List.mem_singleton.mp hI) ▸ Nat.lt_irrefl _)
    · rintro i v m₁ nx h tk own hin ⟨ch, u, hn', rfl⟩ ⟨c, rfl, h1, hp'⟩ hoff hown hget hall hst₁ F₁ N₁
      have off1 : OwnOff own ((LedOf c).map (·.1)) := by
        intro p hp b hb e
        obtain ⟨q, hq, rfl⟩ := List.mem_map.mp hb
        exact hoff q hq (e ▸ hown p hp)
      obtain ⟨oI, hoI, _⟩ := id hst₁
      have hI : (s.heap.objs.size, oI) ∈ own := hall _ (.head _) I0 _ hoI
      have N₂ : News h₀ env.locals h (LedOf c ++ own) := fun p hp => N₁ p ((List.mem_append.mp hp).elim (fun h => List.mem_append.mpr (.inr h)) fun h => List.mem_append.mpr (.inl h))
      refine wpAny_mono (turn c i ch u m₁ h tk _ (by simpa using hn') off1 hp' (fr_over0 h1 F₁) N₂) (fun _ s₂ h₂ => wpAny_mono h₂ (fun f s₃ p => ?_) fun _ _ e => e) fun _ _ e => e
      have fin : InvEndG h₀ env.locals (JS LedOf ps P (i + 1)) own { s with heap := h, toks := tk } s₃ →
          LoopStepU h₀ env.locals [s.heap.objs.size] own (JS LedOf ps P (i + 1)) { s with heap := h, toks := tk } .next s₃ := by
        rintro ⟨h', tk', m', news', nx', e, F', N', hn', ho', ha, hS⟩
        refine ⟨rfl, h', tk', m', nx', e, F', fun p hp => N' p ((List.mem_append.mp hp).elim (ho' p) (hn' p)), fun p hp hq => ?_, hS⟩
        exact ha _ hI p.1 (List.mem_map.mpr ⟨p, hp, rfl⟩) (List.mem_singleton.mp hq).symm
      cases f with
      | ret v => exact .ret p
      | brk => exact .brk p
      | next => exact .next (fin p)
      | cont => exact .cont (fin p)
    · rintro h tk m₁ nx F₁ N₁ _ ⟨c, rfl, h1, hp'⟩
      exact done c m₁ h tk hp' (fr_over0 h1 F₁) N₁
  cases ha : xt.cps.all (· < 128)
  · exact wpAny_pyIter_wide ha (go _ _ rfl (Walks.strWide hh _ xt tx) ⟨_, Heap.get?_push_size _ rfl, rfl, rfl⟩)
  · exact wpAny_pyIter_ascii ha (go _ _ rfl (Walks.strAscii hh _ xt tx) ⟨_, Heap.get?_push_size _ rfl, rfl, rfl⟩)
end
end Mine
end
section
open PySem PySem.W PyProof.Rows
set_option maxHeartbeats 8000000
namespace Mine
theorem off_W3 : True := by
  w_top off
  k_with_none
  exact True.intro

/-! the leads -/
structure Ws where
  cnt : List Int
  b : Nat
  n : Nat
  nt : Nat
def wsAdd (cnt : List Int) (b : Nat) : List Int :=
  let c2 := if cnt.length ≤ b then cnt ++ List.replicate (b - cnt.length + 1) 0 else cnt
  c2.set b (c2.getD b 0 + 1)
def wsStep (st : Ws) (c : Nat) : Ws := if c = 32 then { st with b := st.b + 1, n := st.n + 1 } else { cnt := wsAdd st.cnt st.b, b := 0, n := st.n + 1, nt := st.nt + 1 }
def isWs (c : Nat) : Bool := c == 32 || c == 9
def wsRun (l : List Nat) : Ws := (l.takeWhile isWs).foldl wsStep ⟨[], 0, 0, 0⟩
structure WsL where
  st : Ws
  l : Nat
  vs : List Value
  k : Nat
  tb : Tok
  tn : Tok
  tnt : Tok
  tS : Tok
  tT : Tok
  tr : Tok
def wsP (x' d' : Nat) (news : Led) (codes : List Nat) (i : Nat) (c : WsL) : Prop :=
  (codes.take i).all isWs = true ∧ c.st = (codes.take i).foldl wsStep ⟨[], 0, 0, 0⟩ ∧ IntsAre c.vs c.st.cnt ∧ x' < c.l ∧ d' < c.l ∧ AllLt c.l news ∧ c.st.b ≤ i ∧ c.st.cnt.length ≤ i + 1
def wsFin (x' d' : Nat) (news : Led) (codes : List Nat) (c : WsL) : Prop :=
  c.st = wsRun codes ∧ IntsAre c.vs c.st.cnt ∧ x' < c.l ∧ d' < c.l ∧ AllLt c.l news ∧ c.st.b ≤ codes.length ∧ c.st.cnt.length ≤ codes.length + 1
abbrev tupOf (vs : List Value) : Obj := { cls := .type "tuple", data := .seq vs.toArray }
structure WsAt (P : Params) (news : Led) (x : Addr) (st : Ws) (d D1 D2 : Addr) (vs : List Value) (raw : Str) (t1 t2 t3 t4 t5 tr tn tnt tb : Tok) : Prop where
  inst : (x, instObj 76 d) ∈ news
  dict : (d, dictOf [⟨PyData.keyHash P (Str.ofString "raw"), .str (Str.ofString "raw") t1, .str raw tr⟩, ⟨PyData.keyHash P (Str.ofString "n"), .str (Str.ofString "n") t2, .int st.n tn⟩, ⟨PyData.keyHash P (Str.ofString "nt"), .str (Str.ofString "nt") t3, .int st.nt tnt⟩,
      ⟨PyData.keyHash P (Str.ofString "norm"), .str (Str.ofString "norm") t4, .ref D2⟩, ⟨PyData.keyHash P (Str.ofString "is_simple"), .str (Str.ofString "is_simple") t5, .bool (decide ((st.cnt.length : Int) ≤ 1))⟩] 5) ∈ news
  norm : (D2, tupOf [.ref D1, .int st.b tb]) ∈ news
  tup : (D1, tupOf vs) ∈ news
  its : IntsAre vs st.cnt
/-- a Whitespace of the ledger -/
def WsIn (P : Params) (news : Led) (x : Addr) (st : Ws) : Prop :=
  ∃ (d D1 D2 : Addr) (vs : List Value) (raw : Str) (t1 t2 t3 t4 t5 tr tn tnt tb : Tok), WsAt P news x st d D1 D2 vs raw t1 t2 t3 t4 t5 tr tn tnt tb
theorem WsIn.mono {P : Params} {news news' : Led} {x : Addr} {st : Ws} (h : WsIn P news x st) (hs : ∀ p ∈ news, p ∈ news') : WsIn P news' x st := by
  obtain ⟨d, D1, D2, vs, raw, t1, t2, t3, t4, t5, tr, tn, tnt, tb, h1, h2, h3, h4, h5⟩ := h
  exact ⟨d, D1, D2, vs, raw, t1, t2, t3, t4, t5, tr, tn, tnt, tb, hs _ h1, hs _ h2, hs _ h3, hs _ h4, h5⟩
theorem WsIn.use {P : Params} {news : Led} {x : Addr} {st : Ws} {G : Prop} (h : WsIn P news x st) (k : ∀ (d D1 D2 : Addr) (vs : List Value) (raw : Str) (t1 t2 t3 t4 t5 tr tn tnt tb : Tok), WsAt P news x st d D1 D2 vs raw t1 t2 t3 t4 t5 tr tn tnt tb → G) : G := by
  obtain ⟨d, D1, D2, vs, raw, t1, t2, t3, t4, t5, tr, tn, tnt, tb, h⟩ := h
  exact k _ _ _ _ _ _ _ _ _ _ _ _ _ _ h
theorem sign_eq {ch n : Nat} {x : Str} (hx : x = ⟨#[n]⟩) : ((⟨#[ch]⟩ : Str) == x) = decide (ch = n) := by
  subst hx
  by_cases h : ch = n
  · subst h; simp
  · rw [decide_eq_false h]
    exact beq_eq_false_iff_ne.mpr fun e => h (by injection e with e; simpa using e)
theorem wsAdd_old {cnt : List Int} {b : Nat} (h : ¬ (cnt.length : Int) ≤ b) : cnt.set (b : Int).toNat (cnt.getD (b : Int).toNat 0 + 1) = wsAdd cnt b := by
  unfold wsAdd
  have h' : ¬ cnt.length ≤ b := by omega
  simp only [if_neg h', Int.toNat_natCast]
theorem wsAdd_new {cnt : List Int} {b : Nat} (h : (cnt.length : Int) ≤ b) :
    (cnt ++ (List.replicate ((b : Int) - (cnt.length : Int) + 1).toNat [(0 : Int)]).flatten).set (b : Int).toNat ((cnt ++ (List.replicate ((b : Int) - (cnt.length : Int) + 1).toNat [(0 : Int)]).flatten).getD (b : Int).toNat 0 + 1) = wsAdd cnt b := by
  unfold wsAdd
  have h' : cnt.length ≤ b := by omega
  have e : ((b : Int) - (cnt.length : Int) + 1).toNat = b - cnt.length + 1 := by omega
  simp only [if_pos h', Int.toNat_natCast, e, List.flatten_replicate_singleton]
theorem wsAdd_length (cnt : List Int) (b : Nat) : (wsAdd cnt b).length = if cnt.length ≤ b then b + 1 else cnt.length := by
  unfold wsAdd
  by_cases h : cnt.length ≤ b
  · simp only [if_pos h, List.length_set, List.length_append, List.length_replicate]; omega
  · simp only [if_neg h, List.length_set]
theorem ws_take {codes : List Nat} {i ch : Nat} {st : Ws} (hi : codes[i]? = some ch) (h1 : (codes.take i).all isWs = true) (h2 : st = (codes.take i).foldl wsStep ⟨[], 0, 0, 0⟩) (hw : isWs ch = true) :
    (codes.take (i + 1)).all isWs = true ∧ wsStep st ch = (codes.take (i + 1)).foldl wsStep ⟨[], 0, 0, 0⟩ := by
  have e : codes.take (i + 1) = codes.take i ++ [ch] := by rw [List.take_add_one, hi]; rfl
  rw [e, List.all_append, List.foldl_append, h1, ← h2]
  simp [hw]
theorem wsRun_all {codes : List Nat} (h : codes.all isWs = true) : wsRun codes = codes.foldl wsStep ⟨[], 0, 0, 0⟩ := by
  unfold wsRun
  congr 1
  induction codes with
  | nil => rfl
  | cons a r ih =>
    rw [List.all_cons, Bool.and_eq_true] at h
    rw [List.takeWhile_cons, if_pos h.1, ih h.2]
theorem wsRun_brk {codes : List Nat} {i ch : Nat} (hi : codes[i]? = some ch) (h1 : (codes.take i).all isWs = true) (hw : isWs ch = false) : wsRun codes = (codes.take i).foldl wsStep ⟨[], 0, 0, 0⟩ := by
  unfold wsRun
  congr 1
  induction codes generalizing i with
  | nil => cases hi
  | cons a r ih =>
    cases i with
    | zero =>
      obtain rfl : a = ch := by simpa using hi
      rw [List.takeWhile_cons, hw]; rfl
    | succ i =>
      rw [List.take_succ_cons, List.all_cons, Bool.and_eq_true] at h1
      rw [List.takeWhile_cons, if_pos h1.1, List.take_succ_cons, ih (by simpa using hi) h1.2]
section
variable {w : World} {mean : ExcName → Option Value} {mg mb : Str → Option Value}
theorem my_tuple {prog : Program} {A : Around} {E : Value → Shared → Prop} {s : Shared} {h₀ : Heap} {L l : Addr} {m : Str → Option Value} {news : Led} {vs : List Value} {k : Nat} {Q : Value → Shared → Prop} (F : Fr h₀ L s.heap m) (N : News h₀ L s.heap news) (hl : (l, W.listOf vs.toArray k) ∈ news) (hsz : vs.length ≤ sizeLine)
    (h : ∀ (D : Addr) h', Fr h₀ L h' m → News h₀ L h' ((D, ({ cls := .type "tuple", data := .seq vs.toArray } : Obj)) :: news) → (∀ p ∈ news, p.1 < D) → Q (.ref D) { s with heap := h' }) : wpAny (model prog w) A (call (.type "tuple") [.ref l]) Q E s := by
  refine call_tuple_list (⟨_, (N _ hl).1, rfl, k, rfl⟩ : s.heap.IsList l vs.toArray) (fun h' hk => ?_) (by rw [List.size_toArray]; exact hsz)
  have F' : Fr h₀ L h' m := F.keeps hk
  have N' : News h₀ L h' news := fun p hp => ⟨hk _ _ (N p hp).1, (N p hp).2⟩
  exact h _ _ (F'.push _) (N'.push F' _) fun p hp => Heap.lt_size (N' p hp).1
local macro_rules | `(tactic| walk_at $s:str) => `(tactic| k_extra $s)
theorem ctr_ws (news : Led) (x : Str) (t : Tok) (hx : x.length ≤ 1000000) :
    Ctr w mean mg mb 76 3 24 news [.str x t] (fun v tl => ∃ a, v = .ref a ∧ WsIn w.params tl a (wsRun x.cps.toList)) := by
  k_with_none
  k_with "call type:tuple" => (k_here; (with_reducible show wpAny _ _ (call (Value.type _) [Value.ref _]) _ _ _); k_dflt (refine' my_tuple ?k1 ?k2 ?k3 ?k4 ?_; (case k1 => k_asm); (case k2 => k_asm); (case k3 => k_memK); (case k4 => ((have hL9 := IntsAre.length (by assumption)); (simp only [sizeLine_eq]); omega)); k_whole); intro D' h' F' N' l1; (try k_lt l1); (try k_sweep))
  k_with "exec For Name Attribute cons nil" => (k_here; (rename Fr _ _ _ _ => lF'); (with_unfolding_all refine' For_invVF lF' ?k1 ?k2 ?_; (case k1 => exact rfl); (case k2 => exact rfl); k_whole))
  unfold Ctr
  k_fill
  intro dp un gd cn cs a ccd cl outer A₀ base h₀ L m s Q E B F X N T hk hd hu hret
  refine' call_cls ?k1 ?k2 ?k3 ?k4 ?k5 ?k6 ?_; (case k1 => k_asm); (case k2 => k_asm); (case k3 => k_asm); (case k4 => k_is); (case k5 => k_is); (case k6 => k_is); k_whole; intro x' d' h' F' N' l1 l2; (try k_lt2 l2); (try k_sweep)
  cell_enter
  k_steps
  (rename Fr _ _ _ _ => lF); (rename News _ _ _ _ => N3)
  refine' loop_strB (σ := WsL) (fun c => (c.l, W.listOf c.vs.toArray c.k) :: (x', instObj 76 d') :: (d', dictOf [⟨PyData.keyHash w.params (Str.ofString "raw"), .str (Str.ofString "raw") c.tr, .str x t⟩] 1) :: news)
    (fun c => [(Str.ofString "S", .str (Str.ofString " ") c.tS), (Str.ofString "T", .str (Str.ofString "\t") c.tT), (Str.ofString "self", .ref x'), (Str.ofString "count", .ref c.l), (Str.ofString "b", .int c.st.b c.tb), (Str.ofString "n", .int c.st.n c.tn), (Str.ofString "nt", .int c.st.nt c.tnt)])
    (wsP x' d' news x.cps.toList) (wsFin x' d' news x.cps.toList) ⟨⟨[], 0, 0, 0⟩, _, [], 0, _, _, _, _, _, _⟩ rfl lF N3 ?hn ?hk ?hp ?turn ?done ?fin
  case hk => kst_all
  case hn => kst_inAny
  case hp => exact ⟨rfl, rfl, .nil, (by simp only [*]), (by simp only [*]), (by simp only [*]), Nat.le_refl _, Nat.zero_le _⟩
  case done =>
    rintro ⟨st, l9, vs, k, tb, tn, tnt, tS, tT, tr⟩ ⟨h1, h2, h3, h4, h5, h6, h7, h8⟩
    dsimp only at h2 h3 h4 h5 h6 h7 h8
    have e : x.cps.toList.take x.cps.size = x.cps.toList := List.take_of_length_le (by simp)
    rw [e] at h1 h2
    refine ⟨h2.trans (wsRun_all h1).symm, h3, h4, h5, h6, ?_, ?_⟩ <;> simp only [Array.length_toList] <;> assumption
  case turn =>
    rintro ⟨⟨cnt, b, n, nt⟩, l9, vs, k, tb, tn, tnt, tS, tT, tr⟩ i ch t1 m1 h tk own hi hoff ⟨h1, h2, h3, h4, h5, h6, h7, h8⟩ F1 N1
    dsimp only at h1 h2 h3 h4 h5 h6 h7 h8 F1 N1 hoff
    simp only [List.map_cons, List.cons_append] at hoff N1
    have hMk := kstMark
    have hlt0 : i < x.cps.toList.length := (List.getElem?_eq_some_iff.mp hi).1
    have hlt : i < 1000000 := by
      simp only [Array.length_toList] at hlt0
      exact Nat.lt_of_lt_of_le hlt0 hx
    k_steps
    · rename ((⟨#[ch]⟩ : Str) == Str.ofString " ") = true => q1
      rw [sign_eq (n := 32) (by decide +kernel)] at q1
      have q1 := of_decide_eq_true q1
      subst q1
      have W := ws_take hi h1 h2 (by decide)
      refine' turn_end (P := wsP x' d' news x.cps.toList) ⟨⟨cnt, b + 1, n + 1, nt⟩, l9, vs, k, _, _, tnt, tS, tT, tr⟩ ?F ?N ?hn ?ho ?ha ?hk ?hp
      case F => assumption
      case N => assumption
      case hn => kst_inAny
      case ho => intro p hp; simp [hp]
      case ha => exact hoff
      case hk => kst_all
      case hp => exact ⟨W.1, W.2, h3, h4, h5, h6, Nat.succ_le_succ h7, Nat.le_succ_of_le h8⟩
    · rename ((⟨#[ch]⟩ : Str) == Str.ofString "\t") = true => q1
      rw [sign_eq (n := 9) (by decide +kernel)] at q1
      have q1 := of_decide_eq_true q1
      subst q1
      rename (cnt.length : Int) ≤ (b : Int) => hle
      have W := ws_take hi h1 h2 (by decide)
      rename IntsAre (List.set _ _ _) _ => hi9
      rw [wsAdd_new hle] at hi9
      refine' turn_end (P := wsP x' d' news x.cps.toList) ⟨⟨wsAdd cnt b, 0, n + 1, nt + 1⟩, _, _, _, _, _, _, tS, tT, tr⟩ ?F ?N ?hn ?ho ?ha ?hk ?hp
      case F => assumption
      case N => assumption
      case hk => kst_all
      case hn => kst_inAny
      case ho => intro p hp; simp [hp]
      case ha =>
        rename _ ∧ _ ∧ _ ∧ _ ∧ _ ∧ AllLt _ _ => q9
        exact ownOff_cons (allLt_append q9.2.2.2.2.2).2 (ownOff_tail hoff)
      case hp =>
        rename _ ∧ _ ∧ _ ∧ _ ∧ _ ∧ AllLt _ _ => q9
        exact ⟨W.1, W.2, hi9, q9.2.2.2.1, q9.2.2.2.2.1, (allLt_append q9.2.2.2.2.2).1, Nat.zero_le _, by dsimp only; rw [wsAdd_length]; split <;> omega⟩
    · rename ((⟨#[ch]⟩ : Str) == Str.ofString "\t") = true => q1
      rw [sign_eq (n := 9) (by decide +kernel)] at q1
      have q1 := of_decide_eq_true q1
      subst q1
      rename ¬ (cnt.length : Int) ≤ (b : Int) => hle
      have W := ws_take hi h1 h2 (by decide)
      rename IntsAre (List.set _ _ _) _ => hi9
      rw [wsAdd_old hle] at hi9
      refine' turn_end (P := wsP x' d' news x.cps.toList) ⟨⟨wsAdd cnt b, 0, n + 1, nt + 1⟩, l9, _, k, _, _, _, tS, tT, tr⟩ ?F ?N ?hn ?ho ?ha ?hk ?hp
      case F => assumption
      case N => assumption
      case hk => kst_all
      case hn => kst_inAny
      case ho => intro p hp; simp [hp]
      case ha => exact hoff
      case hp => exact ⟨W.1, W.2, hi9, h4, h5, h6, Nat.zero_le _, by dsimp only; rw [wsAdd_length]; split <;> omega⟩
    · rename ((⟨#[ch]⟩ : Str) == Str.ofString " ") = false => q1
      rename ((⟨#[ch]⟩ : Str) == Str.ofString "\t") = false => q2
      rw [sign_eq (n := 32) (by decide +kernel)] at q1
      rw [sign_eq (n := 9) (by decide +kernel)] at q2
      have hw : isWs ch = false := by
        have q1 := of_decide_eq_false q1
        have q2 := of_decide_eq_false q2
        simp [isWs, q1, q2]
      refine ⟨⟨⟨cnt, b, n, nt⟩, l9, vs, k, tb, tn, tnt, tS, tT, tr⟩, _, _, _, rfl, F1, ?_, ?_, ?_⟩
      · intro p hp; exact N1 p (by simp only [List.mem_cons, List.mem_append] at hp ⊢; rcases hp with h | h | h | h <;> simp [h])
      · kst_all
      · exact ⟨h2.trans (wsRun_brk hi h1 hw).symm, h3, h4, h5, h6, (by dsimp only; omega), (by dsimp only; omega)⟩
  case fin =>
    rintro ⟨⟨cnt, b, n, nt⟩, l9, vs, k, tb, tn, tnt, tS, tT, tr⟩ m1 h tk ⟨h2, h3, h4, h5, h6, h7, h8⟩ F1 N1
    dsimp only at h2 h3 h4 h5 h6 h7 h8 F1 N1
    have hMk := kstMark
    simp only [Array.length_toList] at h7 h8
    have hx' : x.cps.size ≤ 1000000 := hx
    k_steps
    rename _ ∧ _ ∧ _ ∧ _ ∧ AllLt _ _ => q5
    rename _ ∧ _ ∧ _ ∧ AllLt _ _ => q4
    rename News h₀ L _ _ => kN
    refine' hret _ (_ :: _ :: _ :: _ :: _ :: []) _ _ (by assumption) kN ?off ⟨x', rfl, ?wi⟩
    case off => exact ownOff_new q5.2.2.2.2 (ownOff_new q4.2.2.2 (ownOff_new h6 (ownOff_new (allLt_up (Nat.le_of_lt l2) (allLt_of l1)) (ownOff_new (allLt_of l1) ownOff_nil))))
    case wi =>
      rw [← h2]
      exact ⟨d', _, _, vs, x, _, _, _, _, _, _, _, _, _, .tail _ (.tail _ (.tail _ (.head _))), .tail _ (.tail _ (.tail _ (.tail _ (.head _)))), .head _, .tail _ (.head _), h3⟩
end
end Mine
end
section
open PySem PySem.W PyProof.Rows
set_option maxHeartbeats 8000000
namespace Mine
theorem off_W4 : True := by
  w_top off
  k_with_none
  exact True.intro
def lvT (cnt : List Int) (ts : Int) (j : Nat) : Int := Int.fdiv (ts + j) ts * cnt.getD (ts + j).toNat 0
def lvS (cnt : List Int) (ts : Int) (k : Nat) : Int := ((List.range k).map (lvT cnt ts)).sum
def levelOf (st : Ws) (ts : Int) : Int := st.b + ts * (lvS st.cnt ts ((st.cnt.length : Int) - ts).toNat + st.nt)
/-- the sizes that the walk wants -/
structure WsOk (st : Ws) : Prop where
  len : st.cnt.length ≤ 2000000
  b : st.b ≤ 2000000
  n : st.n ≤ 2000000
  nt : st.nt ≤ 2000000
  pos : ∀ c ∈ st.cnt, 0 ≤ c ∧ c ≤ 2000000
section
variable {prog : Program} {w : World} {A : Around} {E : Value → Shared → Prop} {s : Shared} {h₀ : Heap} {L a : Addr} {m : Str → Option Value} {news : Led} {vs : List Value} {ns : List Int} {Q : Value → Shared → Prop}
theorem my_lenT (N : News h₀ L s.heap news) (hm : (a, tupOf vs) ∈ news) (hi : IntsAre vs ns) (hb : ns.length < 1000000000) (h : Q (.int (ns.length : Int) (s.toks + 1)) { s with toks := s.toks + 1 + 1 }) : wpAny (model prog w) A (call (.builtin "len") [.ref a]) Q E s := by
  have hl := hi.length
  exact PyProof.Rows.len_tuple (News.isTup N hm) (by rw [List.size_toArray]; omega) (by rw [List.size_toArray, hl]; exact h)
theorem my_itemT {value slice : Expr} {k : Int} {u : Tok} (N : News h₀ L s.heap news) (hm : (a, tupOf vs) ∈ news) (hi : IntsAre vs ns) (h0 : 0 ≤ k) (h1 : k < ns.length) (hb : ns.length < 1000000000) (h : ∀ t, Q (.int (ns.getD k.toNat 0) t) s)
    (hs : subscripted slice false (.ref a) (.int k u) = operate [.ref a, .int k u] (getItem (.ref a) (.int k u)) := by with_unfolding_all rfl) (hg : ∀ r, letTemporaryGo value (.ref a) r = pure () := by intro _; with_unfolding_all rfl) :
    wpAny (model prog w) A (subscriptTail value slice (.ref a) (.int k u)) Q E s := item_tuple_ints (News.isTup N hm) hi h0 h1 (by omega) h hs hg
end
theorem WsOk.bits {st : Ws} (ok : WsOk st) (k : Nat) : Builtin.Int.intBits (st.cnt.getD k 0) ≤ 64 := by
  have h : 0 ≤ st.cnt.getD k 0 ∧ st.cnt.getD k 0 ≤ 2000000 := by
    rw [List.getD_eq_getElem?_getD]
    cases e : st.cnt[k]? with
    | none => simp
    | some c => exact ok.pos c (List.mem_of_getElem? e)
  exact intBits_le_64 (by omega) (by omega)
structure LvL where
  il : Int
  t1 : Tok
section
variable {w : World} {mean : ExcName → Option Value} {mg mb : Str → Option Value}
local macro_rules | `(tactic| walk_at $s:str) => `(tactic| k_extra $s)
theorem ctr_level (news : Led) (x : Addr) (st : Ws) (ts : Int) (t : Tok) (hx : WsIn w.params news x st) (ok : WsOk st) (h1 : 1 ≤ ts) (h2 : ts ≤ 1000000000) :
    Ctr w mean mg mb 45 1 8 news [.ref x, .int ts t] (fun v tl => tl = [] ∧ ∃ t', v = .int (levelOf st ts) t') := by
  k_with_none
  k_with "exec For Name Call cons nil" => (k_here; (rename Fr _ _ _ _ => lF'); (with_unfolding_all refine' For_stop lF' ?k1 ?k2 ?_; (case k1 => exact rfl); (case k2 => exact rfl); k_whole))
  k_with "call builtin:len" => (k_here; (with_reducible show wpAny _ _ (call (Value.builtin "len") [Value.ref _]) _ _ _); k_dflt (refine' my_lenT ?k1 ?k2 ?k3 ?k4 ?_; (case k1 => k_asm); (case k2 => k_mem); (case k3 => assumption); (case k4 => omega); k_whole))
  k_with "subscriptTail" => (k_here; (with_reducible show wpAny _ _ (subscriptTail _ _ (Value.ref _) (Value.int _ _)) _ _ _); k_dflt (refine' my_itemT ?k1 ?k2 ?k3 ?k4 ?k5 ?k6 ?_ ?k7 ?k8; (case k1 => k_asm); (case k2 => k_mem); (case k3 => assumption); (case k4 => omega); (case k5 => omega); (case k6 => omega); (case k7 => with_unfolding_all rfl); (case k8 => (intro _; with_unfolding_all rfl)); k_whole); intro _)
  k_with "binaryOp Mult int int" => ((rename WsOk _ => ok'); (with_reducible refine mul_int ?_ (IntMulOk.of_right (WsOk.bits ok' _))))
  obtain ⟨d, D1, D2, vs, raw, t1, t2, t3, t4, t5, tr, tn, tnt, tb, i1, i2, i3, i4, i5⟩ := hx
  have hlen := ok.len
  unfold Ctr
  k_fill
  intro dp un gd cn cs a ccd cl outer A₀ base h₀ L m s Q E B F X N T hk hd hu hret
  refine wpAny_call ?_
  cell_enter
  k_steps
  refine Stop.mk ?_
  (rename Fr _ _ _ _ => lF); (rename News _ _ _ _ => lN); (rename IsRange _ _ _ _ _ _ _ _ => rg)
  refine' loop_range (n := ((st.cnt.length : Int) - ts).toNat) (σ := LvL) (fun _ => news) (fun c => [(Str.ofString "self", .ref x), (Str.ofString "tabsize", .int ts t), (Str.ofString "count", .ref D1), (Str.ofString "trailing", .int st.b tb), (Str.ofString "il", .int c.il c.t1)])
    (fun i c => c.il = lvS st.cnt ts i) ⟨0, _⟩ rfl rg (small_one (by omega) (by omega) (by omega) (by omega)) (rangeSize_nat _ _) lF lN ?hn ?hk ?hp ?turn ?fin
  case hk => kst_all
  case hn => exact fun _ h => h
  case hp => rfl
  case turn =>
    rintro ⟨il, tl⟩ i t1 m1 h tk own hi hoff hP F1 N1
    dsimp only at hP F1 N1 hoff
    have hi0 : 0 ≤ ts + (i : Int) := by omega
    have hi1 : ts + (i : Int) < st.cnt.length := by omega
    k_steps
    refine' turn_end (P := fun i (c : LvL) => c.il = lvS st.cnt ts i) ⟨_, _⟩ ?F ?N ?hn ?ho ?ha ?hk ?hp
    case F => assumption
    case N => assumption
    case hk => kst_all
    case hn => intro p hp; simp [hp]
    case ho => intro p hp; simp [hp]
    case ha => exact hoff
    case hp =>
      dsimp only
      unfold lvS
      rw [List.range_succ, List.map_append, List.sum_append, hP]
      simp [lvS, lvT]
  case fin =>
    rintro ⟨il, tl⟩ m1 h tk hP F1 N1
    dsimp only at hP F1 N1
    subst hP
    k_steps
    exact ret0 hret (by assumption) (by assumption) ⟨rfl, _, rfl⟩
end
end Mine
end
section
open PySem PySem.W PyProof.Rows
set_option maxHeartbeats 8000000
namespace Mine
theorem off_W5 : True := by
  w_top off
  k_with_none
  exact True.intro
def lrun (st : Ws) : Int := max ((st.cnt.length : Int) - 1) st.b
def topOf (a b : Ws) : Int := max (lrun a) (lrun b) + 1
def lessB (a b : Ws) : Bool :=
  if (a.n : Int) ≥ b.n then false
  else (List.range (topOf a b - 1).toNat).all fun (i : Nat) => decide (levelOf a (2 + (i : Int)) < levelOf b (2 + (i : Int)))
theorem lessB_no {a b : Ws} (h : (b.n : Int) ≤ a.n) : lessB a b = false := by
  unfold lessB; rw [if_pos h]
theorem lessB_at {a b : Ws} {i : Nat} (h1 : ¬ (b.n : Int) ≤ a.n) (hi : i < (topOf a b - 1).toNat) (h : levelOf b (2 + (i : Int)) ≤ levelOf a (2 + (i : Int))) : lessB a b = false := by
  unfold lessB
  rw [if_neg h1, List.all_eq_false]
  exact ⟨i, List.mem_range.mpr hi, by simpa using h⟩
theorem lessB_all {a b : Ws} (h1 : ¬ (b.n : Int) ≤ a.n) (h : ∀ i : Nat, i < (topOf a b - 1).toNat → levelOf a (2 + (i : Int)) < levelOf b (2 + (i : Int))) : lessB a b = true := by
  unfold lessB
  rw [if_neg h1, List.all_eq_true]
  exact fun i hi => decide_eq_true (h i (List.mem_range.mp hi))
theorem top_sz (a b : Ws) (k : Int) : ((if lrun b > lrun a then lrun b else lrun a) + 1 + 1 - k).toNat = (topOf a b + 1 - k).toNat := by
  unfold topOf
  split <;> congr 1 <;> omega
theorem lrun_le {st : Ws} (ok : WsOk st) : lrun st ≤ 2000000 ∧ -1 ≤ lrun st := by
  have h1 := ok.len; have h2 := ok.b
  unfold lrun
  omega
theorem ret0' {h₀ : Heap} {L : Addr} {m : Str → Option Value} {s : Shared} {Q : Value → Shared → Prop} {news l : Led} {R : Value → Led → Prop}
    (hret : ∀ (v : Value) (tl : Led) (h' : Heap) (tk' : Nat), Fr h₀ L h' m → News h₀ L h' (tl ++ news) → OwnOff tl (news.map (·.1)) → R v tl → Q v { s with heap := h', toks := tk' })
    {v : Value} {h' : Heap} {tk' : Nat} (F : Fr h₀ L h' m) (N : News h₀ L h' l) (hs : ∀ p ∈ news, p ∈ l) (hR : R v []) : Q v { s with heap := h', toks := tk' } :=
  hret v [] h' tk' F (fun p hp => N p (hs p hp)) (fun _ hp => nomatch hp) hR
section
variable {w : World} {mean : ExcName → Option Value} {mg mb : Str → Option Value}
section
local macro_rules | `(tactic| walk_at $s:str) => `(tactic| k_extra $s)
theorem ctr_lrun (news : Led) (x : Addr) (st : Ws) (hx : WsIn w.params news x st) (ok : WsOk st) :
    Ctr w mean mg mb 38 1 8 news [.ref x] (fun v tl => tl = [] ∧ ∃ t', v = .int (lrun st) t') := by
  k_with_none
  k_with "call builtin:len" => (k_here; (with_reducible show wpAny _ _ (call (Value.builtin "len") [Value.ref _]) _ _ _); k_dflt (refine' my_lenT ?k1 ?k2 ?k3 ?k4 ?_; (case k1 => k_asm); (case k2 => k_mem); (case k3 => assumption); (case k4 => omega); k_whole))
  obtain ⟨d, D1, D2, vs, raw, t1, t2, t3, t4, t5, tr, tn, tnt, tb, i1, i2, i3, i4, i5⟩ := hx
  have hlen := ok.len
  unfold Ctr
  k_fill
  intro dp un gd cn cs a ccd cl outer A₀ base h₀ L m s Q E B F X N T hk hd hu hret
  refine wpAny_call ?_
  cell_enter
  k_steps
  refine' ret0 hret (by assumption) (by assumption) ⟨rfl, _, congrArg (fun z => Value.int z _) ?_⟩
  unfold lrun
  split <;> omega
end
section
local macro_rules | `(tactic| walk_at $s:str) => `(tactic| k_extra $s)
theorem ctr_less (news : Led) (x y : Addr) (st su : Ws) (hx : WsIn w.params news x st) (ok : WsOk st) (hy : WsIn w.params news y su) (oku : WsOk su) (hns : 2 ≤ st.cnt.length) :
    Ctr w mean mg mb 66 2 16 news [.ref x, .ref y] (fun v tl => tl = [] ∧ v = .bool (lessB st su)) := by
  k_with_none
  k_with "exec For Name Call cons nil" => (k_here; (rename Fr _ _ _ _ => lF'); (with_unfolding_all refine' For_stop lF' ?k1 ?k2 ?_; (case k1 => exact rfl); (case k2 => exact rfl); k_whole))
  k_with "call ref" => (k_here; k_dflt (refine' Ctr.use (ctr_level _ _ _ _ _ ?wi ?ok ?h1 ?h2) ?k1 ?k2 ?k3 ?k4 ?k5 ?kK ?kd ?ku ?_); (case k1 => k_asm); (case k2 => k_asm); (case k3 => k_asm); (case k4 => k_asm); (case wi => first | assumption | exact WsIn.mono (by assumption) (by intro p hp; simp [hp])); (case ok => assumption); (case h1 => omega); (case h2 => omega); (case k5 => k_asm); (case kK => exact rfl); (case kd => ktr_room); (case ku => ktr_units); intro v' tl' h' tk' F' N' o' hR'; obtain ⟨e', t', e2'⟩ := hR'; subst e'; subst e2'; clear o'; (try simp only [List.nil_append] at N'))
  k_with "call ref" => (k_here; k_dflt (refine' Ctr.use (ctr_lrun _ _ _ ?wi ?ok) ?k1 ?k2 ?k3 ?k4 ?k5 ?kK ?kd ?ku ?_); (case k1 => k_asm); (case k2 => k_asm); (case k3 => k_asm); (case k4 => k_asm); (case wi => first | assumption | exact WsIn.mono (by assumption) (by intro p hp; simp [hp])); (case ok => assumption); (case k5 => k_asm); (case kK => exact rfl); (case kd => ktr_room); (case ku => ktr_units); intro v' tl' h' tk' F' N' o' hR'; obtain ⟨e', t', e2'⟩ := hR'; subst e'; subst e2'; clear o'; (try simp only [List.nil_append] at N'))
  have hx2 := hx
  have hy2 := hy
  obtain ⟨d, D1, D2, vs, raw, t1, t2, t3, t4, t5, tr, tn, tnt, tb, i1, i2, i3, i4, i5⟩ := hx2
  obtain ⟨d', D1', D2', vs', raw', t1', t2', t3', t4', t5', tr', tn', tnt', tb', i1', i2', i3', i4', i5'⟩ := hy2
  have hlen := ok.len
  have hl1 := lrun_le ok
  have hl2 := lrun_le oku
  unfold Ctr
  k_fill
  intro dp un gd cn cs a ccd cl outer A₀ base h₀ L m s Q E B F X N T hk hd hu hret
  refine wpAny_call ?_
  cell_enter
  k_steps
  · exact ret0 hret (by assumption) (by assumption) ⟨rfl, by rw [lessB_no (by assumption)]⟩
  · refine Stop.mk ?_
    rename ¬ (su.n : Int) ≤ st.n => hn1
    (rename Fr _ _ _ _ => lF); (rename News _ _ _ _ => lN); (rename IsRange _ _ _ _ _ _ _ _ => rg)
    refine' loop_range (n := (topOf st su - 1).toNat) (σ := Unit) (fun _ => news) (fun _ => [(Str.ofString "self", .ref x), (Str.ofString "other", .ref y)])
      (fun i _ => ∀ j : Nat, j < i → levelOf st (2 + (j : Int)) < levelOf su (2 + (j : Int))) () rfl rg (small_one (by omega) (by omega) (by split <;> omega) (by split <;> omega)) ((rangeSize_nat _ _).trans (by rw [top_sz]; congr 2; omega)) lF lN ?hn ?hk ?hp ?turn ?fin
    case hk => kst_all
    case hn => exact fun _ h => h
    case hp => intro j hj; omega
    case turn =>
      rintro ⟨⟩ i t1 m1 h tk own hi hoff hP F1 N1
      try dsimp only at F1 N1 hoff
      have ht : topOf st su ≤ 2000001 := by unfold topOf; omega
      k_steps
      · exact ret0' hret (by assumption) (by assumption) (by intro p hp; simp [hp]) ⟨rfl, by rw [lessB_at hn1 hi (by assumption)]⟩
      · refine' turn_end (P := fun i (_ : Unit) => ∀ j : Nat, j < i → levelOf st (2 + (j : Int)) < levelOf su (2 + (j : Int))) () ?F ?N ?hn ?ho ?ha ?hk ?hp
        case F => assumption
        case N => assumption
        case hk => kst_all
        case hn => intro p hp; simp [hp]
        case ho => intro p hp; simp [hp]
        case ha => exact hoff
        case hp =>
          intro j hj
          rcases Nat.lt_succ_iff_lt_or_eq.mp hj with h | rfl
          · exact hP j h
          · exact Int.not_le.mp (by assumption)
    case fin =>
      rintro ⟨⟩ m1 h tk hP F1 N1
      try dsimp only at F1 N1
      k_steps
      exact ret0 hret (by assumption) (by assumption) ⟨rfl, by rw [lessB_all hn1 hP]⟩
end
end
end Mine
end
section
open PySem PySem.W PyProof.Rows
set_option maxHeartbeats 8000000
namespace Mine
local macro_rules | `(tactic| walk_at "none such") => `(tactic| skip)
theorem off_W6 : True := by
  w_top off
  k_with_none
  exact True.intro
abbrev Row := Int × Int × Int
def rowD (r : Row) : Dat := Dat.tuple [Dat.int r.1, Dat.int r.2.1, Dat.int r.2.2]
def witL (p : Int → Int → Bool) (a b : Ws) (k : Nat) : List Row := ((List.range k).map fun (i : Nat) => ((1 + (i : Int)), levelOf a (1 + (i : Int)), levelOf b (1 + (i : Int)))).filter fun r => p r.2.1 r.2.2
theorem witL_succ {p : Int → Int → Bool} {a b : Ws} {k : Nat} : witL p a b (k + 1) = witL p a b k ++ (if p (levelOf a (1 + (k : Int))) (levelOf b (1 + (k : Int))) = true then [((1 + (k : Int)), levelOf a (1 + (k : Int)), levelOf b (1 + (k : Int)))] else []) := by
  unfold witL
  rw [List.range_succ, List.map_append, List.filter_append]
  congr 1
  simp only [List.map_cons, List.map_nil, List.filter_cons, List.filter_nil]
theorem witL_length (p : Int → Int → Bool) (a b : Ws) (k : Nat) : (witL p a b k).length ≤ k := by
  unfold witL
  refine Nat.le_trans (List.length_filter_le _ _) ?_
  simp
/-- rows of ints in the ledger -/
def RowsIn (tl : Led) (v : Value) (rows : List Row) : Prop := ∃ la vs k, v = .ref la ∧ (la, W.listOf vs.toArray k) ∈ tl ∧ DatAll tl vs (rows.map rowD)
structure WitL where
  la : Nat
  vs : List Value
  k : Nat
  tl : Led
def witP (p : Int → Int → Bool) (st su : Ws) (news : Led) (i : Nat) (c : WitL) : Prop :=
  DatAll c.tl c.vs ((witL p st su i).map rowD) ∧ OwnOff c.tl [c.la] ∧ OwnOff c.tl (news.map (·.1)) ∧ AllLt c.la news
theorem DatAll.len {news : Led} {vs : List Value} {rows : List Row} {n : Nat} (h : DatAll news vs (rows.map rowD)) (hn : rows.length ≤ n) : vs.length ≤ n := by
  have := W.DatAll.length h
  rw [List.length_map] at this
  omega
theorem ownOff_ins {own : Led} {a d : Addr} {r : List Addr} (h : OwnOff own (a :: r)) (hd : AllLt d own) : OwnOff own (a :: d :: r) := by
  intro p hp b hb
  rcases List.mem_cons.mp hb with rfl | hb
  · exact h p hp _ (.head _)
  · rcases List.mem_cons.mp hb with rfl | hb
    · exact Nat.ne_of_lt (kst_ltOf hd p hp)
    · exact h p hp b (.tail _ hb)
theorem wit_step {p : Int → Int → Bool} {st su : Ws} {news own : Led} {i la : Nat} {us : List Value} {k k' : Nat} {tl : Led} {D : Addr} {e : Int} {a1 a2 a3 : Tok} (h : witP p st su news i ⟨la, us, k, tl⟩) (l1 : la < D ∧ AllLt D (tl ++ (news ++ own))) (hp : p (levelOf st (1 + (i : Int))) (levelOf su (1 + (i : Int))) = true) (he : e = 1 + (i : Int)) :
    witP p st su news (i + 1) ⟨la, us ++ [.ref D], k', (D, tupOf [.int e a1, .int (levelOf st (1 + (i : Int))) a2, .int (levelOf su (1 + (i : Int))) a3]) :: tl⟩ := by
  obtain ⟨g1, g2, g3, g4⟩ := h
  subst he
  have q := allLt_append l1.2
  have q2 := allLt_append q.2
  refine ⟨?_, ?_, ownOff_new q2.1 g3, g4⟩
  · dsimp only
    rw [witL_succ, if_pos hp, List.map_append]
    exact (g1.mono fun _ h => .tail _ h).append (.one (.tuple (.head _) (.cons (.int _ _) (.cons (.int _ _) (.cons (.int _ _) .nil)))))
  · intro p hp b hb
    obtain rfl := List.mem_singleton.mp hb
    rcases List.mem_cons.mp hp with rfl | hp
    · exact Nat.ne_of_gt l1.1
    · exact g2 p hp _ (.head _)
theorem wit_skip {p : Int → Int → Bool} {st su : Ws} {news : Led} {i : Nat} {c : WitL} (h : witP p st su news i c) (hp : p (levelOf st (1 + (i : Int))) (levelOf su (1 + (i : Int))) = false) : witP p st su news (i + 1) c := by
  obtain ⟨g1, g2, g3, g4⟩ := h
  refine ⟨?_, g2, g3, g4⟩
  rw [witL_succ, hp, if_neg Bool.false_ne_true, List.append_nil]
  exact g1
section
variable {w : World} {mean : ExcName → Option Value} {mg mb : Str → Option Value}
section
local macro_rules | `(tactic| walk_at $s:str) => `(tactic| k_extra $s)
local macro_rules | `(tactic| k_mem) => `(tactic| first | assumption | exact List.Mem.head _ | (refine List.Mem.tail _ ?_; k_mem) | (refine List.mem_append_left _ ?_; k_mem) | (refine List.mem_append_right _ ?_; k_mem))
theorem ctr_neWit (news : Led) (x y : Addr) (st su : Ws) (hx : WsIn w.params news x st) (ok : WsOk st) (hy : WsIn w.params news y su) (oku : WsOk su) :
    Ctr w mean mg mb 59 2 16 news [.ref x, .ref y] (fun v tl => RowsIn tl v (witL (fun a b => decide (a ≠ b)) st su (topOf st su).toNat)) := by
  k_with_none
  k_with "exec For Name Call cons nil" => (k_here; (rename Fr _ _ _ _ => lF'); (with_unfolding_all refine' For_stop lF' ?k1 ?k2 ?_; (case k1 => exact rfl); (case k2 => exact rfl); k_whole))
  k_with "call ref" => (k_here; k_dflt (refine' Ctr.use (ctr_level _ _ _ _ _ ?wi ?ok ?h1 ?h2) ?k1 ?k2 ?k3 ?k4 ?k5 ?kK ?kd ?ku ?_); (case k1 => k_asm); (case k2 => k_asm); (case k3 => k_asm); (case k4 => k_asm); (case wi => first | assumption | exact WsIn.mono (by assumption) (by intro p hp; simp [hp])); (case ok => assumption); (case h1 => omega); (case h2 => omega); (case k5 => k_asm); (case kK => exact rfl); (case kd => ktr_room); (case ku => ktr_units); intro v' tl' h' tk' F' N' o' hR'; obtain ⟨e', t', e2'⟩ := hR'; subst e'; subst e2'; clear o'; (try simp only [List.nil_append] at N'))
  k_with "call ref" => (k_here; k_dflt (refine' Ctr.use (ctr_lrun _ _ _ ?wi ?ok) ?k1 ?k2 ?k3 ?k4 ?k5 ?kK ?kd ?ku ?_); (case k1 => k_asm); (case k2 => k_asm); (case k3 => k_asm); (case k4 => k_asm); (case wi => first | assumption | exact WsIn.mono (by assumption) (by intro p hp; simp [hp])); (case ok => assumption); (case k5 => k_asm); (case kK => exact rfl); (case kd => ktr_room); (case ku => ktr_units); intro v' tl' h' tk' F' N' o' hR'; obtain ⟨e', t', e2'⟩ := hR'; subst e'; subst e2'; clear o'; (try simp only [List.nil_append] at N'))
  have hx2 := hx
  have hy2 := hy
  obtain ⟨d, D1, D2, vs, raw, t1, t2, t3, t4, t5, tr, tn, tnt, tb, i1, i2, i3, i4, i5⟩ := hx2
  obtain ⟨d', D1', D2', vs', raw', t1', t2', t3', t4', t5', tr', tn', tnt', tb', i1', i2', i3', i4', i5'⟩ := hy2
  have hlen := ok.len
  have hl1 := lrun_le ok
  have hl2 := lrun_le oku
  unfold Ctr
  k_fill
  intro dp un gd cn cs a ccd cl outer A₀ base h₀ L m s Q E B F X N T hk hd hu hret
  refine wpAny_call ?_
  cell_enter
  k_steps
  refine Stop.mk ?_
  (rename Fr _ _ _ _ => lF); (rename News _ _ _ _ => lN); (rename IsRange _ _ _ _ _ _ _ _ => rg)
  rename ∀ p ∈ news, p.1 < _ => l1
  refine' loop_range (n := (topOf st su).toNat) (σ := WitL) (fun c => (c.la, W.listOf c.vs.toArray c.k) :: (c.tl ++ news)) (fun c => [(Str.ofString "self", .ref x), (Str.ofString "other", .ref y), (Str.ofString "a", .ref c.la)])
    (witP (fun a b => decide (a ≠ b)) st su news) ⟨_, [], 0, []⟩ rfl rg (small_one (by omega) (by omega) (by split <;> omega) (by split <;> omega)) ((rangeSize_nat _ _).trans (by rw [top_sz]; congr 2; omega)) lF lN ?hn ?hk ?hp ?turn ?fin
  case hk => kst_all
  case hn => kst_inAny
  case hp => exact ⟨.nil, ownOff_nil, ownOff_nil, allLt_of l1⟩
  case turn =>
    rintro ⟨la, us, k, tl⟩ i t9 m1 h tk own hi hoff ⟨g1, g2, g3, g4⟩ F1 N1
    dsimp only at g1 g2 g3 g4 F1 N1 hoff
    simp only [List.map_cons, List.map_append, List.cons_append, List.append_assoc] at hoff N1
    have ht : topOf st su ≤ 2000001 := by unfold topOf; omega
    have hMk := kstMark
    have hul := DatAll.len g1 (Nat.le_trans (witL_length _ _ _ _) (Nat.le_refl i))
    have hul2 : us.length ≤ 3000000 := by omega
    k_steps
    · rename _ ∧ AllLt _ _ => q9
      rename levelOf st _ ≠ levelOf su _ => hne
      (rename News _ _ _ _ => N9); (simp only [List.push_toArray] at N9)
      refine' turn_end (P := witP (fun a b => decide (a ≠ b)) st su news) ⟨la, us ++ [.ref _], _, (_, tupOf [.int _ _, .int _ _, .int _ _]) :: tl⟩ ?F N9 ?hn ?ho ?ha ?hk ?hp
      case F => assumption
      case hk => kst_all
      case hp => exact wit_step (k := k) ⟨g1, g2, g3, g4⟩ q9 (decide_eq_true hne) rfl
      case hn => kst_inAny
      case ho => intro p hp; simp [hp]
      case ha => simp only [List.map_cons, List.map_append, List.cons_append]; exact ownOff_ins hoff (allLt_append (allLt_append q9.2).2).2
    · rename levelOf st _ = levelOf su _ => heq
      refine' turn_end (P := witP (fun a b => decide (a ≠ b)) st su news) ⟨la, us, k, tl⟩ ?F ?N ?hn ?ho ?ha ?hk ?hp
      case F => assumption
      case N => assumption
      case hk => kst_all
      case hn => intro p hp; simp only [List.mem_cons, List.mem_append] at hp ⊢; rcases hp with h | h | h <;> simp [h]
      case ho => intro p hp; simp [hp]
      case ha => simp only [List.map_cons, List.map_append]; exact hoff
      case hp => exact wit_skip ⟨g1, g2, g3, g4⟩ (decide_eq_false (not_not_intro heq))
  case fin =>
    rintro ⟨la, us, k, tl⟩ m1 h tk ⟨g1, g2, g3, g4⟩ F1 N1
    dsimp only at g1 g2 g3 g4 F1 N1
    k_steps
    rename News h₀ L _ _ => kN
    exact hret _ ((la, W.listOf us.toArray k) :: tl) _ _ (by assumption) kN (ownOff_new g4 g3) ⟨la, us, k, rfl, .head _, g1.mono fun _ h => .tail _ h⟩
theorem ctr_leWit (news : Led) (x y : Addr) (st su : Ws) (hx : WsIn w.params news x st) (ok : WsOk st) (hy : WsIn w.params news y su) (oku : WsOk su) :
    Ctr w mean mg mb 73 2 16 news [.ref x, .ref y] (fun v tl => RowsIn tl v (witL (fun a b => decide (a ≥ b)) st su (topOf st su).toNat)) := by
  k_with_none
  k_with "exec For Name Call cons nil" => (k_here; (rename Fr _ _ _ _ => lF'); (with_unfolding_all refine' For_stop lF' ?k1 ?k2 ?_; (case k1 => exact rfl); (case k2 => exact rfl); k_whole))
  k_with "call ref" => (k_here; k_dflt (refine' Ctr.use (ctr_level _ _ _ _ _ ?wi ?ok ?h1 ?h2) ?k1 ?k2 ?k3 ?k4 ?k5 ?kK ?kd ?ku ?_); (case k1 => k_asm); (case k2 => k_asm); (case k3 => k_asm); (case k4 => k_asm); (case wi => first | assumption | exact WsIn.mono (by assumption) (by intro p hp; simp [hp])); (case ok => assumption); (case h1 => omega); (case h2 => omega); (case k5 => k_asm); (case kK => exact rfl); (case kd => ktr_room); (case ku => ktr_units); intro v' tl' h' tk' F' N' o' hR'; obtain ⟨e', t', e2'⟩ := hR'; subst e'; subst e2'; clear o'; (try simp only [List.nil_append] at N'))
  k_with "call ref" => (k_here; k_dflt (refine' Ctr.use (ctr_lrun _ _ _ ?wi ?ok) ?k1 ?k2 ?k3 ?k4 ?k5 ?kK ?kd ?ku ?_); (case k1 => k_asm); (case k2 => k_asm); (case k3 => k_asm); (case k4 => k_asm); (case wi => first | assumption | exact WsIn.mono (by assumption) (by intro p hp; simp [hp])); (case ok => assumption); (case k5 => k_asm); (case kK => exact rfl); (case kd => ktr_room); (case ku => ktr_units); intro v' tl' h' tk' F' N' o' hR'; obtain ⟨e', t', e2'⟩ := hR'; subst e'; subst e2'; clear o'; (try simp only [List.nil_append] at N'))
  have hx2 := hx
  have hy2 := hy
  obtain ⟨d, D1, D2, vs, raw, t1, t2, t3, t4, t5, tr, tn, tnt, tb, i1, i2, i3, i4, i5⟩ := hx2
  obtain ⟨d', D1', D2', vs', raw', t1', t2', t3', t4', t5', tr', tn', tnt', tb', i1', i2', i3', i4', i5'⟩ := hy2
  have hlen := ok.len
  have hl1 := lrun_le ok
  have hl2 := lrun_le oku
  unfold Ctr
  k_fill
  intro dp un gd cn cs a ccd cl outer A₀ base h₀ L m s Q E B F X N T hk hd hu hret
  refine wpAny_call ?_
  cell_enter
  k_steps
  refine Stop.mk ?_
  (rename Fr _ _ _ _ => lF); (rename News _ _ _ _ => lN); (rename IsRange _ _ _ _ _ _ _ _ => rg)
  rename ∀ p ∈ news, p.1 < _ => l1
  refine' loop_range (n := (topOf st su).toNat) (σ := WitL) (fun c => (c.la, W.listOf c.vs.toArray c.k) :: (c.tl ++ news)) (fun c => [(Str.ofString "self", .ref x), (Str.ofString "other", .ref y), (Str.ofString "a", .ref c.la)])
    (witP (fun a b => decide (a ≥ b)) st su news) ⟨_, [], 0, []⟩ rfl rg (small_one (by omega) (by omega) (by split <;> omega) (by split <;> omega)) ((rangeSize_nat _ _).trans (by rw [top_sz]; congr 2; omega)) lF lN ?hn ?hk ?hp ?turn ?fin
  case hk => kst_all
  case hn => kst_inAny
  case hp => exact ⟨.nil, ownOff_nil, ownOff_nil, allLt_of l1⟩
  case turn =>
    rintro ⟨la, us, k, tl⟩ i t9 m1 h tk own hi hoff ⟨g1, g2, g3, g4⟩ F1 N1
    dsimp only at g1 g2 g3 g4 F1 N1 hoff
    simp only [List.map_cons, List.map_append, List.cons_append, List.append_assoc] at hoff N1
    have ht : topOf st su ≤ 2000001 := by unfold topOf; omega
    have hMk := kstMark
    have hul := DatAll.len g1 (Nat.le_trans (witL_length _ _ _ _) (Nat.le_refl i))
    have hul2 : us.length ≤ 3000000 := by omega
    k_steps
    · rename _ ∧ AllLt _ _ => q9
      rename levelOf su _ ≤ levelOf st _ => hne
      (rename News _ _ _ _ => N9); (simp only [List.push_toArray] at N9)
      refine' turn_end (P := witP (fun a b => decide (a ≥ b)) st su news) ⟨la, us ++ [.ref _], _, (_, tupOf [.int _ _, .int _ _, .int _ _]) :: tl⟩ ?F N9 ?hn ?ho ?ha ?hk ?hp
      case F => assumption
      case hk => kst_all
      case hp => exact wit_step (k := k) ⟨g1, g2, g3, g4⟩ q9 (decide_eq_true hne) rfl
      case hn => kst_inAny
      case ho => intro p hp; simp [hp]
      case ha => simp only [List.map_cons, List.map_append, List.cons_append]; exact ownOff_ins hoff (allLt_append (allLt_append q9.2).2).2
    · rename ¬ levelOf su _ ≤ levelOf st _ => heq
      refine' turn_end (P := witP (fun a b => decide (a ≥ b)) st su news) ⟨la, us, k, tl⟩ ?F ?N ?hn ?ho ?ha ?hk ?hp
      case F => assumption
      case N => assumption
      case hk => kst_all
      case hn => intro p hp; simp only [List.mem_cons, List.mem_append] at hp ⊢; rcases hp with h | h | h <;> simp [h]
      case ho => intro p hp; simp [hp]
      case ha => simp only [List.map_cons, List.map_append]; exact hoff
      case hp => exact wit_skip ⟨g1, g2, g3, g4⟩ (decide_eq_false heq)
  case fin =>
    rintro ⟨la, us, k, tl⟩ m1 h tk ⟨g1, g2, g3, g4⟩ F1 N1
    dsimp only at g1 g2 g3 g4 F1 N1
    k_steps
    rename News h₀ L _ _ => kN
    exact hret _ ((la, W.listOf us.toArray k) :: tl) _ _ (by assumption) kN (ownOff_new g4 g3) ⟨la, us, k, rfl, .head _, g1.mono fun _ h => .tail _ h⟩
end
end
end Mine
end
section
open PySem PySem.W PyProof.Rows
set_option maxHeartbeats 8000000
namespace Mine
theorem off_W7 : True := by
  w_top off
  k_with_none
  exact True.intro
section
variable {prog : Program} {w : World} {A : Around} {E : Value → Shared → Prop} {s : Shared} {h₀ : Heap} {L : Addr} {news : Led} {x y : Value} {d e : Dat} {Q : Value → Shared → Prop}
theorem eqD_core {P : Prop} [Decidable P] (N : News h₀ L s.heap news) (Dx : DatIn news x d) (Dy : DatIn news y e) (hd : kqdOk 8 d = true) (he : kqdOk 8 e = true) (hP : d = e ↔ P) :
    ∃ as bs, Reads s.heap x (kqdP d) as ∧ Reads s.heap y (kqdP e) bs ∧ SeqAt.shaped (kqdP d) = true ∧ SeqAt.shaped (kqdP e) = true ∧ PyData.eqv (kqdP d) (kqdP e) = decide P := by
  obtain ⟨as, ra⟩ := kqd_in N 8 Dx hd
  obtain ⟨bs, rb⟩ := kqd_in N 8 Dy he
  have la := kqd_lay 8 d hd
  have lb := kqd_lay 8 e he
  refine ⟨as, bs, ra, rb, ?_, ?_, ?_⟩
  · unfold SeqAt.shaped; rw [la.1, Bool.true_and]; exact decide_eq_true (Nat.le_trans la.2 (by decide))
  · unfold SeqAt.shaped; rw [lb.1, Bool.true_and]; exact decide_eq_true (Nat.le_trans lb.2 (by decide))
  · have q := (kqd_eqv 8 d e 8 hd he).trans hP
    by_cases hp : P
    · rw [decide_eq_true hp]; exact q.mpr hp
    · rw [decide_eq_false hp]; exact Bool.eq_false_iff.mpr fun z => hp (q.mp z)
theorem my_eqD {P : Prop} [Decidable P] (N : News h₀ L s.heap news) (Dx : DatIn news x d) (Dy : DatIn news y e) (hd : kqdOk 8 d = true) (he : kqdOk 8 e = true) (hP : d = e ↔ P) (hu : A.units + 64 < cLine) (h : Q (.bool (decide P)) s) :
    wpAny (model prog w) A (compareOp .Eq x y) Q E s := by
  obtain ⟨as, bs, ra, rb, sa, sb, ee⟩ := eqD_core N Dx Dy hd he hP
  exact eq_dataH ra rb sa sb hu (by rw [ee]; exact h)
theorem my_neD {P : Prop} [Decidable P] (N : News h₀ L s.heap news) (Dx : DatIn news x d) (Dy : DatIn news y e) (hd : kqdOk 8 d = true) (he : kqdOk 8 e = true) (hP : d = e ↔ P) (hu : A.units + 64 < cLine) (h : Q (.bool (!decide P)) s) :
    wpAny (model prog w) A (compareOp .NotEq x y) Q E s := by
  obtain ⟨as, bs, ra, rb, sa, sb, ee⟩ := eqD_core N Dx Dy hd he hP
  exact ne_dataH ra rb sa sb hu (by rw [ee]; exact h)
end
theorem ints_dat {news : Led} : ∀ {vs : List Value} {ns : List Int}, IntsAre vs ns → DatAll news vs (ns.map Dat.int)
  | _, _, .nil => .nil
  | _, _, .cons i t h => .cons (.int i t) (ints_dat h)
theorem map_int_inj : ∀ {a b : List Int}, a.map Dat.int = b.map Dat.int → a = b
  | [], [], _ => rfl
  | [], _ :: _, h => by cases h
  | _ :: _, [], h => by cases h
  | x :: a, y :: b, h => by
    simp only [List.map_cons, List.cons.injEq, Dat.int.injEq] at h
    rw [h.1, map_int_inj h.2]
def eqB (st su : Ws) : Bool := decide (st.cnt = su.cnt ∧ st.b = su.b)
def normD (st : Ws) : Dat := .tuple [.tuple (st.cnt.map Dat.int), .int st.b]
theorem normD_ok (st : Ws) : kqdOk 8 (normD st) = true := by
  unfold normD
  simp only [kqdOk, List.all_cons, List.all_nil, Bool.and_true, List.all_map]
  exact List.all_eq_true.mpr fun _ _ => rfl
theorem normD_iff (st su : Ws) : normD st = normD su ↔ (st.cnt = su.cnt ∧ st.b = su.b) := by
  unfold normD
  constructor
  · intro h
    simp only [Dat.tuple.injEq, List.cons.injEq, Dat.int.injEq, and_true] at h
    exact ⟨map_int_inj h.1, by omega⟩
  · rintro ⟨h1, h2⟩
    rw [h1, h2]
section
variable {w : World} {mean : ExcName → Option Value} {mg mb : Str → Option Value}
theorem ctr_equal (news : Led) (x y : Addr) (st su : Ws) (hx : WsIn w.params news x st) (hy : WsIn w.params news y su) :
    Ctr w mean mg mb 52 2 200 news [.ref x, .ref y] (fun v tl => tl = [] ∧ v = .bool (eqB st su)) := by
  obtain ⟨d, D1, D2, vs, raw, t1, t2, t3, t4, t5, tr, tn, tnt, tb, i1, i2, i3, i4, i5⟩ := hx
  obtain ⟨d', D1', D2', vs', raw', t1', t2', t3', t4', t5', tr', tn', tnt', tb', i1', i2', i3', i4', i5'⟩ := hy
  unfold Ctr
  k_fill
  intro dp un gd cn cs a ccd cl outer A₀ base h₀ L m s Q E B F X N T hk hd hu hret
  refine wpAny_call ?_
  cell_enter
  k_steps
  have dx : DatIn news (.ref D2) (normD st) := .tuple i3 (.cons (.tuple i4 (ints_dat i5)) (.cons (.int _ _) .nil))
  have dy : DatIn news (.ref D2') (normD su) := .tuple i3' (.cons (.tuple i4' (ints_dat i5')) (.cons (.int _ _) .nil))
  refine' my_eqD ?N dx dy (normD_ok _) (normD_ok _) (normD_iff _ _) ?hu ?_
  case N => assumption
  case hu => ktr_units
  k_steps
  exact ret0 hret (by assumption) (by assumption) ⟨rfl, rfl⟩
end
end Mine
end
section
open PySem PySem.W PyProof.Rows
set_option maxHeartbeats 8000000
namespace Mine
theorem off_S1 : True := by
  w_top off
  k_with_none
  exact True.intro
def farOf (behind : Bool) (size bare name : Int) : Int :=
  if behind = true then 1 + Int.fdiv 3 size
  else
    let f0 := 1 + Int.fdiv name size
    let f1 := if name = 2 ∧ Int.fmod (bare + 4) size = 0 then f0 + 1 else f0
    if name = 4 ∧ Int.fmod (bare + 5) size = 0 then f1 - 1 else f1
def stepsOf (mv : List Row) (behind : Bool) (size : Int) : Int := (mv.map fun r => r.1 * farOf behind size r.2.1 r.2.2).sum
theorem stepsOf_take {mv : List Row} {behind : Bool} {size : Int} {i : Nat} {r : Row} (h : mv[i]? = some r) : stepsOf (mv.take (i + 1)) behind size = stepsOf (mv.take i) behind size + r.1 * farOf behind size r.2.1 r.2.2 := by
  unfold stepsOf
  rw [List.take_add_one, h, List.map_append, List.sum_append]
  simp
theorem dat_row {news : Led} {v : Value} {r : Row} (h : DatIn news v (rowD r)) : ∃ a t1 t2 t3 n, v = .ref a ∧ (a, ({ cls := .type "tuple", data := .seq [Value.int r.1 t1, Value.int r.2.1 t2, Value.int r.2.2 t3].toArray n } : Obj)) ∈ news := by
  unfold rowD at h
  cases h with
  | tuple hm hd =>
    cases hd with
    | cons h1 hd =>
      cases h1
      cases hd with
      | cons h2 hd =>
        cases h2
        cases hd with
        | cons h3 hd =>
          cases h3
          cases hd
          exact ⟨_, _, _, _, _, rfl, hm⟩
theorem dat_rows {news : Led} {vs : List Value} {rows : List Row} (h : DatAll news vs (rows.map rowD)) {i : Nat} {v : Value} (hv : vs[i]? = some v) : ∃ r, rows[i]? = some r ∧ DatIn news v (rowD r) := by
  have hl := W.DatAll.length h
  have hi : i < vs.length := (List.getElem?_eq_some_iff.mp hv).1
  rw [List.length_map] at hl
  obtain ⟨v', hv', hD⟩ := h.get (k := i) (by rw [List.length_map]; omega)
  obtain rfl : v' = v := by rw [hv] at hv'; exact (Option.some.inj hv').symm
  refine ⟨rows[i]'(by omega), List.getElem?_eq_getElem _, ?_⟩
  simpa using hD
structure StL where
  s : Int
  t1 : Tok
section
variable {w : World} {mean : ExcName → Option Value} {mg mb : Str → Option Value}
section
local macro_rules | `(tactic| walk_at $s:str) => `(tactic| k_extra $s)
local macro_rules | `(tactic| k_mem) => `(tactic| first | assumption | exact List.Mem.head _ | (refine List.Mem.tail _ ?_; k_mem) | (refine List.mem_append_left _ ?_; k_mem) | (refine List.mem_append_right _ ?_; k_mem))
theorem ctr_steps (news : Led) (l : Addr) (vs : List Value) (k : Nat) (mv : List Row) (behind : Bool) (size : Int) (t : Tok) (hl : (l, W.listOf vs.toArray k) ∈ news) (hd : DatAll news vs (mv.map rowD)) (hmv : ∀ r ∈ mv, (-1 ≤ r.1 ∧ r.1 ≤ 1) ∧ (0 ≤ r.2.1 ∧ r.2.1 ≤ 1000000) ∧ (0 ≤ r.2.2 ∧ r.2.2 ≤ 1000000)) (hs : 1 ≤ size) (hs2 : size ≤ 1000000000) :
    Ctr w mean mg mb 153 1 8 news [.ref l, .bool behind, .int size t] (fun v tl => tl = [] ∧ ∃ t', v = .int (stepsOf mv behind size) t') := by
  k_with_none
  k_with "exec For Tuple Name cons nil" => (k_here; (rename Fr _ _ _ _ => lF'); (with_unfolding_all refine' For_stopT lF' ?_); k_whole)
  unfold Ctr
  k_fill
  intro dp un gd cn cs a ccd cl outer A₀ base h₀ L m s Q E B F X N T hk hd' hu hret
  refine wpAny_call ?_
  cell_enter
  k_steps
  refine Stop.mk ?_
  (rename Fr _ _ _ _ => lF); (rename News _ _ _ _ => lN)
  have hlen : vs.length = mv.length := by have := W.DatAll.length hd; rw [List.length_map] at this; exact this
  refine' loop_listT (σ := StL) (vs := vs) (nn := k) (fun _ => news) (fun c => [(Str.ofString "behind", .bool behind), (Str.ofString "size", .int size t), (Str.ofString "steps", .int c.s c.t1)])
    (fun i c => c.s = stepsOf (mv.take i) behind size) ⟨0, _⟩ rfl (fun _ => hl) lF lN ?hn ?hk ?hp ?turn ?fin
  case hk => kst_all
  case hn => exact fun _ h => h
  case hp => rfl
  case turn =>
    rintro ⟨il, tl⟩ i v m1 h tk own hi hoff hP F1 N1
    obtain ⟨r, hr, hD⟩ := dat_rows hd hi
    obtain ⟨a9, b1, b2, b3, n9, rfl, hm9⟩ := dat_row hD
    have hway := hmv r (List.mem_of_getElem? hr)
    obtain ⟨⟨w1, w2⟩, ⟨w3, w4⟩, ⟨w5, w6⟩⟩ := hway
    try dsimp only at hP F1 N1 hoff
    k_steps
    all_goals (
      refine' turn_end (P := fun i (c : StL) => c.s = stepsOf (mv.take i) behind size) ⟨_, _⟩ ?F ?N ?hn ?ho ?ha ?hk ?hp
      case F => assumption
      case N => assumption
      case hk => kst_all
      case hn => intro p hp; simp [hp]
      case ho => intro p hp; simp [hp]
      case ha => exact hoff
      case hp =>
        dsimp only
        rw [stepsOf_take hr, ← hP]
        refine congrArg (fun z => il + r.1 * z) ?_
        unfold farOf
        clear w1 w2 w3 w4 w5 w6 hs hs2 hd' hu
        (repeat' split) <;> first | rfl | contradiction | (exfalso; simp_all; done) | omega | (exact absurd (‹behind = true›.symm.trans ‹behind = false›) (by decide)) | contradiction)
  case fin =>
    rintro ⟨il, tl⟩ m1 h tk hP F1 N1
    dsimp only at hP F1 N1
    rw [hlen, List.take_length] at hP
    subst hP
    k_steps
    exact ret0 hret (by assumption) (by assumption) ⟨rfl, _, rfl⟩
end
end
end Mine
end
section
open PySem PySem.W PyProof.Rows PySem.Calls PyProof.V PySem.Spec PyProof.Rows.LCg
set_option maxHeartbeats 8000000
namespace Mine
theorem allLt_mk {d : Addr} : ∀ {l : Led}, (∀ p ∈ l, p.1 < d) → AllLt d l
  | [], _ => trivial
  | _ :: _, h => ⟨h _ (.head _), allLt_mk fun p hp => h p (.tail _ hp)⟩
theorem ownOff_one {tl : Led} {D : Addr} (h : ∀ p ∈ tl, p.1 ≠ D) : OwnOff tl [D] := fun p hp b hb => List.mem_singleton.mp hb ▸ h p hp
theorem ownOff_three {tl : Led} {I C D : Addr} (h : ∀ p ∈ tl, p.1 ≠ I ∧ p.1 ≠ C ∧ p.1 ≠ D) : OwnOff tl [I, C, D] := by
  intro p hp b hb
  rcases List.mem_cons.mp hb with rfl | hb
  · exact (h p hp).1
  · rcases List.mem_cons.mp hb with rfl | hb
    · exact (h p hp).2.1
    · exact List.mem_singleton.mp hb ▸ (h p hp).2.2
/-- what a comprehension's block walks over -/
def CSrc (prog : Program) (w : World) (A : Around) (h₀ : Heap) (L : Addr) (m : Str → Option Value) (news : Led) (tgt : Expr) (n : Nat) (P : Nat → Value → Prop) (xv : Value) (s : Shared) : Prop :=
  ∀ (Q E : Value → Shared → Prop), (∀ I h₂ fp (St : Nat → Heap → Prop), Walks prog w A I fp [I] n P St →
     (∀ i h, St i h → ∃ o, h.get? I = some o) →
     (∀ i h h' o nw, St i h → h.get? I = some o → h'.get? I = some o → (∀ b o, h₀.get? b = some o → h'.get? b = some o) → News h₀ L h' nw → (∀ p ∈ news, p ∈ nw) → St i h') →
     (∀ i v (s : Shared) (Q : Unit → Shared → Prop) (E : Value → Shared → Prop), St i s.heap → Q () s → wpAny (model prog w) A (letOwnedTupleGo tgt (.ref I) v) Q E s) →
     St 0 h₂ → (∀ b ∈ fp, b < h₂.objs.size) → Fr h₀ L h₂ m → News h₀ L h₂ news → L ≠ I → h₀.get? I = none → (∀ p ∈ news, p.1 < I) → Q (.ref I) { s with heap := h₂ }) →
   wpAny (model prog w) A (pyIter xv) Q E s
def CEnd (h₀ : Heap) (L : Addr) (m : Str → Option Value) (s₁ : Shared) (I : Addr) (oI : Obj) (C : Addr) (oC : Obj) (D : Addr) (oD : Obj) (news : Led) (R : Value → Led → Prop) (y : Value) (s₂ : Shared) : Prop :=
  ∃ h' tk tl, s₂ = { s₁ with heap := h', toks := tk } ∧ Fr h₀ L h' m ∧ News h₀ L h' ((I, oI) :: (C, oC) :: (D, oD) :: (tl ++ news)) ∧ (∀ p ∈ tl, p.1 ≠ I ∧ p.1 ≠ C ∧ p.1 ≠ D) ∧ OwnOff tl (news.map (·.1)) ∧ R y tl
theorem CEnd.mk {h₀ : Heap} {L : Addr} {m : Str → Option Value} {s₁ : Shared} {I : Addr} {oI : Obj} {C : Addr} {oC : Obj} {D : Addr} {oD : Obj} {news : Led} {R : Value → Led → Prop} {y : Value} {h' : Heap} {tk : Nat} {all : Led} (tl : Led)
    (F : Fr h₀ L h' m) (N : News h₀ L h' all) (sub : ∀ p ∈ (I, oI) :: (C, oC) :: (D, oD) :: (tl ++ news), p ∈ all) (off : ∀ p ∈ tl, p.1 ≠ I ∧ p.1 ≠ C ∧ p.1 ≠ D) (own : OwnOff tl (news.map (·.1))) (r : R y tl) :
    CEnd h₀ L m s₁ I oI C oC D oD news R y { s₁ with heap := h', toks := tk } := ⟨h', tk, tl, rfl, F, fun p hp => N p (sub p hp), off, own, r⟩
def CAsg (prog : Program) (w : World) (A : Around) (h₀ : Heap) (L : Addr) (tgt : Expr) (scope : Scope) (cl : List (Str × Addr)) (env : Env) (news : Led) (n : Nat) (P : Nat → Value → Prop) (Bnd : Value → (Str → Option Value) → Prop) : Prop :=
  ∀ i v C m' (s : Shared) (Q : Unit → Shared → Prop) (E : Value → Shared → Prop), i < n → P i v → News h₀ L s.heap news → s.heap.Ns C m' → (∀ h' tk m₂, h'.Ns C m₂ → Bnd v m₂ → (∀ b o, b ∉ [C] → s.heap.get? b = some o → h'.get? b = some o) → Q () { s with heap := h', toks := tk }) →
    wpAny (model prog w) A (assign tgt (compEnvC scope cl C env) v) Q E s
def CTurn (prog : Program) (w : World) (A : Around) (h₀ : Heap) (L : Addr) (m : Str → Option Value) (s : Shared) (ifs : List Expr) (elt : Expr) (scope : Scope) (cl : List (Str × Addr)) (env : Env) (news : Led) (n : Nat) (P : Nat → Value → Prop) (Bnd : Value → (Str → Option Value) → Prop) (R : Nat → List Value → Led → Prop) : Prop :=
  ∀ i v ys tl I oI C oC D m₂ h tk (E' : Value → Shared → Prop), i < n → P i v → R i ys tl → Bnd v m₂ → OwnOff tl (news.map (·.1)) → NsObj oC m₂ → Fr h₀ L h m → News h₀ L h ((I, oI) :: (C, oC) :: (D, lst ys) :: (tl ++ news)) → OwnOff tl [I, C, D] → (AllLt I news ∧ AllLt C news ∧ AllLt D news) → ((@Ne Nat I C) ∧ (@Ne Nat I D) ∧ (@Ne Nat C D)) →
    wpAny (model prog w) A (forIn ifs true fun c r => if r = true then do let ok ← isTrue c (compEnvC scope cl C env) (eval c (compEnvC scope cl C env)); pure (ForInStep.yield ok) else pure (ForInStep.yield r)) (fun ok s' => if ok = true then
        wpAny (model prog w) A (eval elt (compEnvC scope cl C env)) (CEnd h₀ L m { s with heap := h, toks := tk } I oI C oC D (lst ys) news (R (i + 1) <| ys ++ [·])) E' s'
        else CEnd h₀ L m { s with heap := h, toks := tk } I oI C oC D (lst ys) news (fun _ => R (i + 1) ys) Value.none s') E' { s with heap := h, toks := tk }
section
variable {prog : Program} {w : World} {A : Around} {E : Value → Shared → Prop} {s : Shared} {h₀ : Heap} {L : Addr} {m : Str → Option Value} {env : Env}
theorem compLoop_G {elt tgt iter : Expr} {ifs : List Expr} {scope : Scope} {pos : Pos} {it acc : Value} {env : Env} {R : Result → Shared → Prop} (I : Nat → Shared → Prop)
    (turn : ∀ n s, I n s → wpAny (model prog w) A (pyNext it) (fun r s₁ => match r with
      | none => R (.ok .next) s₁
      | some v => wpAny (model prog w) A (letOwnedTupleGo tgt it v) (fun _ s₁' => wpAny (model prog w) A (assign tgt env v) (fun _ s₂ =>
          wpAny (model prog w) A (forIn ifs true fun c r => if r = true then do let ok ← isTrue c env (eval c env); pure (ForInStep.yield ok) else pure (ForInStep.yield r)) (fun ok s₃ =>
            if ok = true then wpAny (model prog w) A (eval elt env) (fun x s₄ =>
              wpAny (model prog w) A (call (.builtin "list.append") [acc, x]) (fun _ s₅ => ∃ m, m < n ∧ I m s₅) (notedBy (model prog w) A env fun e s' => R (.error e) s') s₄) (notedBy (model prog w) A env fun e s' => R (.error e) s') s₃
            else ∃ m, m < n ∧ I m s₃) (notedBy (model prog w) A env fun e s' => R (.error e) s') s₂) (notedBy (model prog w) A env fun e s' => R (.error e) s') s₁') (notedBy (model prog w) A env fun e s' => R (.error e) s') s₁) (notedBy (model prog w) A env fun e s' => R (.error e) s') s)
    (n : Nat) (h : I n s) : codeAny (model prog w) A (.compLoop (.ListComp elt [⟨tgt, iter, ifs, 0⟩] scope pos) 0 it acc env) R s := by
  refine codeAny_loop rfl I (fun n s hI => ?_) n h
  show wpAny _ A ((compTurn (.ListComp elt [⟨tgt, iter, ifs, 0⟩] scope pos) 0 it acc env).onRaise (fun x => do noteFrame x env; theTreesLotGoes x)) _ _ s
  refine wpAny_noted ?_
  rw [compTurn_list]
  refine wpAny_bind (wpAny_standAt (wpAny_bind (wpAny_mono (turn n s hI) (fun r s₁ h₁ => ?_) fun _ _ h' => h')))
  cases r with
  | none => exact wpAny_pure h₁
  | some v =>
    refine wpAny_bind (wpAny_mono h₁ (fun _ s₁' h₁' => ?_) fun _ _ h' => h')
    refine wpAny_bind (wpAny_mono h₁' (fun _ s₂ h₂ => wpAny_bind (wpAny_mono h₂ (fun ok s₃ h₃ => ?_) fun _ _ h' => h')) fun _ _ h' => h')
    cases ok with
    | false => exact wpAny_pure ⟨rfl, h₃⟩
    | true =>
      exact wpAny_bind (wpAny_bind (wpAny_mono h₃ (fun x s₄ h₄ => wpAny_bind (wpAny_mono h₄ (fun _ s₅ h₅ => wpAny_pure (wpAny_pure ⟨rfl, h₅⟩)) fun _ _ h' => h')) fun _ _ h' => h'))
theorem block_G {ifs : List Expr} {elt iter tgt : Expr} {scope : Scope} {cl : List (Str × Addr)} {pos : Pos} {s₂ : Shared} {I : Addr} {fp : List Addr} {n : Nat} {P : Nat → Value → Prop} {St : Nat → Heap → Prop} {news : Led} {Bnd : Value → (Str → Option Value) → Prop} {R : Nat → List Value → Led → Prop}
    {RR : Value → Addr → Result → Shared → Prop}
    (W : Walks prog w A I fp [I] n P St) (hsz : n ≤ sizeLine) (hIo : ∀ i h, St i h → ∃ o, h.get? I = some o)
    (hSt : ∀ i h h' o nw, St i h → h.get? I = some o → h'.get? I = some o → (∀ b o, h₀.get? b = some o → h'.get? b = some o) → News h₀ L h' nw → (∀ p ∈ news, p ∈ nw) → St i h')
    (hgo : ∀ i v (s : Shared) (Q : Unit → Shared → Prop) (E : Value → Shared → Prop), St i s.heap → Q () s → wpAny (model prog w) A (letOwnedTupleGo tgt (.ref I) v) Q E s)
    (hcell : ∀ y ∈ scope.names, y.2 ≠ .cell) (hkind : scope.kind = .function) (hst : St 0 s₂.heap) (hfp : ∀ b ∈ fp, b < s₂.heap.objs.size)
    (F : Fr h₀ L s₂.heap m) (N : News h₀ L s₂.heap news) (hIL : L ≠ I) (hI₀ : h₀.get? I = none) (offL : ∀ p ∈ news, p.1 < I) (h0 : R 0 [] [])
    (asg : CAsg prog w A h₀ L tgt scope cl env news n P Bnd) (turn : CTurn prog w A h₀ L m s₂ ifs elt scope cl env news n P Bnd R)
    (hRR : ∀ D C h tk m' ys tl, Fr h₀ L h m → News h₀ L h ((D, lst ys) :: (tl ++ news)) → AllLt D news → OwnOff tl [D] → h.Ns C m' → h₀.get? C = none → h₀.get? D = none → C ≠ L → D ≠ L → C ≠ D → (∀ p ∈ tl ++ news, p.1 ≠ C) → OwnOff tl (news.map (·.1)) → R n ys tl → RR (.ref D) C (.ok .next) { s₂ with heap := h, toks := tk }) :
    wpAny (model prog w) A (newList []) (fun acc s₃ => wpAny (model prog w) A (newFunctionEnv scope env.globals cl [] env.qual none .none (some env)) (fun cenv s₄ =>
      codeAny (model prog w) A (.compStart (.ListComp elt [⟨tgt, iter, ifs, 0⟩] scope pos) 0 (.ref I) acc { cenv with scope := relabel scope env }) (RR acc cenv.locals) s₄) E s₃) E s₂ := by
  have off : ∀ p ∈ news, p.1 ≠ I := fun p hp => Nat.ne_of_lt (offL p hp)
  refine wpAny_newObj_type (wpAny_newFunctionEnv hcell (by intro y hy; simp at hy) (fun h₁ hns₁ hsb₁ => ?_) hkind)
  dsimp only at hns₁ hsb₁ ⊢
  generalize hH2 : s₂.heap.push { cls := .type "list", dict := none, data := .seq ([] : List Value).toArray } = H2 at hns₁ hsb₁ ⊢
  have hC : H2.objs.size = s₂.heap.objs.size + 1 := by rw [← hH2, Heap.size_push]
  have hDC : s₂.heap.objs.size ≠ H2.objs.size := by rw [hC]; exact Nat.ne_of_lt (Nat.lt_succ_self _)
  have below : ∀ b, b < s₂.heap.objs.size → b ≠ H2.objs.size ∧ b ≠ s₂.heap.objs.size := fun b hb => ⟨by rw [hC]; exact Nat.ne_of_lt (Nat.lt_succ_of_lt hb), Nat.ne_of_lt hb⟩
  have hDf : s₂.heap.objs.size ∉ fp := fun hm => Nat.lt_irrefl _ (hfp _ hm)
  have hCf : H2.objs.size ∉ fp := fun hm => by have := hfp _ hm; rw [hC] at this; exact Nat.lt_irrefl _ (Nat.lt_of_succ_lt this)
  have hIf : I ∈ fp := W.sub I (List.mem_singleton.mpr rfl)
  have hIlt : I < s₂.heap.objs.size := hfp I hIf
  have old : ∀ b o, s₂.heap.get? b = some o → h₁.get? b = some o := fun b o e => hsb₁.extBut b o (below b (Heap.lt_size e)).1 (Heap.get?_push_of_some _ (hH2 ▸ Heap.get?_push_of_some _ e))
  have hacc : h₁.get? s₂.heap.objs.size = some (lst []) := hsb₁.extBut _ _ hDC (Heap.get?_push_of_some _ (hH2 ▸ Heap.get?_push_size _ rfl))
  have hst₁ : St 0 h₁ := W.frame _ _ _ hst fun b _ o e => old b o e
  have fresh : ∀ a, s₂.heap.objs.size ≤ a → s₂.heap.get? a = none := fun a ha => by
    cases e : s₂.heap.get? a with
    | none => rfl
    | some o' => exact absurd (Heap.lt_size e) (Nat.not_lt.mpr ha)
  have fresh₀ : ∀ a, s₂.heap.objs.size ≤ a → h₀.get? a = none := fun a ha => by
    cases e : h₀.get? a with
    | none => rfl
    | some o' => have := F.keep a o' e; rw [fresh a ha] at this; cases this
  have hD₀ : h₀.get? s₂.heap.objs.size = none := fresh₀ _ (Nat.le_refl _)
  have hC₀ : h₀.get? H2.objs.size = none := fresh₀ _ (by rw [hC]; exact Nat.le_succ _)
  have hLlt : L < s₂.heap.objs.size := F.ns.lt
  have hDL : s₂.heap.objs.size ≠ L := Ne.symm (below L hLlt).2
  have hCL : H2.objs.size ≠ L := Ne.symm (below L hLlt).1
  have hCI : I ≠ H2.objs.size := (below I hIlt).1
  have hDI : I ≠ s₂.heap.objs.size := (below I hIlt).2
  have off₀ : ∀ p ∈ [] ++ news, p.1 ≠ I ∧ p.1 ≠ H2.objs.size ∧ p.1 ≠ s₂.heap.objs.size := fun p hp => ⟨off p hp, (below _ (Heap.lt_size (N p hp).1)).1, (below _ (Heap.lt_size (N p hp).1)).2⟩
  have ltD : AllLt s₂.heap.objs.size news := allLt_mk fun p hp => Heap.lt_size (N p hp).1
  have ltC : AllLt H2.objs.size news := allLt_mk fun p hp => by rw [hC]; exact Nat.lt_succ_of_lt (Heap.lt_size (N p hp).1)
  have ltI : AllLt I news := allLt_mk offL
  have loop : ∀ s₃ : Shared, s₃ = { s₂ with heap := h₁, toks := s₂.toks + ([] : List (Str × Value)).length } →
      codeAny (model prog w) A (.compLoop (.ListComp elt [⟨tgt, iter, ifs, 0⟩] scope pos) 0 (.ref I) (.ref s₂.heap.objs.size) (compEnvC scope cl H2.objs.size env))
        (RR (.ref s₂.heap.objs.size) H2.objs.size) s₃ := by
    rintro s₃ rfl
    refine compLoop_G
      (fun k s' => ∃ h' tk i ys m' tl, s' = { s₂ with heap := h', toks := tk } ∧ i ≤ n ∧ k = n + 1 - i ∧ ys.length ≤ i ∧ St i h' ∧ Fr h₀ L h' m ∧ h'.Ns H2.objs.size m' ∧ News h₀ L h' ((s₂.heap.objs.size, lst ys) :: (tl ++ news)) ∧
        (∀ p ∈ tl ++ news, p.1 ≠ I ∧ p.1 ≠ H2.objs.size ∧ p.1 ≠ s₂.heap.objs.size) ∧ OwnOff tl (news.map (·.1)) ∧ R i ys tl) ?_ (n + 1)
      ⟨h₁, _, 0, [], _, [], rfl, Nat.zero_le _, rfl, Nat.le_refl _, hst₁, F.keeps old, hns₁, fun p hp => ?_, off₀, ownOff_nil, h0⟩
    · rintro k s' ⟨h', tk, i, ys, m', tl, rfl, hi, rfl, hyl, hst', F', hn', N', off3, own', R'⟩
      by_cases hlt : i < n
      · refine W.item i _ _ _ hlt hst' fun v h₂ tk₂ hPv hst₂ hk₂ => ?_
        have N₂ : News h₀ L h₂ ((s₂.heap.objs.size, lst ys) :: (tl ++ news)) := news_but N' hk₂ fun p hp => by
          rcases List.mem_cons.mp hp with rfl | hp
          · exact Ne.symm hDI
          · exact (off3 p hp).1
        refine hgo (i + 1) v _ _ _ hst₂ ?_
        refine asg i v H2.objs.size m' _ _ _ hlt hPv (fun p hp => N₂ p (.tail _ (List.mem_append.mpr (.inr hp)))) (hn'.at' fun o e => hk₂ _ o (by simpa using Ne.symm hCI) e) fun h₃ tk₃ m₃ hn₃ hb₃ hk₃ => ?_
        have hst₃ : St (i + 1) h₃ := W.frame _ _ _ hst₂ fun b hb o e => hk₃ b o (fun q => hCf (by rw [← List.mem_singleton.mp q]; exact hb)) e
        obtain ⟨oI, heI⟩ := hIo _ _ hst₃
        obtain ⟨oC, heC, hoC⟩ := ns_obj hn₃
        have F₃ : Fr h₀ L h₃ m := fr_but (fr_but F' hk₂ hIL hI₀) hk₃ (Ne.symm hCL) hC₀
        have N₃ : News h₀ L h₃ ((I, oI) :: (H2.objs.size, oC) :: (s₂.heap.objs.size, lst ys) :: (tl ++ news)) := fun p hp => by
          rcases List.mem_cons.mp hp with rfl | hp
          · exact ⟨heI, Ne.symm hIL, hI₀⟩
          · rcases List.mem_cons.mp hp with rfl | hp
            · exact ⟨heC, hCL, hC₀⟩
            · have z := N₂ p hp
              refine ⟨hk₃ _ _ ?_ z.1, z.2⟩
              intro q
              have q := List.mem_singleton.mp q
              rcases List.mem_cons.mp hp with rfl | hp
              · exact hDC q
              · exact (off3 p hp).2.1 q
        refine wpAny_mono (turn i v ys tl I oI H2.objs.size oC s₂.heap.objs.size m₃ h₃ _ _ hlt hPv R' hb₃ own' hoC F₃ N₃ (ownOff_three fun p hp => off3 p (List.mem_append.mpr (.inl hp))) ⟨ltI, ltC, ltD⟩ ⟨hCI, hDI, Ne.symm hDC⟩) (fun ok s₄ h₄ => ?_) fun _ _ e => e
        cases ok with
        | true =>
          simp only [if_true] at h₄ ⊢
          refine wpAny_mono h₄ (fun y s₅ h₅ => ?_) fun _ _ e => e
          obtain ⟨h₄, tk₄, tl₄, rfl, F₄, N₄, off₄, own₄, R₄⟩ := h₅
          have zI := (N₄ (I, oI) List.mem_cons_self).1
          have zC := (N₄ (H2.objs.size, oC) (List.mem_cons_of_mem _ List.mem_cons_self)).1
          have zD := (N₄ (s₂.heap.objs.size, lst ys) (List.mem_cons_of_mem _ (List.mem_cons_of_mem _ List.mem_cons_self))).1
          have N₄' : News h₀ L h₄ (tl₄ ++ news) := fun p hp => N₄ p (List.mem_cons_of_mem _ (List.mem_cons_of_mem _ (List.mem_cons_of_mem _ hp)))
          have off4 : ∀ p ∈ tl₄ ++ news, p.1 ≠ I ∧ p.1 ≠ H2.objs.size ∧ p.1 ≠ s₂.heap.objs.size := fun p hp => (List.mem_append.mp hp).elim (off₄ p) fun hp => off3 p (List.mem_append.mpr (.inr hp))
          have hst₄ : St (i + 1) h₄ := hSt _ _ _ _ _ hst₃ heI zI F₄.keep N₄' fun p hp => List.mem_append.mpr (.inr hp)
          refine append_at (hsz := by show ys.toArray.size ≤ sizeLine; rw [List.size_toArray]; exact Nat.le_trans (Nat.le_trans hyl hi) hsz) zD fun h₅ hs₅ hD₅ => ?_
          refine ⟨n + 1 - (i + 1), by omega, h₅, tk₄, i + 1, ys ++ [y], _, tl₄, rfl, hlt, rfl, by rw [List.length_append, List.length_singleton]; exact Nat.succ_le_succ hyl, W.frame _ _ _ hst₄ fun b hb o e => hs₅.extBut b o (fun q => hDf (q ▸ hb)) e, F₄.change hs₅ hDL hD₀,
            (hoC.ns zC).sameBut hs₅ (Ne.symm hDC), fun p hp => ?_, off4, own₄, R₄⟩
          rcases List.mem_cons.mp hp with rfl | hp
          · exact ⟨hD₅.trans (congrArg some (lst_snoc ys y)), hDL, hD₀⟩
          · exact ⟨hs₅.extBut _ _ (off4 p hp).2.2 (N₄' p hp).1, (N₄' p hp).2⟩
        | false =>
          simp only [Bool.false_eq_true, if_false] at h₄ ⊢
          obtain ⟨h₅, tk₄, tl₄, rfl, F₄, N₄, off₄, own₄, R₄⟩ := h₄
          have zI := (N₄ (I, oI) List.mem_cons_self).1
          have zC := (N₄ (H2.objs.size, oC) (List.mem_cons_of_mem _ List.mem_cons_self)).1
          have N₄' : News h₀ L h₅ (tl₄ ++ news) := fun p hp => N₄ p (List.mem_cons_of_mem _ (List.mem_cons_of_mem _ (List.mem_cons_of_mem _ hp)))
          have off4 : ∀ p ∈ tl₄ ++ news, p.1 ≠ I ∧ p.1 ≠ H2.objs.size ∧ p.1 ≠ s₂.heap.objs.size := fun p hp => (List.mem_append.mp hp).elim (off₄ p) fun hp => off3 p (List.mem_append.mpr (.inr hp))
          have hst₄ : St (i + 1) h₅ := hSt _ _ _ _ _ hst₃ heI zI F₄.keep N₄' fun p hp => List.mem_append.mpr (.inr hp)
          refine ⟨n + 1 - (i + 1), by omega, h₅, tk₄, i + 1, ys, _, tl₄, rfl, hlt, rfl, Nat.le_succ_of_le hyl, hst₄, F₄, hoC.ns zC, fun p hp => ?_, off4, own₄, R₄⟩
          rcases List.mem_cons.mp hp with rfl | hp
          · exact N₄ _ (List.mem_cons_of_mem _ (List.mem_cons_of_mem _ List.mem_cons_self))
          · exact N₄' p hp
      · obtain rfl : i = n := Nat.le_antisymm hi (Nat.not_lt.mp hlt)
        refine W.done _ _ _ hst' fun h₂ tk₂ hk₂ => ?_
        exact hRR _ _ h₂ tk₂ _ ys tl (fr_but F' hk₂ hIL hI₀) (news_but N' hk₂ fun p hp => by
          rcases List.mem_cons.mp hp with rfl | hp
          · exact Ne.symm hDI
          · exact (off3 p hp).1) ltD (ownOff_one fun p hp => (off3 p (List.mem_append.mpr (.inl hp))).2.2) (hn'.at' fun o e => hk₂ _ o (by simpa using Ne.symm hCI) e) hC₀ hD₀ hCL hDL (Ne.symm hDC) (fun p hp => (off3 p hp).2.1) own' R'
    · rcases List.mem_cons.mp hp with rfl | hp
      · exact ⟨hacc, hDL, hD₀⟩
      · exact ⟨old _ _ (N p hp).1, (N p hp).2⟩
  exact codeAny_compStart_list (loop _ rfl) (W.self 0 _ _ _ hst₁ (loop _ rfl))

def CompAt (prog : Program) (w : World) (A : Around) (h₀ : Heap) (L : Addr) (m : Str → Option Value) (env : Env) (ifs : List Expr) (elt tgt : Expr) (scope : Scope) (cl : List (Str × Addr)) (Fin : Shared → List Value → Led → Led → Prop) (xv : Value) (s₁ : Shared) : Prop :=
  ∃ (news : Led) (n : Nat) (P : Nat → Value → Prop) (Bnd : Value → (Str → Option Value) → Prop) (R : Nat → List Value → Led → Prop), n ≤ sizeLine ∧ CSrc prog w A h₀ L m news tgt n P xv s₁ ∧ R 0 [] [] ∧ CAsg prog w A h₀ L tgt scope cl env news n P Bnd ∧
    CTurn prog w A h₀ L m s₁ ifs elt scope cl env news n P Bnd R ∧ ∀ ys tl, R n ys tl → OwnOff tl (news.map (·.1)) → Fin s₁ ys tl news
def FinE' (h₀ : Heap) (L : Addr) (m : Str → Option Value) (Q : Value → Shared → Prop) (s : Shared) (ys : List Value) (tl news : Led) : Prop :=
  ∀ D h tk, Fr h₀ L h m → News h₀ L h ((D, lst ys) :: (tl ++ news)) → AllLt D news → OwnOff tl [D] → Q (.ref D) { s with heap := h, toks := tk }
def FinA' (h₀ : Heap) (L : Addr) (m : Str → Option Value) (y : Str) (Q : Flow → Shared → Prop) (s : Shared) (ys : List Value) (tl news : Led) : Prop :=
  ∀ D h tk, Fr h₀ L h (fun z => if z = y then some (.ref D) else m z) → News h₀ L h ((D, lst ys) :: (tl ++ news)) → AllLt D news → OwnOff tl [D] → Q .next { s with heap := h, toks := tk }
theorem ListComp_G {ifs : List Expr} {elt iter tgt : Expr} {scope : Scope} {cl : List (Str × Addr)} {pos : Pos} {Q : Value → Shared → Prop} (F₀ : Fr h₀ L s.heap m)
    (hclos : closureFor scope env = pure cl) (hcell : ∀ y ∈ scope.names, y.2 ≠ .cell) (hkind : scope.kind = .function)
    (hnames : ∀ y ∈ scope.names, y.2 = .local → scope.names.lookup y.1 = some .local)
    (h : wpAny (model prog w) A (eval iter env) (fun xv s₁ => Stop (CompAt prog w A h₀ L m env ifs elt tgt scope cl (FinE' h₀ L m Q) xv s₁)) E s)
    (hs : ∀ x, foldedSetIterable iter env x = pure x := by intro _; rfl) :
    wpAny (model prog w) A (eval (.ListComp elt [⟨tgt, iter, ifs, 0⟩] scope pos) env) Q E s := by
  rw [eval_ListComp]
  refine wpAny_comprehension_free (use := none) rfl hs hclos hkind hnames (wpAny_mono h (fun xv s₁ h₁ => ?_) fun _ _ e => e)
  obtain ⟨news, n, P, Bnd, R, hsz, hsrc, h0, asg, turn, fin⟩ := h₁
  refine hsrc _ _ fun I h₂ fp St W hIo hSt hgo hst hfp F N hIL hI₀ off => ?_
  refine block_G (s₂ := { s₁ with heap := h₂ }) W hsz hIo hSt hgo hcell hkind hst hfp F N hIL hI₀ off h0 asg turn ?_
  intro D C h tk m' ys tl F' N' o1 o2 hn hC₀ hD₀ hCL hDL hCD offC own hR
  refine ⟨m', hn, fun h'' hs'' => fin ys tl hR own D h'' tk (F'.change hs'' hCL hC₀) (fun p hp => ?_) o1 o2⟩
  refine ⟨hs''.extBut _ _ ?_ (N' p hp).1, (N' p hp).2⟩
  rcases List.mem_cons.mp hp with rfl | hp
  · exact Ne.symm hCD
  · exact offC p hp
theorem Assign_ListComp_G {ifs : List Expr} {elt iter tgt : Expr} {y : Str} {py : Pos} {scope : Scope} {cl : List (Str × Addr)} {pos spos : Pos} {Q : Flow → Shared → Prop} (F₀ : Fr h₀ L s.heap m) (hLe : env.locals = L)
    (hsw : swapsWith (.ListComp elt [⟨tgt, iter, ifs, 0⟩] scope pos) (some (.Name y py)) spos.line env = pure true)
    (hclos : closureFor scope env = pure cl) (hcell : ∀ z ∈ scope.names, z.2 ≠ .cell) (hkind : scope.kind = .function)
    (hnames : ∀ z ∈ scope.names, z.2 = .local → scope.names.lookup z.1 = some .local)
    (hy : env.kindOf y = some .local) (hp : (env.scope.kind == .class || (env.scope.kind == .module && env.locals != env.globals)) = false)
    (h : wpAny (model prog w) A (eval iter env) (fun xv s₁ => Stop (CompAt prog w A h₀ L m env ifs elt tgt scope cl (FinA' h₀ L m y Q) xv s₁)) E s)
    (hs : ∀ x, foldedSetIterable iter env x = pure x := by intro _; rfl) :
    wpAny (model prog w) A (exec (.Assign [.Name y py] (.ListComp elt [⟨tgt, iter, ifs, 0⟩] scope pos) spos) env) Q E s := by
  subst hLe
  rw [exec_Assign_Name_used _ _ _ _ hsw]
  refine wpAny_bind (wpAny_standAt (wpAny_bind ?_))
  show wpAny _ A (do let _ ← comprehension (.ListComp elt [⟨tgt, iter, ifs, 0⟩] scope pos) scope env _ (newList []) false (eval iter env) (some (assign (.Name y py) env))) _ _ s
  refine wpAny_bind (wpAny_mono (wpAny_comprehension_free (use := some (assign (.Name y py) env)) (Q := fun _ s' => Q .next s') rfl hs hclos hkind hnames
    (wpAny_mono h (fun xv s₁ h₁ => ?_) fun _ _ e => e)) (fun _ s' hq => wpAny_pure (wpAny_pure hq)) fun _ _ e => e)
  obtain ⟨news, n, P, Bnd, R, hsz, hsrc, h0, asg, turn, fin⟩ := h₁
  refine hsrc _ _ fun I h₂ fp St W hIo hSt hgo hst hfp F N hIL hI₀ off => ?_
  refine block_G (s₂ := { s₁ with heap := h₂ }) W hsz hIo hSt hgo hcell hkind hst hfp F N hIL hI₀ off h0 asg turn ?_
  intro D C h' tk m' ys tl F' N' o1 o2 hn hC₀ hD₀ hCL hDL hCD offC own hR
  show wpAny _ A (assign (.Name y py) env (.ref D)) _ _ _
  refine wpAny_assign_Name (wpAny_storeName_local hy F'.ns (fun h₂ hn₂ hs₂ => ?_) hp)
  have hL₀ : h₀.get? env.locals = none := Heap.get?_none_of_le F'.above
  have F₂ : Fr h₀ env.locals h₂ (fun z => if z = y then some (.ref D) else m z) := ⟨hn₂, fun b o e => hs₂.extBut b o (fun q => by rw [q, hL₀] at e; cases e) (F'.keep b o e), F'.above⟩
  refine ⟨m', hn.sameBut hs₂ hCL, fun h'' hs'' => fin ys tl hR own D h'' _ (F₂.change hs'' hCL hC₀) (fun p hp => ?_) o1 o2⟩
  have z : h₂.get? p.1 = some p.2 := hs₂.extBut _ _ (N' p hp).2.1 (N' p hp).1
  refine ⟨hs''.extBut _ _ ?_ z, (N' p hp).2⟩
  rcases List.mem_cons.mp hp with rfl | hp
  · exact Ne.symm hCD
  · exact offC p hp
-- the sources
theorem csrc_list {l : Addr} {vs : List Value} {k : Nat} {news : Led} {tgt : Expr} (hh : A.handled = none) (F : Fr h₀ L s.heap m) (N : News h₀ L s.heap news) (hl : (l, W.listOf vs.toArray k) ∈ news) :
    CSrc prog w A h₀ L m news tgt vs.length (fun i v => vs[i]? = some v) (.ref l) s := by
  intro Q E h
  have S : s.heap.IsList l vs.toArray := ⟨_, (N _ hl).1, rfl, k, rfl⟩
  have hlt : l < s.heap.objs.size := by obtain ⟨_, e, _⟩ := S; exact Heap.lt_size e
  refine wpAny_pyIter_list S ?_
  have up : ∀ b o, s.heap.get? b = some o → (s.heap.push { cls := .type "list_iterator", data := .fields #[.ref l, .int 0 0] }).get? b = some o := fun b o e => Heap.get?_push_of_some _ e
  have W0 := Walks.list (prog := prog) (w := w) hh s.heap.objs.size l (Nat.ne_of_lt hlt) vs.toArray
  rw [show vs.toArray.size = vs.length by simp] at W0
  have W1 : Walks prog w A s.heap.objs.size [s.heap.objs.size, l] [s.heap.objs.size] vs.length (fun i v => vs[i]? = some v) (fun i h => h.IsListIter s.heap.objs.size l i ∧ h.IsList l vs.toArray) := { sub := W0.sub, frame := W0.frame, done := W0.done, self := W0.self, item := fun i s Q E hi st hQ => W0.item i s Q E hi st fun v h' tk hP => hQ v h' tk (by simpa using hP) }
  refine h _ _ _ _ W1 (fun i h st => by obtain ⟨o, e, _⟩ := st.1; exact ⟨o, e⟩) (fun i h h' o nw st e e' kp Nw sub => ?_) (fun i v s Q E st q => letGo_listiter st.1 q) ⟨⟨_, Heap.get?_push_size _ rfl, rfl, rfl⟩, S.push _⟩ (fun b hb => ?_)
      (F.keeps up) (N.grown up) (Nat.ne_of_lt F.ns.lt) (next_is_new F) (fun p hp => Heap.lt_size (N p hp).1)
  · refine ⟨by obtain ⟨o', q, r⟩ := st.1; rw [e] at q; cases q; exact ⟨o, e', r⟩, ⟨_, (Nw _ (sub _ hl)).1, rfl, k, rfl⟩⟩
  · show b < (s.heap.push _).objs.size
    rw [Heap.size_push]
    rcases List.mem_cons.mp hb with rfl | hb
    · exact Nat.lt_succ_self _
    · rw [List.mem_singleton.mp hb]; exact Nat.lt_succ_of_lt hlt
theorem csrc_range {r : Addr} {a b : Int} {t u v : Tok} {n : Nat} {news : Led} {tgt : Expr} (hh : A.handled = none) (F : Fr h₀ L s.heap m) (N : News h₀ L s.heap news) (hr : IsRange s.heap r a b 1 t u v) (hsm : Builtin.Range.small a b 1 = true) (hn : Builtin.Range.rangeSize a b 1 = ((n : Nat) : Int)) {x : Str} {px : Pos} (ht : tgt = .Name x px) :
    CSrc prog w A h₀ L m news tgt n (fun i v => ∃ t, v = .int (a + (i : Int)) t) (.ref r) s := by
  intro Q E h
  subst ht
  refine wpAny_pyIter_range hr hsm ?_
  refine h _ _ _ _ (range_walks hh a n) (fun i h st => ⟨_, st⟩) (fun i h h' o nw st e e' kp Nw _ => range_st i h h' o nw st e e' kp Nw trivial) (fun i v s Q E st q => (by show wpAny _ _ (pure ()) _ _ _; exact wpAny_pure q))
    (by show IsRangeIter _ _ _ _ _; rw [hn]; simpa using Heap.get?_push_size _ rfl) (fun b hb => ?_)
      (F.keeps fun _ _ e => Heap.get?_push_of_some _ e) (N.grown fun _ _ e => Heap.get?_push_of_some _ e) (Nat.ne_of_lt F.ns.lt) (next_is_new F) (fun p hp => Heap.lt_size (N p hp).1)
  rw [List.mem_singleton.mp hb]
  show s.heap.objs.size < (s.heap.push _).objs.size
  rw [Heap.size_push]; exact Nat.lt_succ_self _
theorem csrc_str {xt : Str} {tx : Tok} {news : Led} {x : Str} {px : Pos} (hh : A.handled = none) (F : Fr h₀ L s.heap m) (N : News h₀ L s.heap news) :
    CSrc prog w A h₀ L m news (.Name x px) xt.cps.size (fun i v => ∃ ch t, xt.cps.toList[i]? = some ch ∧ v = .str ⟨#[ch]⟩ t) (.str xt tx) s := by
  intro Q E h
  have go : ∀ (ty : String) (o : Obj), o.isFreed = false → Walks prog w A s.heap.objs.size [s.heap.objs.size] [s.heap.objs.size] xt.cps.size (SignAt xt) (fun i h => h.IsStrIter s.heap.objs.size ty xt tx i) → (s.heap.push o).IsStrIter s.heap.objs.size ty xt tx 0 →
      Q (.ref s.heap.objs.size) { s with heap := s.heap.push o } := by
    intro ty o hfree W0 hst
    have W1 : Walks prog w A s.heap.objs.size [s.heap.objs.size] [s.heap.objs.size] xt.cps.size (fun i v => ∃ ch t, xt.cps.toList[i]? = some ch ∧ v = .str ⟨#[ch]⟩ t) (fun i h => h.IsStrIter s.heap.objs.size ty xt tx i) := { sub := W0.sub, frame := W0.frame, done := W0.done, self := W0.self, item := fun i s Q E hi st hQ => W0.item i s Q E hi st fun v h' tk hP => hQ v h' tk (by obtain ⟨ch, u, hn', rfl⟩ := hP; exact ⟨ch, u, by simpa using hn', rfl⟩) }
    refine h _ _ _ _ W1 (fun i h st => by obtain ⟨o, e, _⟩ := st; exact ⟨o, e⟩) (fun i h h' o nw st e e' kp Nw _ => by obtain ⟨o', q, r⟩ := st; rw [e] at q; cases q; exact ⟨o, e', r⟩) (fun i v s Q E st q => (by show wpAny _ _ (pure ()) _ _ _; exact wpAny_pure q)) hst (fun b hb => ?_)
      (F.keeps fun _ _ e => Heap.get?_push_of_some _ e) (N.grown fun _ _ e => Heap.get?_push_of_some _ e) (Nat.ne_of_lt F.ns.lt) (next_is_new F) (fun p hp => Heap.lt_size (N p hp).1)
    · rw [List.mem_singleton.mp hb]
      show s.heap.objs.size < (s.heap.push _).objs.size
      rw [Heap.size_push]; exact Nat.lt_succ_self _
  cases ha : xt.cps.all (· < 128)
  · exact wpAny_pyIter_wide ha (go _ _ rfl (Walks.strWide hh _ xt tx) ⟨_, Heap.get?_push_size _ rfl, rfl, rfl⟩)
  · exact wpAny_pyIter_ascii ha (go _ _ rfl (Walks.strAscii hh _ xt tx) ⟨_, Heap.get?_push_size _ rfl, rfl, rfl⟩)
-- the targets
theorem casg_name {x : Str} {px : Pos} {scope : Scope} {cl : List (Str × Addr)} {news : Led} {n : Nat} {P : Nat → Value → Prop} (hkind : scope.kind = .function) (hx : scope.names.lookup x = some .local) :
    CAsg prog w A h₀ L (.Name x px) scope cl env news n P (fun v m₂ => m₂ x = some v) := by
  intro i v C m' s Q E hi hP N hn q
  refine wpAny_assign_Name (wpAny_storeName_local (lookup_relabel_local hx) hn (fun h₃ hn₃ hs₃ => ?_) (by simp [compEnvC, relabel, hkind]))
  exact q _ _ _ hn₃ (by simp) fun b o hb e => hs₃.extBut b o (fun q => hb (List.mem_singleton.mpr q)) e
theorem casg_three {x1 x2 x3 : Str} {p1 p2 p3 tp : Pos} {tk : Nat} {scope : Scope} {cl : List (Str × Addr)} {news : Led} {n : Nat} {P : Nat → Value → Prop} (hh : A.handled = none) (hkind : scope.kind = .function) (h1 : scope.names.lookup x1 = some .local) (h2 : scope.names.lookup x2 = some .local) (h3 : scope.names.lookup x3 = some .local)
    (n12 : x1 ≠ x2) (n13 : x1 ≠ x3) (n23 : x2 ≠ x3) (hrow : ∀ i v, i < n → P i v → ∃ t a b c k, v = .ref t ∧ (t, ({ cls := .type "tuple", data := .seq [a, b, c].toArray k } : Obj)) ∈ news) :
    CAsg prog w A h₀ L (.Tuple [.Name x1 p1, .Name x2 p2, .Name x3 p3] tk tp) scope cl env news n P (fun v m₂ => ∃ t a b c k, v = .ref t ∧ (t, ({ cls := .type "tuple", data := .seq [a, b, c].toArray k } : Obj)) ∈ news ∧ m₂ x1 = some a ∧ m₂ x2 = some b ∧ m₂ x3 = some c) := by
  intro i v C m' s Q E hi hP N hn q
  obtain ⟨t, a, b, c, k, rfl, hm⟩ := hrow i v hi hP
  have ht : IsTup s.heap t #[a, b, c] := ⟨_, (N _ hm).1, rfl, k, rfl⟩
  refine assign_Tuple_tuple hh ht rfl rfl fun h₅ he => ?_
  have he' : ∀ b o, s.heap.get? b = some o → h₅.get? b = some o := fun b o e => he b o (Nat.ne_of_lt (Heap.lt_size e)) e
  refine assignInOrder_cons (wpAny_assign_Name (wpAny_storeName_local (lookup_relabel_local h1) (hn.at' fun o e => he' _ o e) (fun h₆ hn₆ hs₆ => ?_) (by simp [compEnvC, relabel, hkind])))
  refine assignInOrder_cons (wpAny_assign_Name (wpAny_storeName_local (lookup_relabel_local h2) hn₆ (fun h₇ hn₇ hs₇ => ?_) (by simp [compEnvC, relabel, hkind])))
  refine assignInOrder_cons (wpAny_assign_Name (wpAny_storeName_local (lookup_relabel_local h3) hn₇ (fun h₃ hn₃ hs₃ => ?_) (by simp [compEnvC, relabel, hkind])))
  refine assignInOrder_nil ?_
  refine q _ _ _ hn₃ ⟨t, a, b, c, k, rfl, hm, by simp [n12, n13], by simp [n23], by simp⟩ fun b o hb e => ?_
  have hb' : b ≠ C := fun q => hb (List.mem_singleton.mpr q)
  exact hs₃.extBut b o hb' (hs₇.extBut b o hb' (hs₆.extBut b o hb' (he' b o e)))
-- the turns
theorem cturn_none {elt : Expr} {scope : Scope} {cl : List (Str × Addr)} {news : Led} {n : Nat} {P : Nat → Value → Prop} {Bnd : Value → (Str → Option Value) → Prop} {R : Nat → List Value → Led → Prop}
    (h : ∀ i v ys tl I oI C oC D m₂ h tk (E' : Value → Shared → Prop), i < n → P i v → R i ys tl → Bnd v m₂ → OwnOff tl (news.map (·.1)) → NsObj oC m₂ → Fr h₀ L h m → News h₀ L h ((I, oI) :: (C, oC) :: (D, lst ys) :: (tl ++ news)) → OwnOff tl [I, C, D] → (AllLt I news ∧ AllLt C news ∧ AllLt D news) → ((@Ne Nat I C) ∧ (@Ne Nat I D) ∧ (@Ne Nat C D)) →
      wpAny (model prog w) A (eval elt (compEnvC scope cl C env)) (CEnd h₀ L m { s with heap := h, toks := tk } I oI C oC D (lst ys) news (R (i + 1) <| ys ++ [·])) E' { s with heap := h, toks := tk }) :
    CTurn prog w A h₀ L m s [] elt scope cl env news n P Bnd R := by
  intro i v ys tl I oI C oC D m₂ h' tk E' a1 a2 a3 a4 a5 a6 a7 a8 a9 a10 a11
  refine wpAny_tests_nil ?_
  simp only [if_true]
  exact h i v ys tl I oI C oC D m₂ h' tk E' a1 a2 a3 a4 a5 a6 a7 a8 a9 a10 a11
theorem cturn_one {ct elt : Expr} {scope : Scope} {cl : List (Str × Addr)} {news : Led} {n : Nat} {P : Nat → Value → Prop} {Bnd : Value → (Str → Option Value) → Prop} {R : Nat → List Value → Led → Prop}
    (h : ∀ i v ys tl I oI C oC D m₂ h tk (E' : Value → Shared → Prop), i < n → P i v → R i ys tl → Bnd v m₂ → OwnOff tl (news.map (·.1)) → NsObj oC m₂ → Fr h₀ L h m → News h₀ L h ((I, oI) :: (C, oC) :: (D, lst ys) :: (tl ++ news)) → OwnOff tl [I, C, D] → (AllLt I news ∧ AllLt C news ∧ AllLt D news) → ((@Ne Nat I C) ∧ (@Ne Nat I D) ∧ (@Ne Nat C D)) →
      wpAny (model prog w) A (isTrue ct (compEnvC scope cl C env) (eval ct (compEnvC scope cl C env))) (fun ok s' => if ok = true then
        wpAny (model prog w) A (eval elt (compEnvC scope cl C env)) (CEnd h₀ L m { s with heap := h, toks := tk } I oI C oC D (lst ys) news (R (i + 1) <| ys ++ [·])) E' s'
        else CEnd h₀ L m { s with heap := h, toks := tk } I oI C oC D (lst ys) news (fun _ => R (i + 1) ys) Value.none s') E' { s with heap := h, toks := tk }) :
    CTurn prog w A h₀ L m s [ct] elt scope cl env news n P Bnd R := by
  intro i v ys tl I oI C oC D m₂ h' tk E' a1 a2 a3 a4 a5 a6 a7 a8 a9 a10 a11
  exact wpAny_tests_one (h i v ys tl I oI C oC D m₂ h' tk E' a1 a2 a3 a4 a5 a6 a7 a8 a9 a10 a11)
end
end Mine
end
section
open PySem PySem.W PyProof.Rows PyProof.Rows.LCg
set_option maxHeartbeats 8000000
namespace Mine
section
variable {prog : Program} {w : World} {A : Around} {E : Value → Shared → Prop} {s : Shared} {h₀ : Heap} {L a : Addr} {m : Str → Option Value} {news : Led} {vs : List Value} {ns : List Int} {k9 : Nat} {Q : Value → Shared → Prop}
theorem my_lenL (N : News h₀ L s.heap news) (hm : (a, ({ cls := .type "list", data := .seq vs.toArray k9 } : Obj)) ∈ news) (hi : IntsAre vs ns) (hb : ns.length < 1000000000) (h : Q (.int (ns.length : Int) (s.toks + 1)) { s with toks := s.toks + 1 + 1 }) : wpAny (model prog w) A (call (.builtin "len") [.ref a]) Q E s := by
  have hl := hi.length
  exact PyProof.Rows.len_list (News.isList N hm) (by rw [List.size_toArray]; omega) (by rw [List.size_toArray, hl]; exact h)
theorem my_itemL {value slice : Expr} {k : Int} {u : Tok} (N : News h₀ L s.heap news) (hm : (a, ({ cls := .type "list", data := .seq vs.toArray k9 } : Obj)) ∈ news) (hi : IntsAre vs ns) (h0 : 0 ≤ k) (h1 : k < ns.length) (hb : ns.length < 1000000000) (h : ∀ t, Q (.int (ns.getD k.toNat 0) t) s)
    (hs : subscripted slice false (.ref a) (.int k u) = operate [.ref a, .int k u] (getItem (.ref a) (.int k u)) := by with_unfolding_all rfl) (hg : ∀ r, letTemporaryGo value (.ref a) r = pure () := by intro _; with_unfolding_all rfl) :
    wpAny (model prog w) A (subscriptTail value slice (.ref a) (.int k u)) Q E s := item_list_ints (News.isList N hm) hi h0 h1 (by omega) h hs hg
theorem my_eqNil {D l : Addr} {j k : Nat} (N : News h₀ L s.heap news) (hm : (D, ({ cls := .type "list", data := .seq vs.toArray k } : Obj)) ∈ news) (hi : IntsAre vs ns) (hl : (l, ({ cls := .type "list", data := .seq #[] j } : Obj)) ∈ news) (hu : A.units + 64 < cLine) (h : Q (.bool (decide (ns.length = 0))) s) :
    wpAny (model prog w) A (compareOp .Eq (.ref D) (.ref l)) Q E s := by
  refine my_eqD (d := .list (ns.map Dat.int)) (e := .list []) (P := ns.length = 0) N (.list hm (ints_dat hi)) (.list (vs := []) hl .nil) ?_ rfl ?_ hu h
  · simp only [kqdOk, List.all_map]
    exact List.all_eq_true.mpr fun _ _ => rfl
  · constructor
    · intro h
      simp only [Dat.list.injEq, List.map_eq_nil_iff] at h
      rw [h]; rfl
    · intro h
      rw [List.length_eq_zero_iff.mp h]; rfl
theorem flat_one (k : Nat) (c : Int) : (List.replicate k [c]).flatten = List.replicate k c := by
  induction k with
  | zero => rfl
  | succ k ih => rw [List.replicate_succ, List.flatten_cons, ih, List.replicate_succ]; rfl
theorem my_mulL {l : Addr} {j : Nat} {x c : Int} {u t : Tok} (F : Fr h₀ L s.heap m) (N : News h₀ L s.heap news) (hm : (l, ({ cls := .type "list", data := .seq [Value.int c t].toArray j } : Obj)) ∈ news) (h0 : 0 ≤ x) (h1 : x ≤ 1000)
    (h : ∀ D us h', Fr h₀ L h' m → News h₀ L h' ((D, W.listOf (List.toArray us) 0) :: news) → (∀ p ∈ news, p.1 < D) → IntsAre us (List.replicate x.toNat c) → us.length ≤ 1000 → Q (.ref D) { s with heap := h' }) : wpAny (model prog w) A (binaryOp .Mult (.ref l) (.int x u)) Q E s := by
  have hi : IntsAre [Value.int c t] [c] := .cons _ _ .nil
  have hb : [Value.int c t].length * x.toNat ≤ 1 * 1000 := Nat.mul_le_mul (Nat.le_refl _) (by omega)
  refine KM.mul F N (News.isList N hm) hi (by omega) (by omega) (by omega) fun D h' F' N' hk hi' _ _ _ _ _ => h D _ h' F' N' hk ?_ ?_
  · rw [flat_one] at hi'; exact hi'
  · rw [hi'.length, flat_one, List.length_replicate]; omega
theorem my_addL {l b : Addr} {j j2 : Nat} {ws : List Value} {ms : List Int} (F : Fr h₀ L s.heap m) (N : News h₀ L s.heap news) (hm : (l, ({ cls := .type "list", data := .seq vs.toArray j } : Obj)) ∈ news) (hm2 : (b, ({ cls := .type "list", data := .seq ws.toArray j2 } : Obj)) ∈ news) (hi : IntsAre vs ns) (hj : IntsAre ws ms) (hs : vs.length ≤ 2000) (hs2 : ws.length ≤ 2000)
    (h : ∀ D us h', Fr h₀ L h' m → News h₀ L h' ((D, W.listOf (List.toArray us) 0) :: news) → (∀ p ∈ news, p.1 < D) → IntsAre us (ns ++ ms) → us.length = vs.length + ws.length → Q (.ref D) { s with heap := h' }) : wpAny (model prog w) A (binaryOp .Add (.ref l) (.ref b)) Q E s := by
  have l1 := hi.length
  have l2 := hj.length
  exact kmk_add_ints F N (News.isList N hm) (News.isList N hm2) hi hj (fun D us h' F' N' hk hi' => h D us h' F' N' hk hi' (by rw [hi'.length, List.length_append]; omega)) (by rw [sizeLine_eq]; omega)
theorem my_extend {D b : Addr} {j j2 : Nat} {ws : List Value} {news' : Led} (F : Fr h₀ L s.heap m) (N : News h₀ L s.heap news) (hm2 : (b, ({ cls := .type "list", data := .seq ws.toArray j2 } : Obj)) ∈ news) (hne : ws.length ≠ 0) (hs : vs.length + ws.length ≤ 1000000)
    (U : Upd D (W.listOf vs.toArray j) (W.listOf (vs ++ ws).toArray (j + 1)) news news')
    (h : ∀ h', Fr h₀ L h' m → News h₀ L h' news' → Q .none { s with heap := h' }) : wpAny (model prog w) A (call (.builtin "list.extend") [.ref D, .ref b]) Q E s := by
  have hs2 : vs.length + ws.length ≤ sizeLine := by rw [sizeLine_eq]; omega
  refine kl_extend (its := vs.toArray) (its2 := ws.toArray) (l := vs ++ ws) F N hm2 (by simp) (by simpa using hne) U ?_ (by simp; omega) (by simp; omega) h
  rw [sizeLine_eq] at hs2
  simp [Builtin.List.listTooLong, sizeLine]
  intro _
  omega
theorem if_merge {M : Model} {A : Around} {e : Expr} {env : Env} {l : List Nat} {i ch : Nat} {g : Nat → Int} (_ : l[i]? = some ch) (h1 : Stop (∀ Q' : Value → Shared → Prop, (∀ t tk, Q' (.int (g ch) t) { s with toks := tk }) → wpAny M A (eval e env) Q' E s)) (h2 : ∀ t tk, Q (.int (g ch) t) { s with toks := tk }) : wpAny M A (eval e env) Q E s := h1 Q h2
def ExtV (v : List Int) : Prop := 0 < v.length ∧ v.length ≤ 1000
theorem ext_merge {M : Model} {A : Around} {e : Expr} {env : Env} {v : List Int} (hv : ExtV v) (F : Fr h₀ L s.heap m) (N : News h₀ L s.heap news)
    (h1 : Stop (∀ Q' : Value → Shared → Prop, (∀ D us h' tk, Fr h₀ L h' m → News h₀ L h' ((D, W.listOf (List.toArray us) 0) :: news) → AllLt D news → IntsAre us v → Q' (.ref D) { s with heap := h', toks := tk }) → wpAny M A (eval e env) Q' E s))
    (h2 : ∀ D us h' tk, Fr h₀ L h' m → News h₀ L h' ((D, W.listOf (List.toArray us) 0) :: news) → AllLt D news → IntsAre us v → us.length ≠ 0 → us.length ≤ 1000 → Q (.ref D) { s with heap := h', toks := tk }) : wpAny M A (eval e env) Q E s :=
  h1 Q fun D us h' tk F' N' l' i' => h2 D us h' tk F' N' l' i' (by have := i'.length; have := hv.1; omega) (by have := i'.length; have := hv.2; omega)
theorem Stop.un {P : Prop} (h : Stop P) : P := h
def NoMerge : Prop := True
end
end Mine
end
section
open PySem PySem.W PyProof.Rows
set_option maxHeartbeats 8000000
namespace Mine
theorem off_T1 : True := by
  w_top off
  k_with_none
  exact True.intro
structure Told where
  runs : List Int
  bare : Int
  moved : List Row
structure ToL where
  d : Told
  la : Nat
  us : List Value
  k : Nat
  lm : Nat
  ms : List Value
  km : Nat
  tl : Led
  tb : Tok
  os : Obj
  orow : Obj
def spl (hand : Int) (ch : Nat) : Bool := decide (ch ∈ (spelled hand).cps.toList)
def spellersN (rw : List Int) (ch : Nat) (i : Nat) : List Int := ((List.range i).map fun (k : Nat) => (k : Int)).filter fun k => spl (rw.getD k.toNat 0) ch
theorem spellersN_succ (rw : List Int) (ch i : Nat) : spellersN rw ch (i + 1) = spellersN rw ch i ++ (if spl (rw.getD i 0) ch = true then [(i : Int)] else []) := by
  unfold spellersN
  rw [List.range_succ, List.map_append, List.filter_append]
  congr 1
  simp only [List.map_cons, List.map_nil, List.filter_cons, List.filter_nil, Int.toNat_natCast]
def spellers (rw : List Int) (ch : Nat) : List Int := spellersN rw ch rw.length
theorem spellers_len (rw : List Int) (ch : Nat) : (spellers rw ch).length ≤ rw.length := by
  unfold spellers spellersN
  refine Nat.le_trans (List.length_filter_le _ _) ?_
  simp
theorem spellers_mem {rw : List Int} {ch : Nat} {k : Int} (h : k ∈ spellers rw ch) : 0 ≤ k ∧ k < (rw.length : Int) := by
  unfold spellers spellersN at h
  obtain ⟨h1, _⟩ := List.mem_filter.mp h
  obtain ⟨j, hj, rfl⟩ := List.mem_map.mp h1
  have := List.mem_range.mp hj
  omega
theorem spellers_head (rw : List Int) (ch : Nat) : 0 ≤ (spellers rw ch).getD (Int.toNat 0) 0 ∧ ((spellers rw ch).length = 0 ∨ (spellers rw ch).getD (Int.toNat 0) 0 < (rw.length : Int)) := by
  cases h : spellers rw ch with
  | nil => exact ⟨Int.le_refl _, .inl rfl⟩
  | cons a r =>
    have := spellers_mem (rw := rw) (ch := ch) (k := a) (by rw [h]; exact .head _)
    exact ⟨this.1, .inr this.2⟩
def nameOf (ch : Nat) : Int := if ch = 60 ∨ ch = 62 then 2 else if ch = 34 then 4 else 3
def toldRuns (rw : List Int) (d : Told) (ch : Nat) : List Int :=
  if (spellers rw ch).getD (Int.toNat 0) 0 = (rw.length : Int) - 1 then d.runs ++ [d.bare + 1 + nameOf ch] else d.runs ++ ([d.bare + 4] ++ List.replicate ((rw.length : Int) - (spellers rw ch).getD (Int.toNat 0) 0 - 2).toNat 3 ++ [nameOf ch])
def toldMoved (rw : List Int) (place : Int) (d : Told) (ch : Nat) : List Row :=
  if (spellers rw ch).getD (Int.toNat 0) 0 = place then (if ((spellers rw ch).any fun x => x == place + 1) = true then d.moved else d.moved ++ [(-1, d.bare, nameOf ch)])
  else if (spellers rw ch).getD (Int.toNat 0) 0 = place + 1 then d.moved ++ [(1, d.bare, nameOf ch)] else d.moved
def toldStep (rw : List Int) (place : Int) (d : Told) (ch : Nat) : Told :=
  if ch = 59 then ⟨d.runs ++ [d.bare], 0, d.moved⟩
  else if (spellers rw ch).length = 0 then ⟨d.runs, d.bare + 1, d.moved⟩
  else ⟨toldRuns rw d ch, 0, toldMoved rw place d ch⟩
theorem semi_no {ch : Nat} (h : ((⟨#[ch]⟩ : Str) == Str.ofString ";") = false) : ch ≠ 59 := by
  rw [sign_eq (n := 59) (by decide +kernel)] at h
  exact of_decide_eq_false h
theorem semi_yes {ch : Nat} (h : ((⟨#[ch]⟩ : Str) == Str.ofString ";") = true) : ch = 59 := by
  rw [sign_eq (n := 59) (by decide +kernel)] at h
  exact of_decide_eq_true h
theorem ts_semi {rw : List Int} {place : Int} {d : Told} {ch : Nat} (h : ((⟨#[ch]⟩ : Str) == Str.ofString ";") = true) : toldStep rw place d ch = ⟨d.runs ++ [d.bare], 0, d.moved⟩ := if_pos (semi_yes h)
theorem ts_none {rw : List Int} {place : Int} {d : Told} {ch : Nat} (h : ((⟨#[ch]⟩ : Str) == Str.ofString ";") = false) (h2 : (spellers rw ch).length = 0) : toldStep rw place d ch = ⟨d.runs, d.bare + 1, d.moved⟩ := (if_neg (semi_no h)).trans (if_pos h2)
theorem ts_some {rw : List Int} {place : Int} {d : Told} {ch : Nat} (h : ((⟨#[ch]⟩ : Str) == Str.ofString ";") = false) (h2 : ¬ (spellers rw ch).length = 0) {R : List Int} {M : List Row} (hR : toldRuns rw d ch = R) (hM : toldMoved rw place d ch = M) : toldStep rw place d ch = ⟨R, 0, M⟩ := by
  rw [← hR, ← hM]
  exact (if_neg (semi_no h)).trans (if_neg h2)
theorem nm_done {Q9 : Value → Shared → Prop} {ch : Nat} {n : Int} {t : Tok} {s' : Shared} (e : nameOf ch = n) (h : Q9 (.int (nameOf ch) t) s') : Q9 (.int n t) s' := e ▸ h
theorem ltgt_mem {ch : Nat} : (Builtin.Str.occurrences (Str.ofString "<>") ⟨#[ch]⟩ 0 (Str.ofString "<>").length 1).isEmpty = !decide (ch = 60 ∨ ch = 62) := by
  rw [empty_one]
  congr 1
  have e : (Str.ofString "<>").cps.toList = [60, 62] := by decide +kernel
  rw [e]
  simp
theorem nm_two {ch : Nat} (h : (Builtin.Str.occurrences (Str.ofString "<>") ⟨#[ch]⟩ 0 (Str.ofString "<>").length 1).isEmpty = false) : nameOf ch = 2 := by
  rw [ltgt_mem] at h
  by_cases q : ch = 60 ∨ ch = 62
  · exact if_pos q
  · rw [decide_eq_false q] at h; exact absurd h (by decide)
theorem nm_four {ch : Nat} (h : (Builtin.Str.occurrences (Str.ofString "<>") ⟨#[ch]⟩ 0 (Str.ofString "<>").length 1).isEmpty = true) (h2 : ((⟨#[ch]⟩ : Str) == Str.ofString "\"") = true) : nameOf ch = 4 := by
  rw [ltgt_mem] at h
  rw [sign_eq (n := 34) (by decide +kernel)] at h2
  exact (if_neg (fun q => by rw [decide_eq_true q] at h; exact absurd h (by decide))).trans (if_pos (of_decide_eq_true h2))
theorem nm_three {ch : Nat} (h : (Builtin.Str.occurrences (Str.ofString "<>") ⟨#[ch]⟩ 0 (Str.ofString "<>").length 1).isEmpty = true) (h2 : ((⟨#[ch]⟩ : Str) == Str.ofString "\"") = false) : nameOf ch = 3 := by
  rw [ltgt_mem] at h
  rw [sign_eq (n := 34) (by decide +kernel)] at h2
  exact (if_neg (fun q => by rw [decide_eq_true q] at h; exact absurd h (by decide))).trans (if_neg (of_decide_eq_false h2))
def told (rw : List Int) (place : Int) (codes : List Nat) : Told := codes.foldl (toldStep rw place) ⟨[], 0, []⟩
def ToldIn (tl : Led) (v : Value) (d : Told) : Prop :=
  ∃ a la us k t lm ms km, v = .ref a ∧ (a, tupOf [.ref la, .int d.bare t, .ref lm]) ∈ tl ∧ (la, W.listOf us.toArray k) ∈ tl ∧ (lm, W.listOf ms.toArray km) ∈ tl ∧ IntsAre us d.runs ∧ DatAll tl ms (d.moved.map rowD)
structure ToOk (l : Addr) (rw : List Int) (place : Int) (codes : List Nat) (news : Led) (lc lr : Nat) (i : Nat) (c : ToL) : Prop where
  d : c.d = (codes.take i).foldl (toldStep rw place) ⟨[], 0, []⟩
  us : IntsAre c.us c.d.runs
  ms : DatAll c.tl c.ms (c.d.moved.map rowD)
  cell : ∃ v, c.os.data = .cell v
  row : c.orow.data = .cell (some (.ref l))
  lm : c.la < c.lm
  la : lc < c.la
  lrc : lr < lc
  nlr : AllLt lr news
  nla : AllLt c.la news
  nlm : AllLt c.lm news
  nlc : AllLt lc news
  off : OwnOff c.tl [c.la, c.lm, lc, lr]
  offn : OwnOff c.tl (news.map (·.1))
  b0 : 0 ≤ c.d.bare
  b1 : c.d.bare ≤ (i : Int)
  rl : c.d.runs.length ≤ 4 * i
  ml : c.d.moved.length ≤ 2 * i
theorem app1_le (l : List Int) (x : Int) : (l ++ [x]).length ≤ l.length + 4 := by
  rw [List.length_append]; exact Nat.add_le_add_left (by decide : 1 ≤ 4) _
theorem app_ext {l m : List Int} (h : m.length ≤ 4) : (l ++ m).length ≤ l.length + 4 := by
  rw [List.length_append]; exact Nat.add_le_add_left h _
theorem ext4 {rw : List Int} {ch : Nat} {bare nm : Int} (h : rw.length ≤ 3) : ([bare + 4] ++ List.replicate ((rw.length : Int) - (spellers rw ch).getD (Int.toNat 0) 0 - 2).toNat 3 ++ [nm]).length ≤ 4 := by
  have := spellers_head rw ch
  simp only [List.length_append, List.length_replicate, List.length_cons, List.length_nil]
  omega
theorem ToOk.next {l : Addr} {rw : List Int} {place : Int} {codes : List Nat} {news : Led} {lc lr i ch : Nat} {d d' : Told} {la lm k k' km km' : Nat} {us us' ms ms' : List Value} {tl tl' : Led} {tb tb' : Tok} {os os' orow : Obj}
    (h : ToOk l rw place codes news lc lr i ⟨d, la, us, k, lm, ms, km, tl, tb, os, orow⟩) (hch : codes[i]? = some ch) (hd : toldStep rw place d ch = d') (hus : IntsAre us' d'.runs) (hms : DatAll tl' ms' (d'.moved.map rowD)) (hcell : ∃ v, os'.data = .cell v)
    (off : OwnOff tl' [la, lm, lc, lr]) (offn : OwnOff tl' (news.map (·.1))) (hb : d'.bare = 0 ∨ d'.bare = d.bare + 1) (hr : d'.runs.length ≤ d.runs.length + 4) (hm : d'.moved.length ≤ d.moved.length + 2) :
    ToOk l rw place codes news lc lr (i + 1) ⟨d', la, us', k', lm, ms', km', tl', tb', os', orow⟩ := by
  obtain ⟨g1, g2, g3, ⟨g4v, g4⟩, g5, g6, g7, g7a, g7b, g8, g9, g10, g11, g12, g13, g14, g15, g16⟩ := h
  dsimp only at g1 g2 g3 g4 g5 g6 g7 g7a g7b g8 g9 g10 g11 g12 g13 g14 g15 g16
  refine ⟨?_, hus, hms, hcell, g5, g6, g7, g7a, g7b, g8, g9, g10, off, offn, ?_, ?_, ?_, ?_⟩
  · dsimp only
    rw [List.take_add_one, hch, List.foldl_append, ← g1, ← hd]
    rfl
  all_goals (dsimp only; omega)
theorem off_push {tl : Led} {la lm lc lr D : Nat} {o : Obj} (h : OwnOff tl [la, lm, lc, lr]) (h1 : la < D) (h2 : lm < D) (h3 : lc < D) (h4 : lr < D) : OwnOff ((D, o) :: tl) [la, lm, lc, lr] := by
  intro p hp b hb
  rcases List.mem_cons.mp hp with rfl | hp
  · simp only [List.mem_cons, List.not_mem_nil, or_false] at hb
    dsimp only
    intro e
    rcases hb with rfl | rfl | rfl | rfl
    · exact Nat.ne_of_gt h1 e
    · exact Nat.ne_of_gt h2 e
    · exact Nat.ne_of_gt h3 e
    · exact Nat.ne_of_gt h4 e
  · exact h p hp b hb
theorem own_push {own : Led} {la lm lc lr D : Addr} {r : List Addr} (h : OwnOff own (la :: lm :: lc :: lr :: r)) (hd : AllLt D own) : OwnOff own (la :: lm :: lc :: lr :: D :: r) := by
  intro p hp b hb
  rcases List.mem_cons.mp hb with rfl | hb
  · exact h p hp _ (.head _)
  rcases List.mem_cons.mp hb with rfl | hb
  · exact h p hp _ (.tail _ (.head _))
  rcases List.mem_cons.mp hb with rfl | hb
  · exact h p hp _ (.tail _ (.tail _ (.head _)))
  rcases List.mem_cons.mp hb with rfl | hb
  · exact h p hp _ (.tail _ (.tail _ (.tail _ (.head _))))
  rcases List.mem_cons.mp hb with rfl | hb
  · exact Nat.ne_of_lt (kst_ltOf hd p hp)
  · exact h p hp b (.tail _ (.tail _ (.tail _ (.tail _ hb))))
theorem moved_push {tl : Led} {ms : List Value} {mv : List Row} {D : Addr} {e1 e2 e3 : Int} {a1 a2 a3 : Tok} (h : DatAll tl ms (mv.map rowD)) : DatAll ((D, tupOf [.int e1 a1, .int e2 a2, .int e3 a3]) :: tl) (ms ++ [.ref D]) ((mv ++ [(e1, e2, e3)]).map rowD) := by
  rw [List.map_append]
  exact (h.mono fun _ h => .tail _ h).append (.one (.tuple (.head _) (.cons (.int _ _) (.cons (.int _ _) (.cons (.int _ _) .nil)))))
section
variable {w : World} {mean : ExcName → Option Value} {mg mb : Str → Option Value}
section
local macro_rules | `(tactic| walk_at $s:str) => `(tactic| k_extra $s)
local macro_rules | `(tactic| k_mem) => `(tactic| first | assumption | exact List.Mem.head _ | (refine List.Mem.tail _ ?_; k_mem) | (refine List.mem_append_left _ ?_; k_mem) | (refine List.mem_append_right _ ?_; k_mem))
theorem ctr_told (news : Led) (l : Addr) (vs : List Value) (k : Nat) (rw : List Int) (place : Int) (x : Str) (tp tx : Tok) (hl : (l, W.listOf vs.toArray k) ∈ news) (hi : IntsAre vs rw) (hr1 : 2 ≤ rw.length) (hr2 : rw.length ≤ 3) (hp1 : 0 ≤ place) (hp2 : place + 1 < rw.length) (hx : x.length ≤ 1000) :
    Ctr w mean mg mb 146 2 200 news [.ref l, .int place tp, .str x tx] (fun v tl => ToldIn tl v (told rw place x.cps.toList)) := by
  k_with_none
  k_with "exec For Name Name cons nil" => (k_here; (rename Fr _ _ _ _ => lF'); (with_unfolding_all refine' For_stopT lF' ?_); k_whole)
  k_with "call ref" => (k_here; k_dflt (refine' Ctr.use (ctr_spelled _ _ _) ?k1 ?k2 ?k3 ?k4 ?k5 ?kK ?kd ?ku ?_); (case k1 => k_asm); (case k2 => k_asm); (case k3 => k_asm); (case k4 => k_asm); (case k5 => k_asm); (case kK => exact rfl); (case kd => ktr_room); (case ku => ktr_units); intro v' tl' h' tk' F' N' o' hR'; obtain ⟨e', t', e2'⟩ := hR'; subst e'; subst e2'; clear o'; (try simp only [List.nil_append] at N'))
  k_with "exec Assign cons ListComp" => (k_here; k_dflt (refine Assign_ListComp_G (F₀ := by k_asm) (by rfl) (by with_unfolding_all rfl) (by with_unfolding_all rfl) (by decide) (by rfl) (by decide) (by rfl) (by rfl) ?_))
  k_with "call builtin:len" => (k_here; (with_reducible show wpAny _ _ (call (Value.builtin "len") [Value.ref _]) _ _ _); k_dflt (refine' my_lenL ?q9k1 ?q9k2 ?q9k3 ?q9k4 ?_; (case q9k1 => k_asm); (case q9k2 => k_mem); (case q9k3 => assumption); (case q9k4 => omega); k_whole))
  k_with "subscriptTail" => (k_here; (with_reducible show wpAny _ _ (subscriptTail _ _ (Value.ref _) (Value.int _ _)) _ _ _); k_dflt (refine' my_itemL ?q9k1 ?q9k2 ?q9k3 ?q9k4 ?q9k5 ?q9k6 ?_ ?q9k7 ?q9k8; (case q9k1 => k_asm); (case q9k2 => k_mem); (case q9k3 => assumption); (case q9k4 => ((repeat (rename ((_ : Nat) < _ ∧ _ < _ ∧ _ < _ ∧ _) => z9'; clear z9')); (try simp only [List.length_cons, List.length_nil]); omega)); (case q9k5 => ((repeat (rename ((_ : Nat) < _ ∧ _ < _ ∧ _ < _ ∧ _) => z9'; clear z9')); (try simp only [List.length_cons, List.length_nil]); omega)); (case q9k6 => ((repeat (rename ((_ : Nat) < _ ∧ _ < _ ∧ _ < _ ∧ _) => z9'; clear z9')); (try simp only [List.length_cons, List.length_nil]); omega)); (case q9k7 => with_unfolding_all rfl); (case q9k8 => (intro _; with_unfolding_all rfl)); k_whole); intro _)
  k_with "compareOp Eq ref ref" => (k_here; k_dflt (refine' my_eqNil ?q9N ?q9hm ?q9hi ?q9hl ?q9hu ?_; (case q9N => k_asm); (case q9hm => k_mem); (case q9hi => assumption); (case q9hl => k_mem); (case q9hu => ktr_units); k_whole))
  k_with "eval IfExp" => (k_here; (fail_if_success (rename NoMerge => nm')); (refine if_merge (g := nameOf) (by assumption) ?_ ?_); rotate_left; intro t9' tk9'; (try dsimp only); rotate_right)
  k_with "ite" => (k_here; k_openite; first | with_reducible refine ite_tt ?_ | with_reducible refine ite_ff ?_ | (with_reducible refine split_ine ?_ ?_ <;> intro _) | (with_reducible refine split_ieq ?_ ?_ <;> intro _) | with_reducible refine split_not ?_ | (refine split_dec ?_ ?_ <;> intro _) | (refine split_bool ?_ ?_ <;> intro _))
  k_with "binaryOp Mult ref int" => (k_here; (with_reducible show wpAny _ _ (binaryOp Operator.Mult (Value.ref _) (Value.int _ _)) _ _ _); k_dflt (refine' my_mulL ?q9F ?q9N ?q9a ?q9x ?q9y ?_; (case q9F => k_asm); (case q9N => k_asm); (case q9a => k_mem); (case q9x => ((repeat (rename ((_ : Nat) < _ ∧ _ < _ ∧ _ < _ ∧ _) => z9'; clear z9')); (try simp only [List.length_cons, List.length_nil]); omega)); (case q9y => ((repeat (rename ((_ : Nat) < _ ∧ _ < _ ∧ _ < _ ∧ _) => z9'; clear z9')); (try simp only [List.length_cons, List.length_nil]); omega))); intro D' ws' h' F' N' l1 hI' hL'; (try k_lt l1); (try k_sweep))
  k_with "binaryOp Add ref ref" => (k_here; (with_reducible show wpAny _ _ (binaryOp _ (Value.ref _) (Value.ref _)) _ _ _); k_dflt (refine' my_addL ?q9F ?q9N ?q9a ?q9b ?q9i ?q9j ?q9z ?q9y ?_; (case q9F => k_asm); (case q9N => k_asm); (case q9a => k_mem); (case q9b => k_mem); (case q9i => (first | exact IntsAre.cons _ _ .nil | assumption)); (case q9j => (first | exact IntsAre.cons _ _ .nil | assumption)); (case q9z => ((repeat (rename ((_ : Nat) < _ ∧ _ < _ ∧ _ < _ ∧ _) => z9'; clear z9')); (try simp only [List.length_cons, List.length_nil]); omega)); (case q9y => ((repeat (rename ((_ : Nat) < _ ∧ _ < _ ∧ _ < _ ∧ _) => z9'; clear z9')); (try simp only [List.length_cons, List.length_nil]); omega))); intro D' ws' h' F' N' l1 hI' hL'; (try simp only [List.length_cons, List.length_nil] at hL'); (try k_lt l1); (try k_sweep))
  k_with "call builtin:list.extend" => (k_here; (with_reducible show wpAny _ _ (call (Value.builtin _) [Value.ref _, Value.ref _]) _ _ _); k_dflt (refine' my_extend ?q9F ?q9N ?q9b ?q9ne ?q9z ?q9U ?_; (case q9F => k_asm); (case q9N => k_asm); (case q9b => k_mem); (case q9U => k_upd); (case q9ne => ((repeat (rename ((_ : Nat) < _ ∧ _ < _ ∧ _ < _ ∧ _) => z9'; clear z9')); (try simp only [List.length_cons, List.length_nil]); omega)); (case q9z => ((repeat (rename ((_ : Nat) < _ ∧ _ < _ ∧ _ < _ ∧ _) => z9'; clear z9')); (try simp only [List.length_cons, List.length_nil]); omega))); intro h' F' N'; (try k_sweep))
  k_with "eval BinOp" => (k_here; (fail_if_success (rename NoMerge => nm')); (with_reducible show wpAny _ _ (eval (Expr.BinOp (Expr.BinOp (Expr.List _ _) _ _ _) _ _ _) _) _ _ _); (refine ext_merge (by assumption) (by k_asm) (by k_asm) ?_ ?_); rotate_left; intro D' ws' h' tk9' F' N' l1 hI' hL1' hL2'; (try simp only [AllLt] at l1); (try dsimp only); rotate_right)
  unfold Ctr
  k_fill
  intro dp un gd cn cs a ccd cl outer A₀ base h₀ L m s Q E B F X N T hk hd' hu hret
  refine wpAny_call ?_
  refine' code_defC ?k1 ?k2 ?k3 ?k4 ?k5 ?kA ?kF ?kK ?k6 ?k7 ?k8 ?k9 ?kB ?kD ?_ ?c2 ?c3 ?c4; (case kA => exact rfl); (case kF => exact rfl); (case kK => assumption); (case k1 => k_asm); (case k2 => k_asm); (case k3 => k_asm); (case k4 => k_asm); (case k5 => k_asm); (case k6 => k_is); (case k7 => k_is); (case k8 => ktr_room); (case k9 => exact BindsTo.of_eq rfl); (case kB => exact rfl); (case kD => decide +kernel); (case c2 => exact rfl); (case c3 => exact rfl); (case c4 => exact rfl); k_whole; intro g' L' h' tk' cells' FG' F' N' Y' B' X' T' l1; (try k_lt l1); k_cells Y'; (try simp only [List.cons_append, List.nil_append] at N'); (try dsimp only); (try k_lift B'); (try k_fold)
  k_steps
  refine Stop.mk ?_
  (rename Fr _ _ _ _ => lF); (rename News _ _ _ _ => lN); (rename (Obj.data _ = _) => d2); (replace d2 : Obj.data _ = Data.cell (some (.ref l)) := d2)
  refine' loop_strT (σ := ToL) (fun c => (c.la, W.listOf c.us.toArray c.k) :: (c.lm, W.listOf c.ms.toArray c.km) :: (L' + 1 + 1, c.os) :: (L' + 1, c.orow) :: (c.tl ++ news))
    (fun c => [(Str.ofString "place", .int place tp), (Str.ofString "runs", .ref c.la), (Str.ofString "moved", .ref c.lm), (Str.ofString "bare", .int c.d.bare c.tb)])
    (ToOk l rw place x.cps.toList news (L' + 1 + 1) (L' + 1)) ⟨⟨[], 0, []⟩, _, [], 0, _, [], 0, [], _, _, _⟩ rfl lF lN ?hn ?hk ?hp ?turn ?fin
  case hk => kst_all
  case hn => kst_inAny
  case hp =>
    rename _ ∧ _ ∧ _ ∧ AllLt _ _ => q2
    rename _ ∧ _ ∧ AllLt _ _ => q1
    exact ⟨rfl, .nil, .nil, ⟨_, by assumption⟩, d2, q2.1, q1.1, Nat.lt_succ_self _, allLt_up (Nat.le_succ _) (allLt_of l1), q1.2.2, q2.2.2.2, allLt_up (Nat.le_succ_of_le (Nat.le_succ _)) (allLt_of l1), ownOff_nil, ownOff_nil, Int.le_refl _, Int.le_refl _, Nat.zero_le _, Nat.zero_le _⟩
  case turn =>
    rintro ⟨⟨runs, bare, mv⟩, la, us, k9, lm, ms, km, tl, tb, os, orow⟩ i ch t9 m1 h tk own hi9 hoff hP F1 N1
    have G := hP
    obtain ⟨g1, g2, g3, ⟨g4v, g4⟩, g5, g6, g7, g7a, g7b, g8, g9, g10, g11, g12, g13, g14, g15, g16⟩ := hP
    dsimp only at g1 g2 g3 g4 g5 g6 g7 g7a g7b g8 g9 g10 g11 g12 g13 g14 g15 g16 F1 N1 hoff
    simp only [List.map_cons, List.map_append, List.cons_append, List.append_assoc] at hoff N1
    have hMk := kstMark
    have hlt0 : i < x.cps.toList.length := (List.getElem?_eq_some_iff.mp hi9).1
    have hlt : i < 1000 := by
      simp only [Array.length_toList] at hlt0
      exact Nat.lt_of_lt_of_le hlt0 hx
    have hus : us.length ≤ 4000 := by rw [g2.length]; omega
    have hms : ms.length ≤ 2000 := DatAll.len g3 (by omega)
    k_steps
    refine Stop.mk ?_
    (rename Fr _ _ _ _ => lF); (rename News _ _ _ _ => lN); (rename IsRange _ _ _ _ _ _ _ _ => lR)
    refine ⟨_, rw.length, _, _, fun i ys tl => tl = [] ∧ IntsAre ys (spellersN rw ch i), ?sz, csrc_range rfl lF lN lR ?sm ?rs rfl, ⟨rfl, .nil⟩, casg_name rfl rfl, cturn_one ?ct, ?cf⟩
    case sz => rw [PySem.sizeLine_eq]; omega
    case sm => exact small_one (by omega) (by omega) (by omega) (by omega)
    case rs => rw [rangeSize_nat]; simp
    case ct =>
      intro i2 v2 ys2 tl2 I2 oI2 C2 oC2 D2 m2 h2 tk2 E2 hi2 hv2 hR2 hb2 own2 hC2 F2 N2 off2 lt2 ne2
      obtain ⟨t2, rfl⟩ := hv2
      obtain ⟨rfl, hI2⟩ := hR2
      simp only [List.nil_append] at N2
      k_steps
      all_goals (
        rename (_ : Bool) = _ => hin
        refine CEnd.mk [] (by assumption) (by assumption) (fun p hp => hp) (fun _ hp => nomatch hp) own2 ⟨rfl, ?_⟩
        rw [empty_one, Int.zero_add, Int.toNat_natCast] at hin
        rw [spellersN_succ]
        first
          | (have hin' : spl (rw.getD i2 0) ch = true := (by unfold spl; simpa using hin); rw [if_pos hin']; refine hI2.append ?_; simp only [Int.zero_add]; exact .cons _ _ .nil)
          | (have hin' : spl (rw.getD i2 0) ch = false := (by unfold spl; simpa using hin); rw [if_neg (by rw [hin']; exact Bool.false_ne_true), List.append_nil]; exact hI2))
    case cf =>
      intro ys2 tl2 hR2 own2 D2 h2 tk2 F2 N2 ltD2 off2
      obtain ⟨rfl, hI2⟩ := hR2
      simp only [List.nil_append] at N2
      simp only [AllLt] at ltD2
      change IntsAre ys2 (spellers rw ch) at hI2
      have hv : ExtV ([bare + 4] ++ List.replicate ((rw.length : Int) - (spellers rw ch).getD (Int.toNat 0) 0 - 2).toNat 3 ++ [nameOf ch]) := by
        have := spellers_head rw ch
        unfold ExtV
        simp only [List.length_append, List.length_replicate, List.length_cons, List.length_nil]
        omega
      have hsl := spellers_len rw ch
      have hf := spellers_head rw ch
      k_steps
      all_goals (try (simp only [List.push_toArray] at *))
      all_goals first
        | (exfalso; (repeat (rename ((_ : Nat) < _ ∧ _ < _ ∧ _ < _ ∧ _) => z9'; clear z9')); omega)
        | skip
      · -- semi
        refine' turn_end (P := ToOk l rw place x.cps.toList news (L' + 1 + 1) (L' + 1)) ⟨⟨runs ++ [bare], 0, mv⟩, la, _, _, lm, _, _, tl, _, _, orow⟩ (by assumption) (by assumption) ?q9n ?q9o ?q9a ?q9k (ToOk.next G hi9 (ts_semi (by assumption)) (g2.append (.cons _ _ .nil)) g3 ⟨_, by assumption⟩ g11 g12 (.inl rfl) (app1_le _ _) (by simp))
        case q9k => kst_all
        case q9n => kst_inAny
        case q9o => intro p hp; simp [hp]
        case q9a => (simp only [List.map_cons, List.map_append]; exact hoff)
      · -- none
        refine' turn_end (P := ToOk l rw place x.cps.toList news (L' + 1 + 1) (L' + 1)) ⟨⟨runs, bare + 1, mv⟩, la, _, _, lm, _, _, tl, _, _, orow⟩ (by assumption) (by assumption) ?q9n ?q9o ?q9a ?q9k (ToOk.next G hi9 (ts_none (by assumption) (by assumption)) g2 g3 ⟨_, by assumption⟩ g11 g12 (.inr rfl) (Nat.le_add_right _ _) (by simp))
        case q9k => kst_all
        case q9n => kst_inAny
        case q9o => intro p hp; simp [hp]
        case q9a => (simp only [List.map_cons, List.map_append]; exact hoff)
      · refine Stop.mk ?_
        intro Q9 hQ9
        have nm : NoMerge := True.intro
        k_steps
        all_goals first
          | exact nm_done (nm_four (by assumption) (by assumption)) (hQ9 _ _)
          | exact nm_done (nm_three (by assumption) (by assumption)) (hQ9 _ _)
          | exact nm_done (nm_two (by assumption)) (hQ9 _ _)
      · -- A2
        rename ((_ : Nat) < _ ∧ _ < _ ∧ _ < _ ∧ _) => q1
        have p1 := q1.2.2.1
        have p2 := q1.2.2.2.1
        have p3 := q1.2.2.2.2.1
        have p4 := q1.2.2.2.2.2.1
        have p5 := q1.2.2.2.2.2.2
        clear q1
        have e1 := allLt_append p5
        have e2 := allLt_append e1.2
        refine' turn_end (P := ToOk l rw place x.cps.toList news (L' + 1 + 1) (L' + 1)) ⟨⟨runs ++ [bare + 1 + nameOf ch], 0, mv ++ [(1, bare, nameOf ch)]⟩, la, _, _, lm, _, _, ((_, _) :: tl), _, _, orow⟩ (by assumption) (by assumption) ?q9n ?q9o ?q9a ?q9k (ToOk.next G hi9 (ts_some (by assumption) (by assumption) (if_pos (by assumption)) ((if_neg (by assumption)).trans (if_pos (by assumption)))) (g2.append (.cons _ _ .nil)) (moved_push g3) ⟨_, by assumption⟩ (off_push g11 p1 p2 p3 p4) (ownOff_new e2.1 g12) (.inl rfl) (app1_le _ _) (by simp))
        case q9k => kst_all
        case q9n => kst_inAny
        case q9o => intro p hp; simp [hp]
        case q9a => (simp only [List.map_cons, List.map_append, List.cons_append]; exact own_push hoff e2.2)
      · -- A3
        refine' turn_end (P := ToOk l rw place x.cps.toList news (L' + 1 + 1) (L' + 1)) ⟨⟨runs ++ [bare + 1 + nameOf ch], 0, mv⟩, la, _, _, lm, _, _, tl, _, _, orow⟩ (by assumption) (by assumption) ?q9n ?q9o ?q9a ?q9k (ToOk.next G hi9 (ts_some (by assumption) (by assumption) (if_pos (by assumption)) ((if_neg (by assumption)).trans (if_neg (by assumption)))) (g2.append (.cons _ _ .nil)) g3 ⟨_, by assumption⟩ g11 g12 (.inl rfl) (app1_le _ _) (by simp))
        case q9k => kst_all
        case q9n => kst_inAny
        case q9o => intro p hp; simp [hp]
        case q9a => (simp only [List.map_cons, List.map_append]; exact hoff)
      · refine Stop.mk ?_
        intro Q9 hQ9
        have nm : NoMerge := True.intro
        k_steps
        rename ((_ : Nat) < _ ∧ _ < _ ∧ _ < _ ∧ _) => q1
        rename News _ _ _ _ => N9
        exact hQ9 _ _ _ _ (by assumption) (fun p hp => N9 p (by rcases List.mem_cons.mp hp with rfl | hp; exact .head _; exact .tail _ (.tail _ (.tail _ (.tail _ (.tail _ (.tail _ hp))))))) q1.2.2.2.2.2 (by assumption)
      · -- B0
        refine' turn_end (P := ToOk l rw place x.cps.toList news (L' + 1 + 1) (L' + 1)) ⟨⟨runs ++ ([bare + 4] ++ List.replicate ((rw.length : Int) - (spellers rw ch).getD (Int.toNat 0) 0 - 2).toNat 3 ++ [nameOf ch]), 0, mv⟩, la, _, _, lm, _, _, tl, _, _, orow⟩ (by assumption) (by assumption) ?q9n ?q9o ?q9a ?q9k (ToOk.next G hi9 (ts_some (by assumption) (by assumption) (if_neg (by assumption)) ((if_pos (by assumption)).trans (if_pos (by assumption)))) (g2.append (by assumption)) g3 ⟨_, by assumption⟩ g11 g12 (.inl rfl) (app_ext (ext4 hr2)) (by simp))
        case q9k => kst_all
        case q9n => kst_inAny
        case q9o => intro p hp; simp [hp]
        case q9a => (simp only [List.map_cons, List.map_append]; exact hoff)
      · -- B1
        rename ((_ : Nat) < _ ∧ _ < _ ∧ _ < _ ∧ _) => q1
        have p1 := q1.2.2.2.1
        have p2 := q1.2.2.2.2.1
        have p3 := q1.2.2.2.2.2.1
        have p4 := q1.2.2.2.2.2.2.1
        have p5 := q1.2.2.2.2.2.2.2
        clear q1
        have e1 := allLt_append p5
        have e2 := allLt_append e1.2
        refine' turn_end (P := ToOk l rw place x.cps.toList news (L' + 1 + 1) (L' + 1)) ⟨⟨runs ++ ([bare + 4] ++ List.replicate ((rw.length : Int) - (spellers rw ch).getD (Int.toNat 0) 0 - 2).toNat 3 ++ [nameOf ch]), 0, mv ++ [(-1, bare, nameOf ch)]⟩, la, _, _, lm, _, _, ((_, _) :: tl), _, _, orow⟩ (by assumption) (by assumption) ?q9n ?q9o ?q9a ?q9k (ToOk.next G hi9 (ts_some (by assumption) (by assumption) (if_neg (by assumption)) ((if_pos (by assumption)).trans (if_neg (by rename (List.any _ _) = false => zz; rw [zz]; exact Bool.false_ne_true)))) (g2.append (by assumption)) (moved_push g3) ⟨_, by assumption⟩ (off_push g11 p1 p2 p3 p4) (ownOff_new e2.1 g12) (.inl rfl) (app_ext (ext4 hr2)) (by simp))
        case q9k => kst_all
        case q9n => kst_inAny
        case q9o => intro p hp; simp [hp]
        case q9a => (simp only [List.map_cons, List.map_append, List.cons_append]; exact own_push hoff e2.2)
      · -- B2
        rename ((_ : Nat) < _ ∧ _ < _ ∧ _ < _ ∧ _) => q1
        have p1 := q1.2.2.2.1
        have p2 := q1.2.2.2.2.1
        have p3 := q1.2.2.2.2.2.1
        have p4 := q1.2.2.2.2.2.2.1
        have p5 := q1.2.2.2.2.2.2.2
        clear q1
        have e1 := allLt_append p5
        have e2 := allLt_append e1.2
        refine' turn_end (P := ToOk l rw place x.cps.toList news (L' + 1 + 1) (L' + 1)) ⟨⟨runs ++ ([bare + 4] ++ List.replicate ((rw.length : Int) - (spellers rw ch).getD (Int.toNat 0) 0 - 2).toNat 3 ++ [nameOf ch]), 0, mv ++ [(1, bare, nameOf ch)]⟩, la, _, _, lm, _, _, ((_, _) :: tl), _, _, orow⟩ (by assumption) (by assumption) ?q9n ?q9o ?q9a ?q9k (ToOk.next G hi9 (ts_some (by assumption) (by assumption) (if_neg (by assumption)) ((if_neg (by assumption)).trans (if_pos (by assumption)))) (g2.append (by assumption)) (moved_push g3) ⟨_, by assumption⟩ (off_push g11 p1 p2 p3 p4) (ownOff_new e2.1 g12) (.inl rfl) (app_ext (ext4 hr2)) (by simp))
        case q9k => kst_all
        case q9n => kst_inAny
        case q9o => intro p hp; simp [hp]
        case q9a => (simp only [List.map_cons, List.map_append, List.cons_append]; exact own_push hoff e2.2)
      · -- B3
        refine' turn_end (P := ToOk l rw place x.cps.toList news (L' + 1 + 1) (L' + 1)) ⟨⟨runs ++ ([bare + 4] ++ List.replicate ((rw.length : Int) - (spellers rw ch).getD (Int.toNat 0) 0 - 2).toNat 3 ++ [nameOf ch]), 0, mv⟩, la, _, _, lm, _, _, tl, _, _, orow⟩ (by assumption) (by assumption) ?q9n ?q9o ?q9a ?q9k (ToOk.next G hi9 (ts_some (by assumption) (by assumption) (if_neg (by assumption)) ((if_neg (by assumption)).trans (if_neg (by assumption)))) (g2.append (by assumption)) g3 ⟨_, by assumption⟩ g11 g12 (.inl rfl) (app_ext (ext4 hr2)) (by simp))
        case q9k => kst_all
        case q9n => kst_inAny
        case q9o => intro p hp; simp [hp]
        case q9a => (simp only [List.map_cons, List.map_append]; exact hoff)
  case fin =>
    rintro ⟨⟨runs, bare, mv⟩, la, us, k9, lm, ms, km, tl, tb, os, orow⟩ m1 h tk hP F1 N1
    obtain ⟨g1, g2, g3, ⟨g4v, g4⟩, g5, g6, g7, g7a, g7b, g8, g9, g10, g11, g12, g13, g14, g15, g16⟩ := hP
    dsimp only at g1 g2 g3 g4 g5 g6 g7 g7a g7b g8 g9 g10 g11 g12 g13 g14 g15 g16 F1 N1
    k_steps
    rename Fr h₀ L _ _ => kF
    rename News h₀ L _ _ => kN
    rename ((_ : Nat) < _ ∧ _ < _ ∧ _ < _ ∧ _) => q1
    obtain ⟨p1, p2, p3, p4, p5⟩ := q1
    have e1 := allLt_append p5
    have et : told rw place x.cps.toList = ⟨runs, bare, mv⟩ := by
      have e : x.cps.toList.take x.cps.size = x.cps.toList := by rw [← Array.length_toList, List.take_length]
      rw [e] at g1
      exact g1.symm
    refine hret _ ((_, tupOf [.ref la, .int bare tb, .ref lm]) :: (la, _) :: (lm, _) :: tl) _ _ kF (fun p hp => ?_) (ownOff_new e1.2 (ownOff_new g8 (ownOff_new g9 g12))) (by rw [et]; exact ⟨_, la, us, k9, tb, lm, ms, km, rfl, .head _, .tail _ (.head _), .tail _ (.tail _ (.head _)), g2, g3.mono fun _ h => .tail _ (.tail _ (.tail _ h))⟩)
    · refine kN p ?_
      simp only [List.cons_append, List.mem_cons, List.mem_append] at hp ⊢
      rcases hp with hp | hp | hp | hp | hp
      · exact .inl hp
      · exact .inr (.inl hp)
      · exact .inr (.inr (.inl hp))
      · exact .inr (.inr (.inr (.inr (.inr (.inl hp)))))
      · exact .inr (.inr (.inr (.inr (.inr (.inr hp)))))
end
end
end Mine
end
section
open PySem PySem.W PyProof.Rows PyProof.Rows.LCg
set_option maxHeartbeats 8000000
namespace Mine
theorem off_W8 : True := by
  w_top off
  k_with_none
  exact True.intro
def tabOf (c : Nat) : Nat := if c = 59 then 9 else 32
def writ (rw : List Int) (x : Str) : Str := rw.foldl (fun y h => escT (psOf h) y) x
def leadCodes (rw : List Int) (x : Str) : List Nat := (writ rw x).cps.toList.map tabOf ++ [120, 32, 9]
theorem psOf_ok (h : Int) : ((psOf h).all fun p => decide (p.2.length ≤ 6)) = true := by
  unfold psOf
  (repeat' split) <;> decide +kernel
theorem writ_take {rw : List Int} {x : Str} {i : Nat} {h : Int} (e : rw[i]? = some h) : writ (rw.take (i + 1)) x = escT (psOf h) (writ (rw.take i) x) := by
  unfold writ
  rw [List.take_add_one, e, List.foldl_append]
  rfl
theorem join_codes : ∀ cs : List Nat, Str.join (Str.ofString "") (cs.map fun c => (⟨#[c]⟩ : Str)) = ⟨cs.toArray⟩
  | [] => rfl
  | [c] => rfl
  | c :: d :: r => by
    have ih := join_codes (d :: r)
    show (⟨#[c]⟩ : Str) ++ Str.ofString "" ++ Str.join (Str.ofString "") ((d :: r).map fun c => (⟨#[c]⟩ : Str)) = _
    rw [ih]
    refine Str.ext' (Array.toList_inj.mp ?_)
    show ((#[c] ++ (Str.ofString "").cps) ++ (d :: r).toArray).toList = _
    rw [show (Str.ofString "").cps = #[] by decide +kernel]
    simp
theorem ones_sum : ∀ cs : List Nat, ((cs.map fun c => (⟨#[c]⟩ : Str)).map (·.length)).sum = cs.length
  | [] => rfl
  | c :: r => by
    have ih := ones_sum r
    simp only [List.map_cons, List.sum_cons, List.length_cons] at ih ⊢
    rw [ih]
    show 1 + r.length = r.length + 1
    omega
section
variable {prog : Program} {w : World} {A : Around} {E : Value → Shared → Prop} {s : Shared} {h₀ : Heap} {L a : Addr} {m : Str → Option Value} {news : Led} {vs : List Value} {Q : Value → Shared → Prop}
theorem my_join {D : Addr} {k : Nat} {t : Tok} {cs : List Nat} (N : News h₀ L s.heap news) (hm : (D, ({ cls := .type "list", data := .seq vs.toArray k } : Obj)) ∈ news) (hi : StrsAre vs (cs.map fun c => (⟨#[c]⟩ : Str))) (hn : cs.length ≤ 500000)
    (h : ∀ t' k, Q (.str ⟨cs.toArray⟩ t') { s with toks := k }) : wpAny (model prog w) A (call (.builtin "str.join") [.str (Str.ofString "") t, .ref D]) Q E s := by
  refine join_list (News.isList N hm) (by simpa using hi) ?_ fun t' k => ?_
  · have e1 : ((cs.map fun c => (⟨#[c]⟩ : Str)).map (·.length)).sum = cs.length := ones_sum cs
    rw [e1, show (Str.ofString "").length = 0 by decide +kernel]
    omega
  · have e : Txt.join (Str.ofString "") (cs.map fun c => (⟨#[c]⟩ : Str)) = ⟨cs.toArray⟩ := by
      show Builtin.Str.glued (Str.ofString "") _ = _
      rw [StrLaws.glued_eq_join]; exact join_codes cs
    rw [e]; exact h t' k
end
structure LdL where
  x : Str
  t : Tok
section
variable {w : World} {mean : ExcName → Option Value} {mg mb : Str → Option Value}
section
local macro_rules | `(tactic| walk_at $s:str) => `(tactic| k_extra $s)
local macro_rules | `(tactic| k_mem) => `(tactic| first | assumption | exact List.Mem.head _ | (refine List.Mem.tail _ ?_; k_mem) | (refine List.mem_append_left _ ?_; k_mem) | (refine List.mem_append_right _ ?_; k_mem))
theorem ctr_lead (news : Led) (l : Addr) (vs : List Value) (k : Nat) (rw : List Int) (x : Str) (tx : Tok) (hl : (l, W.listOf vs.toArray k) ∈ news) (hi : IntsAre vs rw) (hr2 : rw.length ≤ 3) (hx : x.length ≤ 100) :
    Ctr w mean mg mb 141 4 300 news [.ref l, .str x tx] (fun v tl => ∃ a, v = .ref a ∧ WsIn w.params tl a (wsRun (leadCodes rw x))) := by
  k_with_none
  k_with "exec For Name Name cons nil" => (k_here; (rename Fr _ _ _ _ => lF'); (with_unfolding_all refine' For_stop lF' ?q9a ?q9b ?_; (case q9a => exact rfl); (case q9b => exact rfl); k_whole))
  k_with "eval ListComp" => (k_here; k_dflt (refine ListComp_G (F₀ := by k_asm) (by with_unfolding_all rfl) (by decide) (by rfl) (by decide) ?_))
  k_with "call ref" => (k_here; k_dflt (first | (refine' Ctr.use (ctr_write _ _ _ _ _ ?q9x) ?q9a ?q9b ?q9c ?q9d ?q9e ?q9K ?q9D ?q9U ?_; (case q9x => omega); (case q9a => k_asm); (case q9b => k_asm); (case q9c => k_asm); (case q9d => k_asm); (case q9e => k_asm); (case q9K => exact rfl); (case q9D => ktr_room); (case q9U => ktr_units); intro v' tl' h' tk' F' N' o' hR'; obtain ⟨e', t', e2'⟩ := hR'; subst e'; subst e2'; clear o'; (try simp only [List.nil_append] at N')) | (refine' Ctr.use (ctr_ws _ _ _ ?q9x) ?q9a ?q9b ?q9c ?q9d ?q9e ?q9K ?q9D ?q9U ?_; (case q9x => assumption); (case q9a => k_asm); (case q9b => k_asm); (case q9c => k_asm); (case q9d => k_asm); (case q9e => k_asm); (case q9K => exact rfl); (case q9D => ktr_room); (case q9U => ktr_units); intro v' tl' h' tk' F' N' o' hR'; obtain ⟨a', e', hW'⟩ := hR'; subst e')))
  k_with "call builtin:str.join" => (k_here; k_dflt (refine' my_join ?q9a ?q9b ?q9c ?q9d ?_; (case q9a => k_asm); (case q9b => k_mem); (case q9c => assumption); (case q9d => assumption)); intro _ _)
  unfold Ctr
  k_fill
  intro dp un gd cn cs a ccd cl outer A₀ base h₀ L m s Q E B F X N T hk hd' hu hret
  refine wpAny_call ?_
  cell_enter
  k_steps
  refine Stop.mk ?_
  (rename Fr _ _ _ _ => lF); (rename News _ _ _ _ => lN)
  have hlen := hi.length
  refine' loop_list (σ := LdL) (vs := vs) (nn := k) (fun _ => news) (fun c => [(Str.ofString "written", .str c.x c.t)])
    (fun i c => c.x = writ (rw.take i) x ∧ c.x.length ≤ 100 * 6 ^ i) ⟨x, _⟩ rfl (fun _ => hl) lF lN ?hn ?hk ?hp ?turn ?fin
  case hk => kst_all
  case hn => exact fun _ h => h
  case hp => exact ⟨rfl, by simpa using hx⟩
  case turn =>
    rintro ⟨y, ty⟩ i v m1 h tk own hv hoff hP F1 N1
    obtain ⟨u, hu9, rfl, hu⟩ := hi.at i v hv
    obtain ⟨g1, g2⟩ := hP
    dsimp only at g1 g2 F1 N1 hoff
    have hMk := kstMark
    have hlt : i < vs.length := (List.getElem?_eq_some_iff.mp hv).1
    have hb : y.length ≤ 100000 := by
      have : 6 ^ i ≤ 6 ^ 3 := Nat.pow_le_pow_right (by decide) (by omega)
      omega
    k_steps
    refine' turn_end (P := fun i (c : LdL) => c.x = writ (rw.take i) x ∧ c.x.length ≤ 100 * 6 ^ i) ⟨escT (psOf u) y, _⟩ (by assumption) (by assumption) ?q9n ?q9o ?q9a ?q9k ⟨?q9p, ?q9q⟩
    case q9k => kst_all
    case q9n => intro p hp; simp [hp]
    case q9o => intro p hp; simp [hp]
    case q9a => exact hoff
    case q9p => dsimp only; rw [writ_take hu, ← g1]
    case q9q =>
      dsimp only
      have := escT_length (psOf u) y (psOf_ok u)
      rw [Nat.pow_succ]; omega
  case fin =>
    rintro ⟨y, ty⟩ m1 h tk hP F1 N1
    obtain ⟨g1, g2⟩ := hP
    dsimp only at g1 g2 F1 N1
    have hy : y = writ rw x := by rw [g1, hlen, List.take_length]
    have hb : y.cps.toList.length ≤ 21600 := by
      have : 6 ^ vs.length ≤ 6 ^ 3 := Nat.pow_le_pow_right (by decide) (by omega)
      have e : y.length = y.cps.toList.length := by simp [Str.length]
      omega
    k_steps
    refine Stop.mk ⟨news, y.cps.size, _, _, fun i ys tl => tl = [] ∧ StrsAre ys (((y.cps.toList.take i).map tabOf).map fun c => (⟨#[c]⟩ : Str)), ?sz, csrc_str rfl F1 N1, ⟨rfl, .nil⟩, casg_name rfl rfl, cturn_none ?ct, ?cf⟩
    case sz => rw [sizeLine_eq]; simp only [Array.length_toList] at hb; omega
    case ct =>
      intro i2 v2 ys2 tl2 I2 oI2 C2 oC2 D2 m2 h2 tk2 E2 hi2 hv2 hR2 hb2 own2 hC2 F2 N2 off2 lt2 ne2
      obtain ⟨ch, t2, hch, rfl⟩ := hv2
      obtain ⟨rfl, hI2⟩ := hR2
      simp only [List.nil_append] at N2
      have hMk := kstMark
      k_steps
      all_goals (
        refine CEnd.mk [] (by assumption) (by assumption) (fun p hp => hp) (fun _ hp => nomatch hp) own2 ⟨rfl, ?_⟩
        rename (_ : Bool) = _ => hq
        have e8 : ((y.cps.toList.take (i2 + 1)).map tabOf).map (fun c => (⟨#[c]⟩ : Str)) = ((y.cps.toList.take i2).map tabOf).map (fun c => (⟨#[c]⟩ : Str)) ++ [⟨#[tabOf ch]⟩] := by
          rw [List.take_add_one, hch]; simp
        rw [e8]
        refine StrsAre.append' hI2 ?_
        first
          | (rw [show tabOf ch = 9 from if_pos (semi_yes hq)]; exact .cons _ _ .nil)
          | (rw [show tabOf ch = 32 from if_neg (semi_no hq)]; exact .cons _ _ .nil))
    case cf =>
      intro ys2 tl2 hR2 own2 D2 h2 tk2 F2 N2 ltD2 off2
      obtain ⟨rfl, hI2⟩ := hR2
      simp only [List.nil_append] at N2
      have e9 : y.cps.toList.take y.cps.size = y.cps.toList := by rw [← Array.length_toList, List.take_length]
      rw [e9] at hI2
      have hb2 : (y.cps.toList.map tabOf).length ≤ 500000 := by rw [List.length_map]; omega
      have e10 : ((⟨(y.cps.toList.map tabOf).toArray⟩ : Str) ++ Str.ofString "x \t").cps.toList = leadCodes rw x := by
        unfold leadCodes
        rw [← hy]
        show ((y.cps.toList.map tabOf).toArray ++ (Str.ofString "x \t").cps).toList = _
        rw [Array.toList_append, show (Str.ofString "x \t").cps.toList = [120, 32, 9] by decide +kernel]
      have hb3 : ((⟨(y.cps.toList.map tabOf).toArray⟩ : Str) ++ Str.ofString "x \t").length ≤ 1000000 := by
        show ((⟨(y.cps.toList.map tabOf).toArray⟩ : Str) ++ Str.ofString "x \t").cps.size ≤ 1000000
        rw [← Array.length_toList, e10]
        unfold leadCodes
        rw [List.length_append, ← hy, List.length_map]
        show _ + 3 ≤ _
        omega
      k_steps
      rename Fr h₀ L _ _ => kF
      rename News h₀ L _ _ => kN
      rename OwnOff _ (List.map _ (_ :: _)) => o9
      rename WsIn _ _ _ _ => hW
      rw [e10] at hW
      refine hret _ _ _ _ kF (fun p hp => kN p ?_) (ownOff_tail o9) ⟨_, rfl, hW⟩
      rcases List.mem_append.mp hp with hp | hp
      · exact List.mem_append.mpr (.inl hp)
      · exact List.mem_append.mpr (.inr (.tail _ hp))
end
end
end Mine
end
section
open PySem PySem.W PyProof.Rows PyProof.Rows.LCg
namespace Mine
structure LwL where
  x : Str
  t : Tok
  T : Int
  tT : Tok
def LwOk (ds : List Int) (i : Nat) (c : LwL) : Prop := (0 ≤ c.T ∧ c.T ≤ 100000000) ∧ c.x.length ≤ 6 * i ∧ ((0 : Int) ∈ ds.take i → 60 ∈ c.x.cps.toList) ∧ ((7 : Int) ∈ ds.take i → 34 ∈ c.x.cps.toList)
theorem mem_app {a b : Str} {c : Nat} : c ∈ (a ++ b).cps.toList ↔ c ∈ a.cps.toList ∨ c ∈ b.cps.toList := by
  show c ∈ (a.cps ++ b.cps).toList ↔ _
  rw [Array.toList_append, List.mem_append]
theorem lw_next {ds : List Int} {i : Nat} {y Z : Str} {ty tz tT : Tok} {T u : Int} (h : LwOk ds i ⟨y, ty, T, tT⟩) (hu : ds[i]? = some u) (hZ : Z = y ++ Txt.mul (Str.ofString "a") (Int.fmod u 6) ++ Txt.item (Str.ofString "<\">&\t\r\n;\"<") (Int.fmod (Int.fdiv u 6) 10)) (hl : Z.length ≤ y.length + 6) : LwOk ds (i + 1) ⟨Z, tz, T, tT⟩ := by
  obtain ⟨h1, h2, h3, h4⟩ := h
  dsimp only at h1 h2 h3 h4
  refine ⟨h1, by dsimp only; omega, fun h => ?_, fun h => ?_⟩
  · dsimp only
    rw [List.take_add_one, hu] at h
    rw [hZ]
    rcases List.mem_append.mp h with h | h
    · exact mem_app.mpr (.inl (mem_app.mpr (.inl (h3 h))))
    · obtain rfl : (0 : Int) = u := by simpa using h
      exact mem_app.mpr (.inr (by decide +kernel))
  · dsimp only
    rw [List.take_add_one, hu] at h
    rw [hZ]
    rcases List.mem_append.mp h with h | h
    · exact mem_app.mpr (.inl (mem_app.mpr (.inl (h4 h))))
    · obtain rfl : (7 : Int) = u := by simpa using h
      exact mem_app.mpr (.inr (by decide +kernel))
end Mine
end
section
open PySem PySem.W PyProof.Rows PyProof.Rows.LCg
set_option maxHeartbeats 8000000
namespace Mine
/-- behind a statement that stores a list of ints -/
def RowPost (h₀ : Heap) (L : Addr) (m : Str → Option Value) (y : Str) (rw : List Int) (news : Led) (s : Shared) (f : Flow) (s' : Shared) : Prop :=
  ∃ l vs k h' tk, f = .next ∧ s' = { s with heap := h', toks := tk } ∧ Fr h₀ L h' (fun z => if z = y then some (.ref l) else m z) ∧ News h₀ L h' ((l, W.listOf (List.toArray vs) k) :: news) ∧ IntsAre vs rw
section
variable {M : Model} {A : Around} {E : Value → Shared → Prop} {s : Shared} {env : Env} {h₀ : Heap} {Q : Flow → Shared → Prop} {m : Str → Option Value} {news : Led}
theorem cut_row {st : Stmt} (y : Str) (rw : List Int) (F : Fr h₀ env.locals s.heap m) (N : News h₀ env.locals s.heap news)
    (h1 : wpAny M A (exec st env) (RowPost h₀ env.locals m y rw news s) E s)
    (h2 : ∀ l vs k h' tk, Fr h₀ env.locals h' (fun z => if z = y then some (.ref l) else m z) → News h₀ env.locals h' ((l, W.listOf (List.toArray vs) k) :: news) → IntsAre vs rw → Q .next { s with heap := h', toks := tk }) : wpAny M A (exec st env) Q E s :=
  wpAny_mono h1 (fun f s' ⟨l, vs, k, h', tk, e1, e2, F', N', i'⟩ => by subst e1; subst e2; exact h2 l vs k h' tk F' N' i') fun _ _ e => e
theorem row_new {L : Addr} {y : Str} {rw : List Int} {l : Addr} {vs : List Value} {k : Nat} {h' : Heap} {tk : Nat} {m' : Str → Option Value} {all : Led} (F : Fr h₀ L h' m') (hm : m' = fun z => if z = y then some (.ref l) else m z) (N : News h₀ L h' all) (hl : (l, W.listOf (List.toArray vs) k) ∈ all) (hs : ∀ p ∈ news, p ∈ all) (hi : IntsAre vs rw) :
    RowPost h₀ L m y rw news s .next { s with heap := h', toks := tk } :=
  ⟨l, vs, k, h', tk, rfl, rfl, hm ▸ F, fun p hp => (List.mem_cons.mp hp).elim (fun e => e ▸ N _ hl) (fun h => N p (hs p h)), hi⟩
end
theorem store_same {m : Str → Option Value} {y : Str} {v : Value} (h : m y = some v) : m = fun z => if z = y then some v else m z := by
  funext z
  by_cases e : z = y
  · subst e; rw [if_pos rfl, h]
  · rw [if_neg e]
theorem store_twice {m : Str → Option Value} {y : Str} {v u : Value} : (fun z => if z = y then some v else m z) = fun z => if z = y then some v else (fun z => if z = y then some u else m z) z := by
  funext z
  by_cases e : z = y
  · rw [if_pos e, if_pos e]
  · rw [if_neg e, if_neg e]; dsimp only; rw [if_neg e]
def swapAt (rw : List Int) (p : Int) : List Int := rw.take p.toNat ++ [rw.getD (p + 1).toNat 0, rw.getD p.toNat 0] ++ rw.drop (p.toNat + 2)
def rowP (a b c : Int) (rw : List Int) (p : Int) : Prop := (rw = [a, b] ∧ p = 0) ∨ (rw = [a, b, c] ∧ p = 0) ∨ (rw = [a, b, c] ∧ p = 1)
theorem rp_facts (T a b c : Int) : rowP a b c (if Int.fmod (Int.fdiv T 125) 3 = 0 then [a, b] else [a, b, c]) (Int.fdiv (Int.fmod (Int.fdiv T 125) 3) 2) := by
  have h1 := fmod_lo (Int.fdiv T 125) (n := 3) (by decide)
  have h2 := fmod_hi (Int.fdiv T 125) (n := 3) (by decide)
  generalize Int.fmod (Int.fdiv T 125) 3 = q at h1 h2
  have : q = 0 ∨ q = 1 ∨ q = 2 := by omega
  rcases this with rfl | rfl | rfl
  · exact .inl ⟨rfl, rfl⟩
  · exact .inr (.inl ⟨rfl, rfl⟩)
  · exact .inr (.inr ⟨rfl, rfl⟩)
end Mine
namespace Mine
theorem ints2 {vs : List Value} {a b : Int} (h : IntsAre vs [a, b]) : ∃ t1 t2, vs = [.int a t1, .int b t2] := by
  cases h with
  | cons _ t1 h => cases h with
    | cons _ t2 h => cases h; exact ⟨t1, t2, rfl⟩
theorem ints3 {vs : List Value} {a b c : Int} (h : IntsAre vs [a, b, c]) : ∃ t1 t2 t3, vs = [.int a t1, .int b t2, .int c t3] := by
  cases h with
  | cons _ t1 h => cases h with
    | cons _ t2 h => cases h with
      | cons _ t3 h => cases h; exact ⟨t1, t2, t3, rfl⟩
end Mine
namespace Mine
def Late : Prop := True
theorem cell_ne {h₀ h : Heap} {L a c : Addr} {o1 o2 : Obj} {l : Led} {x : Option Value} (N : News h₀ L h l) (h1 : (a, o1) ∈ l) (h2 : (c, o2) ∈ l) (hd : o2.data = .cell x) (hn : ∀ x, o1.data ≠ .cell x) : @Ne Nat a c := by
  intro e
  have e1 := (N _ h1).1
  have e2 := (N _ h2).1
  dsimp only at e1 e2
  rw [show a = c from e, e2] at e1
  have := Option.some.inj e1
  rw [this] at hd
  exact hn _ hd
theorem news_drop {h₀ h : Heap} {L : Addr} {a b : Addr × Obj} {l : Led} (N : News h₀ L h (a :: b :: l)) (n : Nat) : News h₀ L h (a :: b :: l.drop n) := by
  intro p hp
  refine N p ?_
  rcases List.mem_cons.mp hp with h | hp
  · rw [h]; exact .head _
  rcases List.mem_cons.mp hp with h | hp
  · rw [h]; exact .tail _ (.head _)
  · exact .tail _ (.tail _ (List.mem_of_mem_drop hp))
theorem news_front {h₀ h : Heap} {L : Addr} {a : Addr × Obj} {l : Led} (N : News h₀ L h l) (ha : a ∈ l) : News h₀ L h (a :: l) := by
  intro p hp
  rcases List.mem_cons.mp hp with h | hp
  · rw [h]; exact N _ ha
  · exact N p hp
end Mine
namespace Mine
theorem rp_len {a b c : Int} {rw : List Int} {p : Int} (h : rowP a b c rw p) : (2 ≤ rw.length ∧ rw.length ≤ 3) ∧ (0 ≤ p ∧ p + 1 < rw.length) ∧ (swapAt rw p).length = rw.length := by
  rcases h with ⟨rfl, rfl⟩ | ⟨rfl, rfl⟩ | ⟨rfl, rfl⟩ <;> exact ⟨⟨by simp, by simp⟩, ⟨by simp, by simp⟩, rfl⟩
theorem told_front {h₀ h : Heap} {L : Addr} {tl news : Led} {v : Value} {d : Told} (N : News h₀ L h (tl ++ news)) (hR : ToldIn tl v d) :
    ∃ (a la lm : Addr) (us ms : List Value) (k km : Nat) (t : Tok), v = .ref a ∧ News h₀ L h ((a, tupOf [.ref la, .int d.bare t, .ref lm]) :: (la, W.listOf us.toArray k) :: (lm, W.listOf ms.toArray km) :: (tl ++ news)) ∧ IntsAre us d.runs ∧ DatAll tl ms (d.moved.map rowD) := by
  obtain ⟨a, la, us, k, t, lm, ms, km, e, m1, m2, m3, i1, i2⟩ := hR
  exact ⟨a, la, lm, us, ms, k, km, t, e, news_front (news_front (news_front N (List.mem_append_left _ m3)) (.tail _ (List.mem_append_left _ m2))) (.tail _ (.tail _ (List.mem_append_left _ m1))), i1, i2⟩
end Mine
namespace Mine
theorem fr_over_ex {h₀ h : Heap} {L : Addr} (ps : List (Str × Value)) {m : Str → Option Value} (F : Fr h₀ L h m) (h1 : ∀ p ∈ ps, m p.1 = some p.2) : ∃ m', Fr h₀ L h (kstB m' ps) := ⟨m, fr_over0 h1 F⟩
theorem text_ok {y : Str} {n : Int} (h1 : y.length ≤ 36) (h2 : 60 ∈ y.cps.toList) (h3 : 34 ∈ y.cps.toList) (h4 : (y ++ Txt.mul (Str.ofString "a") n).length ≤ y.length + 2) : (y ++ Txt.mul (Str.ofString "a") n).length ≤ 38 ∧ 60 ∈ (y ++ Txt.mul (Str.ofString "a") n).cps.toList ∧ 34 ∈ (y ++ Txt.mul (Str.ofString "a") n).cps.toList :=
  ⟨by omega, mem_app.mpr (.inl h2), mem_app.mpr (.inl h3)⟩
end Mine
namespace Mine
section
variable {prog : Program} {w : World} {A : Around} {E : Value → Shared → Prop} {s : Shared} {h₀ : Heap} {L a : Addr} {m : Str → Option Value} {news : Led} {Q : Value → Shared → Prop}
theorem my_item0 {value slice : Expr} {u : Tok} {x : Value} {vs : List Value} (N : News h₀ L s.heap news) (hm : (a, tupOf (x :: vs)) ∈ news) (h : Q x s)
    (hs : subscripted slice false (.ref a) (.int 0 u) = operate [.ref a, .int 0 u] (getItem (.ref a) (.int 0 u)) := by with_unfolding_all rfl) :
    wpAny (model prog w) A (subscriptTail value slice (.ref a) (.int 0 u)) Q E s :=
  item_tupleT (l := x :: vs) (News.isTup N hm) (by decide) (by decide) (j := 0) (by unfold seqIndex?; simp) rfl h hs
theorem my_max {vs : List Value} {k : Nat} {ns : List Int} (F : Fr h₀ L s.heap m) (N : News h₀ L s.heap news) (hm : (a, ({ cls := .type "list", data := .seq vs.toArray k } : Obj)) ∈ news) (hi : IntsAre vs ns) (hne : 0 < ns.length) (hh : A.handled = none)
    (h : ∀ h' M (t : Tok) tk, Fr h₀ L h' m → News h₀ L h' news → M ∈ ns → (∀ a, a ∈ ns → a ≤ M) → Q (.int M t) { s with heap := h', toks := tk }) : wpAny (model prog w) A (call (.builtin "max") [.ref a]) Q E s :=
  kso_max F N (News.isList N hm) hi hne hh h
end
end Mine
end
section
open PySem PySem.W PyProof.Rows
set_option maxHeartbeats 4000000
namespace Mine
/-! the plain law, first part: the runs of a writing -/
def rStep (st : List Int × Int) (c : Nat) : List Int × Int := if c = 59 then (st.1 ++ [st.2], 0) else (st.1, st.2 + 1)
def wrL (rw : List Int) (l : List Nat) : List Nat := rw.foldl (fun y h => y.flatMap (ent (psOf h))) l
theorem writ_codes : ∀ (rw : List Int) (x : Str), (writ rw x).cps.toList = wrL rw x.cps.toList
  | [], _ => rfl
  | h :: r, x => by
    have ih := writ_codes r (escT (psOf h) x)
    show (writ r (escT (psOf h) x)).cps.toList = wrL r (x.cps.toList.flatMap (ent (psOf h)))
    rw [ih]
    rfl
theorem wrL_nil : ∀ rw : List Int, wrL rw [] = []
  | [] => rfl
  | h :: r => wrL_nil r
theorem wrL_append : ∀ (rw : List Int) (a b : List Nat), wrL rw (a ++ b) = wrL rw a ++ wrL rw b
  | [], _, _ => rfl
  | h :: r, a, b => by
    show wrL r ((a ++ b).flatMap _) = _
    rw [List.flatMap_append, wrL_append r]
    rfl
theorem wrL_cons (rw : List Int) (a : Nat) (b : List Nat) : wrL rw (a :: b) = wrL rw [a] ++ wrL rw b := wrL_append rw [a] b
theorem spl_txt {h : Int} {ch : Nat} : spl h ch = ((psOf h).lookup ch).isSome := by
  have e0 : (Str.ofString "&<>").cps.toList = [38, 60, 62] := by decide +kernel
  have e1 : (Str.ofString "&<>\r").cps.toList = [38, 60, 62, 13] := by decide +kernel
  have e2 : (Str.ofString "&<>\"\r\n\t").cps.toList = [38, 60, 62, 34, 13, 10, 9] := by decide +kernel
  have e3 : (Str.ofString "&>\"").cps.toList = [38, 62, 34] := by decide +kernel
  have e4 : (Str.ofString "&<\"\r\n\t").cps.toList = [38, 60, 34, 13, 10, 9] := by decide +kernel
  have key : ∀ (ps : List (Nat × List Nat)) (c : Nat), (ps.lookup c).isSome = decide (c ∈ ps.map (·.1)) := by
    intro ps c
    induction ps with
    | nil => rfl
    | cons p r ih =>
      obtain ⟨a, b⟩ := p
      rw [List.lookup_cons]
      by_cases h : c = a
      · subst h; simp
      · have : (c == a) = false := by simpa using h
        rw [this]
        simp only [List.map_cons, List.mem_cons, h, false_or]
        exact ih
  rw [key]
  unfold spl spelled psOf
  split
  · rw [e0]; rfl
  split
  · rw [e1]; rfl
  split
  · rw [e2]; rfl
  split
  · rw [e3]; rfl
  · rw [e4]
    refine decide_eq_decide.mpr ?_
    show ch ∈ [38, 60, 34, 13, 10, 9] ↔ ch ∈ [38, 60, 34, 9, 10, 13]
    exact List.Perm.mem_iff (by decide)
theorem ent_no {h : Int} {ch : Nat} (e : spl h ch = false) : ent (psOf h) ch = [ch] := by
  rw [spl_txt] at e
  unfold ent
  cases hk : (psOf h).lookup ch with
  | none => rfl
  | some z => rw [hk] at e; cases e
/-- no hand's sign, no semicolon -/
def plainB (c : Nat) : Bool := !([38, 60, 62, 34, 13, 10, 9, 59].contains c)
def goodP (p : Nat × List Nat) : Bool := match p.2 with
  | 38 :: r => decide (((r.length : Int) - 1) = nameOf p.1) && (r.dropLast.all plainB) && decide (r = r.dropLast ++ [59])
  | _ => false
theorem psOf_good (h : Int) : ((psOf h).all goodP) = true := by
  unfold psOf
  (repeat' split) <;> decide +kernel
theorem psOf_sub (h : Int) : (((psOf h).map (·.1)).all fun c => [38, 60, 62, 34, 13, 10, 9].contains c) = true := by
  unfold psOf
  (repeat' split) <;> decide +kernel
theorem lookup_mem {ps : List (Nat × List Nat)} {c : Nat} {e : List Nat} (h : ps.lookup c = some e) : (c, e) ∈ ps := by
  induction ps with
  | nil => cases h
  | cons p r ih =>
    obtain ⟨a, b⟩ := p
    rw [List.lookup_cons] at h
    cases hh : c == a
    · rw [hh] at h; exact .tail _ (ih h)
    · rw [hh] at h
      have : c = a := by simpa using hh
      subst this
      cases h
      exact .head _
theorem spl_plain {h : Int} {c : Nat} (hp : plainB c = true) : spl h c = false := by
  rw [spl_txt]
  cases hk : (psOf h).lookup c with
  | none => rfl
  | some z =>
    have hm := lookup_mem hk
    have := List.all_eq_true.mp (psOf_sub h) c (List.mem_map.mpr ⟨_, hm, rfl⟩)
    have hc2 : c ∈ [38, 60, 62, 34, 13, 10, 9] ++ [59] := List.mem_append_left [59] (List.contains_iff_mem.mp this)
    have hc3 : [38, 60, 62, 34, 13, 10, 9, 59].contains c = true := List.contains_iff_mem.mpr hc2
    rw [plainB, hc3] at hp
    cases hp
theorem spl_semi (h : Int) : spl h 59 = false := by
  rw [spl_txt]
  cases hk : (psOf h).lookup 59 with
  | none => rfl
  | some z =>
    have := List.all_eq_true.mp (psOf_sub h) 59 (List.mem_map.mpr ⟨_, lookup_mem hk, rfl⟩)
    exact absurd this (by decide)
theorem ent_yes {h : Int} {ch : Nat} (e : spl h ch = true) : ∃ nm : List Nat, ent (psOf h) ch = 38 :: (nm ++ [59]) ∧ (nm.length : Int) = nameOf ch ∧ (nm.all plainB) = true := by
  rw [spl_txt] at e
  unfold ent
  cases hk : (psOf h).lookup ch with
  | none => rw [hk] at e; cases e
  | some z =>
    have g := List.all_eq_true.mp (psOf_good h) _ (lookup_mem hk)
    unfold goodP at g
    dsimp only at g ⊢
    split at g
    · rename_i r
      simp only [Bool.and_eq_true, decide_eq_true_eq] at g
      obtain ⟨⟨g1, g2⟩, g3⟩ := g
      refine ⟨r.dropLast, by rw [← g3], ?_, g2⟩
      have : r.length = r.dropLast.length + 1 := by rw [g3]; simp
      omega
    · cases g
theorem ent_plain {h : Int} {c : Nat} (hp : plainB c = true) : ent (psOf h) c = [c] := ent_no (spl_plain hp)
theorem flat_plain {h : Int} : ∀ {l : List Nat}, (l.all plainB) = true → l.flatMap (ent (psOf h)) = l
  | [], _ => rfl
  | a :: r, hp => by
    rw [List.all_cons, Bool.and_eq_true] at hp
    rw [List.flatMap_cons, ent_plain hp.1, flat_plain hp.2]
    rfl
theorem wrL_plain : ∀ {rw : List Int} {l : List Nat}, (l.all plainB) = true → wrL rw l = l
  | [], _, _ => rfl
  | h :: r, l, hp => by
    show wrL r (l.flatMap (ent (psOf h))) = l
    rw [flat_plain hp]
    exact wrL_plain hp
theorem wrL_semi : ∀ (rw : List Int), wrL rw [59] = [59]
  | [] => rfl
  | h :: r => by
    show wrL r ([59].flatMap (ent (psOf h))) = [59]
    rw [List.flatMap_cons, ent_no (spl_semi h)]
    exact wrL_semi r
theorem spl_amp (h : Int) : spl h 38 = true := by
  rw [spl_txt]; unfold psOf
  (repeat' split) <;> decide +kernel
theorem ent_amp (h : Int) : ent (psOf h) 38 = [38] ++ [97, 109, 112] ++ [59] := by
  unfold psOf
  (repeat' split) <;> decide +kernel
/-- the amp tails that the later hands lay behind the sign -/
def amps : Nat → List Nat
  | 0 => []
  | k + 1 => amps k ++ [97, 109, 112, 59]
theorem wrL_amp : ∀ (rw : List Int), wrL rw [38] = 38 :: amps rw.length
  | [] => rfl
  | h :: r => by
    show wrL r ([38].flatMap (ent (psOf h))) = _
    rw [List.flatMap_cons, List.flatMap_nil, List.append_nil, ent_amp, wrL_append, wrL_append, wrL_amp r, wrL_semi, wrL_plain (by decide)]
    simp [amps]
theorem wrL_spelled {h : Int} {r : List Int} {ch : Nat} (e : spl h ch = true) : ∃ nm : List Nat, wrL (h :: r) [ch] = 38 :: (amps r.length ++ nm ++ [59]) ∧ (nm.length : Int) = nameOf ch ∧ (nm.all plainB) = true := by
  obtain ⟨nm, h1, h2, h3⟩ := ent_yes e
  refine ⟨nm, ?_, h2, h3⟩
  show wrL r ([ch].flatMap (ent (psOf h))) = _
  rw [List.flatMap_cons, List.flatMap_nil, List.append_nil, h1, wrL_cons, wrL_append, wrL_amp, wrL_semi, wrL_plain h3]
  simp
theorem wrL_skip {h : Int} {r : List Int} {ch : Nat} (e : spl h ch = false) : wrL (h :: r) [ch] = wrL r [ch] := by
  show wrL r ([ch].flatMap (ent (psOf h))) = _
  rw [List.flatMap_cons, List.flatMap_nil, List.append_nil, ent_no e]
/-- runs of a list without semicolons -/
theorem rStep_bare : ∀ {l : List Nat} {R : List Int} {b : Int}, (∀ c ∈ l, c ≠ 59) → l.foldl rStep (R, b) = (R, b + l.length)
  | [], R, b, _ => by simp
  | a :: r, R, b, h => by
    rw [List.foldl_cons]
    show r.foldl rStep (rStep (R, b) a) = _
    have ha := h a (.head _)
    unfold rStep
    rw [if_neg ha]
    show r.foldl rStep (R, b + 1) = _
    rw [rStep_bare (fun c hc => h c (.tail _ hc))]
    simp only [List.length_cons]
    congr 1
    omega
theorem plain_ne {l : List Nat} (h : (l.all plainB) = true) : ∀ c ∈ l, c ≠ 59 := by
  intro c hc e
  subst e
  exact absurd (List.all_eq_true.mp h _ hc) (by decide)
theorem rStep_word {l : List Nat} {R : List Int} {b : Int} (h : (l.all plainB) = true) : (l ++ [59]).foldl rStep (R, b) = (R ++ [b + l.length], 0) := by
  rw [List.foldl_append, rStep_bare (plain_ne h)]
  rfl
theorem rStep_amps : ∀ (k : Nat) (R : List Int), (amps k).foldl rStep (R, 0) = (R ++ List.replicate k 3, 0)
  | 0, R => by simp [amps]
  | k + 1, R => by
    show (amps k ++ ([97, 109, 112] ++ [59])).foldl rStep (R, 0) = _
    rw [List.foldl_append, rStep_amps k, rStep_word (by decide), List.replicate_succ']
    simp
/-- what a sign spelled with k hands behind the first that spells it adds -/
def piece (k : Nat) (b name : Int) : List Int := if k = 0 then [b + 1 + name] else [b + 4] ++ List.replicate (k - 1) 3 ++ [name]
theorem amps_head : ∀ k : Nat, amps (k + 1) = [97, 109, 112, 59] ++ amps k
  | 0 => rfl
  | k + 1 => by
    show amps (k + 1) ++ [97, 109, 112, 59] = [97, 109, 112, 59] ++ (amps k ++ [97, 109, 112, 59])
    rw [amps_head k, List.append_assoc]
theorem rStep_spelled {h : Int} {r : List Int} {ch : Nat} {R : List Int} {b : Int} (e : spl h ch = true) : (wrL (h :: r) [ch]).foldl rStep (R, b) = (R ++ piece r.length b (nameOf ch), 0) := by
  obtain ⟨nm, h1, h2, h3⟩ := wrL_spelled (r := r) e
  rw [h1, List.foldl_cons]
  show (amps r.length ++ nm ++ [59]).foldl rStep (R, b + 1) = _
  unfold piece
  cases hr : r.length with
  | zero =>
    show ([] ++ nm ++ [59]).foldl rStep (R, b + 1) = _
    rw [List.nil_append, rStep_word h3, h2]
    rfl
  | succ k =>
    rw [amps_head, show [97, 109, 112, 59] ++ amps k ++ nm ++ [59] = ([97, 109, 112] ++ [59]) ++ (amps k ++ (nm ++ [59])) by simp, List.foldl_append, rStep_word (by decide), List.foldl_append, rStep_amps, rStep_word h3, h2, if_neg (Nat.succ_ne_zero k)]
    simp only [List.length_cons, List.length_nil, Nat.add_sub_cancel, Int.zero_add, Prod.mk.injEq, and_true]
    rw [show b + 1 + ((0 + 1 + 1 + 1 : Nat) : Int) = b + 4 by omega]
    simp
end Mine
end
section
open PySem PySem.W PyProof.Rows
set_option maxHeartbeats 4000000
namespace Mine
/-- the bounds of what is told -/
structure TB (n : Nat) (d : Told) : Prop where
  b0 : 0 ≤ d.bare
  b1 : d.bare ≤ n
  r : ∀ r ∈ d.runs, 0 ≤ r ∧ r ≤ (n : Int) + 5
  rl : d.runs.length ≤ 4 * n
  m : ∀ r ∈ d.moved, (-1 ≤ r.1 ∧ r.1 ≤ 1) ∧ (0 ≤ r.2.1 ∧ r.2.1 ≤ n) ∧ (2 ≤ r.2.2 ∧ r.2.2 ≤ 4)
  ml : d.moved.length ≤ 2 * n
theorem nameOf_b (ch : Nat) : 2 ≤ nameOf ch ∧ nameOf ch ≤ 4 := by
  unfold nameOf
  (repeat' split) <;> omega
theorem tb_step {rw : List Int} {place : Int} {n : Nat} {d : Told} {ch : Nat} (hr : rw.length ≤ 3) (h : TB n d) : TB (n + 1) (toldStep rw place d ch) := by
  obtain ⟨h1, h2, h3, h4, h5, h6⟩ := h
  have hs := spellers_head rw ch
  have hn := nameOf_b ch
  have up : ∀ r ∈ d.runs, 0 ≤ r ∧ r ≤ ((n + 1 : Nat) : Int) + 5 := fun r hr => by have := h3 r hr; omega
  have upm : ∀ r ∈ d.moved, (-1 ≤ r.1 ∧ r.1 ≤ 1) ∧ (0 ≤ r.2.1 ∧ r.2.1 ≤ ((n + 1 : Nat) : Int)) ∧ (2 ≤ r.2.2 ∧ r.2.2 ≤ 4) := fun r hr => by have := h5 r hr; omega
  unfold toldStep
  split
  · refine ⟨Int.le_refl _, by dsimp only; omega, ?_, ?_, upm, by dsimp only; omega⟩
    · intro r hr
      rcases List.mem_append.mp hr with hr | hr
      · exact up r hr
      · rw [List.mem_singleton.mp hr]; omega
    · dsimp only; rw [List.length_append, List.length_singleton]; omega
  split
  · exact ⟨by dsimp only; omega, by dsimp only; omega, up, by dsimp only; omega, upm, by dsimp only; omega⟩
  · refine ⟨Int.le_refl _, by dsimp only; omega, ?_, ?_, ?_, ?_⟩
    · dsimp only
      unfold toldRuns
      split
      · intro r hr
        rcases List.mem_append.mp hr with hr | hr
        · exact up r hr
        · rw [List.mem_singleton.mp hr]; omega
      · intro r hr
        rcases List.mem_append.mp hr with hr | hr
        · exact up r hr
        · rcases List.mem_append.mp hr with hr | hr
          · rcases List.mem_append.mp hr with hr | hr
            · rw [List.mem_singleton.mp hr]; omega
            · rw [(List.mem_replicate.mp hr).2]; omega
          · rw [List.mem_singleton.mp hr]; omega
    · dsimp only
      unfold toldRuns
      split
      · rw [List.length_append, List.length_singleton]; omega
      · simp only [List.length_append, List.length_replicate, List.length_singleton]; omega
    · dsimp only
      have one : ∀ e : Int, (-1 ≤ e ∧ e ≤ 1) → ∀ r ∈ d.moved ++ [(e, d.bare, nameOf ch)], (-1 ≤ r.1 ∧ r.1 ≤ 1) ∧ (0 ≤ r.2.1 ∧ r.2.1 ≤ ((n + 1 : Nat) : Int)) ∧ (2 ≤ r.2.2 ∧ r.2.2 ≤ 4) := by
        intro e he r hr
        rcases List.mem_append.mp hr with hr | hr
        · exact upm r hr
        · rw [List.mem_singleton.mp hr]; dsimp only; omega
      unfold toldMoved
      (repeat' split) <;> first | exact upm | exact one _ (by omega)
    · dsimp only
      unfold toldMoved
      (repeat' split) <;> (try rw [List.length_append, List.length_singleton]) <;> omega
theorem tb_told {rw : List Int} {place : Int} (hr : rw.length ≤ 3) (cs : List Nat) : TB cs.length (told rw place cs) := by
  have key : ∀ (cs : List Nat) (n : Nat) (d : Told), TB n d → TB (n + cs.length) (cs.foldl (toldStep rw place) d) := by
    intro cs
    induction cs with
    | nil => intro n d h; exact h
    | cons c r ih =>
      intro n d h
      rw [List.foldl_cons]
      have := ih (n + 1) _ (tb_step hr h (place := place) (ch := c))
      rw [List.length_cons, show n + (r.length + 1) = n + 1 + r.length by omega]
      exact this
  have := key cs 0 ⟨[], 0, []⟩ ⟨Int.le_refl _, Int.le_refl _, (fun _ h => nomatch h), Nat.le_refl _, (fun _ h => nomatch h), Nat.le_refl _⟩
  rw [Nat.zero_add] at this
  exact this
theorem max_bnd {n : Nat} {d1 d2 : Told} {M : Int} (t1 : TB n d1) (t2 : TB n d2) (hn : n ≤ 38) (h : M ∈ d1.runs ++ d2.runs ++ [d1.bare]) : 0 ≤ M ∧ M ≤ 43 := by
  rcases List.mem_append.mp h with h | h
  · rcases List.mem_append.mp h with h | h
    · have := t1.r _ h; omega
    · have := t2.r _ h; omega
  · have := t1.b0; have := t1.b1; rw [List.mem_singleton.mp h]; omega
/-- the table's rows -/
def levAt (d : Told) (size : Int) : Int := d.bare + size * (d.runs.map fun r => Int.fdiv r size + 1).sum
def rowAt (d : Told) (behind : Bool) (size : Int) : Row := (size, levAt d size, levAt d size + size * stepsOf d.moved behind size)
end Mine
end
section
open PySem PySem.W PyProof.Rows PyProof.Rows.LCg
set_option maxHeartbeats 8000000
namespace Mine
theorem name_ref {h₀ h : Heap} {L : Addr} {m : Str → Option Value} {x : Str} {a : Addr} (_ : Fr h₀ L h m) (_ : ∀ p ∈ [(x, Value.ref a)], m p.1 = some p.2) : ∃ b, b = a := ⟨a, rfl⟩
theorem fr_over_ps {h₀ h : Heap} {L : Addr} (ps : List (Str × Value)) {m : Str → Option Value} (F : Fr h₀ L h m) (h1 : ∀ p ∈ ps, m p.1 = some p.2) : ∃ m' ps', ps' = ps ∧ Fr h₀ L h (kstB m' ps') := ⟨m, ps, rfl, fr_over0 h1 F⟩
theorem off_cells {h₀ h : Heap} {L : Addr} {l : Led} {c1 c2 c3 a : Addr} {w1 w2 w3 o : Obj} {x1 x2 x3 : Option Value} (N : News h₀ L h l) (ha : (a, o) ∈ l) (h1 : (c1, w1) ∈ l) (h2 : (c2, w2) ∈ l) (h3 : (c3, w3) ∈ l) (e1 : w1.data = .cell x1) (e2 : w2.data = .cell x2) (e3 : w3.data = .cell x3) (ho : ∀ x, o.data ≠ .cell x) :
    a ≠ c1 ∧ a ≠ c2 ∧ a ≠ c3 := ⟨cell_ne N ha h1 e1 ho, cell_ne N ha h2 e2 ho, cell_ne N ha h3 e3 ho⟩
theorem list_ncell {vs : List Value} {k : Nat} : ∀ x, (W.listOf vs.toArray k).data ≠ .cell x := fun _ h => nomatch h
/-- the ledger made small ahead of the table's loop -/
theorem stage {h₀ h : Heap} {L : Addr} {D tbl la lm l8 l9 c1 c2 c3 : Addr} {wsz us ms vs8 vs9 : List Value} {ksz kt ku km k8 k9 : Nat} {w1 w2 w3 : Obj} {x1 x2 x3 : Option Value} {y1 y2 y3 y4 y5 y6 y7 y8 y9 : Addr × Obj} {tl1 tl2 : Led}
    (N : News h₀ L h ((D, W.listOf wsz.toArray ksz) :: y1 :: y2 :: (tbl, W.listOf (List.toArray []) kt) :: y3 :: y4 :: y5 :: y6 :: y7 :: y8 :: (tl2 ++ y9 :: (la, W.listOf us.toArray ku) :: (lm, W.listOf ms.toArray km) :: (tl1 ++ [(l8, W.listOf vs8.toArray k8), (l9, W.listOf vs9.toArray k9), (c1, w1), (c2, w2), (c3, w3)]))))
    (e1 : w1.data = .cell x1) (e2 : w2.data = .cell x2) (e3 : w3.data = .cell x3) (hD : tbl < D) (hA : AllLt tbl (tl2 ++ y9 :: (la, W.listOf us.toArray ku) :: (lm, W.listOf ms.toArray km) :: (tl1 ++ [(l8, W.listOf vs8.toArray k8), (l9, W.listOf vs9.toArray k9), (c1, w1), (c2, w2), (c3, w3)])))
    (hO : OwnOff tl1 [l8, l9, c1, c2, c3]) :
    ∃ base adr, adr = [tbl, c1, c2, c3] ∧ News h₀ L h ((tbl, W.listOf (List.toArray []) kt) :: (c1, w1) :: (c2, w2) :: (c3, w3) :: base) ∧ (D, W.listOf wsz.toArray ksz) ∈ base ∧ (la, W.listOf us.toArray ku) ∈ base ∧ (lm, W.listOf ms.toArray km) ∈ base ∧ (l8, W.listOf vs8.toArray k8) ∈ base ∧ (l9, W.listOf vs9.toArray k9) ∈ base ∧ (∀ p ∈ tl1, p ∈ base) ∧
      OwnOff base adr ∧ (tbl ≠ c1 ∧ tbl ≠ c2 ∧ tbl ≠ c3) := by
  have hA2 := (allLt_append hA).2
  have lt : ∀ p ∈ (la, W.listOf us.toArray ku) :: (lm, W.listOf ms.toArray km) :: (tl1 ++ [(l8, W.listOf vs8.toArray k8), (l9, W.listOf vs9.toArray k9), (c1, w1), (c2, w2), (c3, w3)]), p.1 < tbl := fun p hp => kst_ltOf hA2 p (.tail _ hp)
  have sub : ∀ p ∈ (la, W.listOf us.toArray ku) :: (lm, W.listOf ms.toArray km) :: (tl1 ++ [(l8, W.listOf vs8.toArray k8), (l9, W.listOf vs9.toArray k9), (c1, w1), (c2, w2), (c3, w3)]), p ∈ ((D, W.listOf wsz.toArray ksz) :: y1 :: y2 :: (tbl, W.listOf (List.toArray []) kt) :: y3 :: y4 :: y5 :: y6 :: y7 :: y8 :: (tl2 ++ y9 :: (la, W.listOf us.toArray ku) :: (lm, W.listOf ms.toArray km) :: (tl1 ++ [(l8, W.listOf vs8.toArray k8), (l9, W.listOf vs9.toArray k9), (c1, w1), (c2, w2), (c3, w3)]))) :=
    fun p hp => .tail _ (.tail _ (.tail _ (.tail _ (.tail _ (.tail _ (.tail _ (.tail _ (.tail _ (.tail _ (List.mem_append_right _ (.tail _ hp)))))))))))
  have m8 : (l8, W.listOf vs8.toArray k8) ∈ tl1 ++ [(l8, W.listOf vs8.toArray k8), (l9, W.listOf vs9.toArray k9), (c1, w1), (c2, w2), (c3, w3)] := List.mem_append_right _ (.head _)
  have m9 : (l9, W.listOf vs9.toArray k9) ∈ tl1 ++ [(l8, W.listOf vs8.toArray k8), (l9, W.listOf vs9.toArray k9), (c1, w1), (c2, w2), (c3, w3)] := List.mem_append_right _ (.tail _ (.head _))
  have mc1 : (c1, w1) ∈ tl1 ++ [(l8, W.listOf vs8.toArray k8), (l9, W.listOf vs9.toArray k9), (c1, w1), (c2, w2), (c3, w3)] := List.mem_append_right _ (.tail _ (.tail _ (.head _)))
  have mc2 : (c2, w2) ∈ tl1 ++ [(l8, W.listOf vs8.toArray k8), (l9, W.listOf vs9.toArray k9), (c1, w1), (c2, w2), (c3, w3)] := List.mem_append_right _ (.tail _ (.tail _ (.tail _ (.head _))))
  have mc3 : (c3, w3) ∈ tl1 ++ [(l8, W.listOf vs8.toArray k8), (l9, W.listOf vs9.toArray k9), (c1, w1), (c2, w2), (c3, w3)] := List.mem_append_right _ (.tail _ (.tail _ (.tail _ (.tail _ (.head _)))))
  have n1 := sub _ (.tail _ (.tail _ mc1))
  have n2 := sub _ (.tail _ (.tail _ mc2))
  have n3 := sub _ (.tail _ (.tail _ mc3))
  refine ⟨(D, W.listOf wsz.toArray ksz) :: (la, W.listOf us.toArray ku) :: (lm, W.listOf ms.toArray km) :: (l8, W.listOf vs8.toArray k8) :: (l9, W.listOf vs9.toArray k9) :: tl1, _, rfl, ?_, .head _, .tail _ (.head _), .tail _ (.tail _ (.head _)), .tail _ (.tail _ (.tail _ (.head _))), .tail _ (.tail _ (.tail _ (.tail _ (.head _)))), fun p hp => .tail _ (.tail _ (.tail _ (.tail _ (.tail _ hp)))), ?_, ?_⟩
  · intro p hp
    refine N p ?_
    rcases List.mem_cons.mp hp with h | hp
    · rw [h]; exact .tail _ (.tail _ (.tail _ (.head _)))
    rcases List.mem_cons.mp hp with h | hp
    · rw [h]; exact n1
    rcases List.mem_cons.mp hp with h | hp
    · rw [h]; exact n2
    rcases List.mem_cons.mp hp with h | hp
    · rw [h]; exact n3
    rcases List.mem_cons.mp hp with h | hp
    · rw [h]; exact .head _
    rcases List.mem_cons.mp hp with h | hp
    · rw [h]; exact sub _ (.head _)
    rcases List.mem_cons.mp hp with h | hp
    · rw [h]; exact sub _ (.tail _ (.head _))
    rcases List.mem_cons.mp hp with h | hp
    · rw [h]; exact sub _ (.tail _ (.tail _ m8))
    rcases List.mem_cons.mp hp with h | hp
    · rw [h]; exact sub _ (.tail _ (.tail _ m9))
    · exact sub _ (.tail _ (.tail _ (List.mem_append_left _ hp)))
  · have four : ∀ (a : Addr) (o : Obj), tbl ≠ a → (a ≠ c1 ∧ a ≠ c2 ∧ a ≠ c3) → ∀ b ∈ [tbl, c1, c2, c3], (a, o).1 ≠ b := by
      intro a o h1 ⟨h2, h3, h4⟩ b hb
      rcases List.mem_cons.mp hb with rfl | hb
      · exact Ne.symm h1
      rcases List.mem_cons.mp hb with rfl | hb
      · exact h2
      rcases List.mem_cons.mp hb with rfl | hb
      · exact h3
      · rw [List.mem_singleton.mp hb]; exact h4
    intro p hp
    rcases List.mem_cons.mp hp with rfl | hp
    · exact four _ _ (Nat.ne_of_lt hD) (off_cells N (.head _) n1 n2 n3 e1 e2 e3 list_ncell)
    rcases List.mem_cons.mp hp with rfl | hp
    · exact four _ _ (Nat.ne_of_gt (lt _ (.head _))) (off_cells N (sub _ (.head _)) n1 n2 n3 e1 e2 e3 list_ncell)
    rcases List.mem_cons.mp hp with rfl | hp
    · exact four _ _ (Nat.ne_of_gt (lt _ (.tail _ (.head _)))) (off_cells N (sub _ (.tail _ (.head _))) n1 n2 n3 e1 e2 e3 list_ncell)
    rcases List.mem_cons.mp hp with rfl | hp
    · exact four _ _ (Nat.ne_of_gt (lt _ (.tail _ (.tail _ m8)))) (off_cells N (sub _ (.tail _ (.tail _ m8))) n1 n2 n3 e1 e2 e3 list_ncell)
    rcases List.mem_cons.mp hp with rfl | hp
    · exact four _ _ (Nat.ne_of_gt (lt _ (.tail _ (.tail _ m9)))) (off_cells N (sub _ (.tail _ (.tail _ m9))) n1 n2 n3 e1 e2 e3 list_ncell)
    · refine four p.1 p.2 (Nat.ne_of_gt (lt _ (.tail _ (.tail _ (List.mem_append_left _ hp))))) ⟨?_, ?_, ?_⟩
      · exact hO p hp _ (.tail _ (.tail _ (.head _)))
      · exact hO p hp _ (.tail _ (.tail _ (.tail _ (.head _))))
      · exact hO p hp _ (.tail _ (.tail _ (.tail _ (.tail _ (.head _)))))
  · exact ⟨Nat.ne_of_gt (lt _ (.tail _ (.tail _ mc1))), Nat.ne_of_gt (lt _ (.tail _ (.tail _ mc2))), Nat.ne_of_gt (lt _ (.tail _ (.tail _ mc3)))⟩
/-- the sizes of the table -/
def sizesOf (M T : Int) : List Int := rangeKs 1 (1 + M + 1 - 1).toNat ++ [1 + M + 1 + T]
theorem sizes_b {M T s : Int} (h1 : 0 ≤ M ∧ M ≤ 43) (h2 : 0 ≤ T ∧ T ≤ 100000000) (h : s ∈ sizesOf M T) : 1 ≤ s ∧ s ≤ 1000000000 := by
  unfold sizesOf at h
  rcases List.mem_append.mp h with h | h
  · have := mem_rangeKs h; omega
  · have := List.mem_singleton.mp h; omega
structure TbL where
  vs : List Value
  k : Nat
  tl : Led
  os : Obj
structure TbOk (d : Told) (beh : Bool) (sizes : List Int) (base : Led) (adr : List Addr) (i : Nat) (c : TbL) : Prop where
  rows : DatAll c.tl c.vs (((sizes.take i).map (rowAt d beh)).map rowD)
  cell : ∃ v, c.os.data = .cell v
  off : OwnOff c.tl adr
  offb : OwnOff c.tl (base.map (·.1))
end Mine
namespace Mine
theorem ex15 {A1 A2 A3 A4 A5 A6 A7 A8 A9 A10 A11 A12 A13 A14 A15 : Type} {P : A1 → A2 → A3 → A4 → A5 → A6 → A7 → A8 → A9 → A10 → A11 → A12 → A13 → A14 → A15 → Prop} {G : Prop} (h : ∃ a1 a2 a3 a4 a5 a6 a7 a8 a9 a10 a11 a12 a13 a14 a15, P a1 a2 a3 a4 a5 a6 a7 a8 a9 a10 a11 a12 a13 a14 a15) (k : ∀ a1 a2 a3 a4 a5 a6 a7 a8 a9 a10 a11 a12 a13 a14 a15, P a1 a2 a3 a4 a5 a6 a7 a8 a9 a10 a11 a12 a13 a14 a15 → G) : G := by
  obtain ⟨a1, a2, a3, a4, a5, a6, a7, a8, a9, a10, a11, a12, a13, a14, a15, h⟩ := h
  exact k _ _ _ _ _ _ _ _ _ _ _ _ _ _ _ h
structure Stg (h₀ h : Heap) (L D tbl la lm l8 l9 c1 c2 c3 : Addr) (vs8 vs9 : List Value) (kt k8 k9 : Nat) (w1 w2 : Obj) (dm : List Dat) (is ru : List Int)
    (base : Led) (adr : List Addr) (pc1 pc2 : Addr × Obj) (c3' : Addr) (w3' : Obj) (vsz vru vm : List Value) (kz kr kk : Nat) (Dz la' lm' : Addr) : Prop where
  q1 : pc1 = (c1, w1)
  q2 : pc2 = (c2, w2)
  q3 : c3' = c3
  q4 : la' = la
  q5 : lm' = lm
  q6 : Dz = D
  cell : ∃ v, w3'.data = .cell v
  qa : adr = [tbl, c1, c2, c3]
  news : News h₀ L h ((tbl, W.listOf (List.toArray []) kt) :: pc1 :: pc2 :: (c3', w3') :: base)
  mz : (Dz, W.listOf vsz.toArray kz) ∈ base
  mr : (la', W.listOf vru.toArray kr) ∈ base
  mm : (lm', W.listOf vm.toArray kk) ∈ base
  m8 : (l8, W.listOf vs8.toArray k8) ∈ base
  m9 : (l9, W.listOf vs9.toArray k9) ∈ base
  dat : DatAll base vm dm
  iz : IntsAre vsz is
  ir : IntsAre vru ru
  off : OwnOff base adr
  ne : @Ne Nat tbl c1 ∧ @Ne Nat tbl c2 ∧ @Ne Nat tbl c3
theorem stageV {h₀ h : Heap} {L : Addr} {D tbl la lm l8 l9 c1 c2 c3 : Addr} {wsz us ms vs8 vs9 : List Value} {ksz kt ku km k8 k9 : Nat} {w1 w2 w3 : Obj} {x1 x2 x3 : Option Value} {y1 y2 y3 y4 y5 y6 y7 y8 y9 : Addr × Obj} {tl1 tl2 : Led} {dm : List Dat} {is : List Int} {ru : List Int}
    (N : News h₀ L h ((D, W.listOf wsz.toArray ksz) :: y1 :: y2 :: (tbl, W.listOf (List.toArray []) kt) :: y3 :: y4 :: y5 :: y6 :: y7 :: y8 :: (tl2 ++ y9 :: (la, W.listOf us.toArray ku) :: (lm, W.listOf ms.toArray km) :: (tl1 ++ [(l8, W.listOf vs8.toArray k8), (l9, W.listOf vs9.toArray k9), (c1, w1), (c2, w2), (c3, w3)]))))
    (e1 : w1.data = .cell x1) (e2 : w2.data = .cell x2) (e3 : w3.data = .cell x3) (hD : tbl < D) (hA : AllLt tbl (tl2 ++ y9 :: (la, W.listOf us.toArray ku) :: (lm, W.listOf ms.toArray km) :: (tl1 ++ [(l8, W.listOf vs8.toArray k8), (l9, W.listOf vs9.toArray k9), (c1, w1), (c2, w2), (c3, w3)])))
    (hO : OwnOff tl1 [l8, l9, c1, c2, c3]) (iz : IntsAre wsz is) (iu : IntsAre us ru) (dM : DatAll tl1 ms dm) :
    ∃ (base : Led) (adr : List Addr) (pc1 pc2 : Addr × Obj) (c3' : Addr) (w3' : Obj) (vsz vru vm : List Value) (kz kr kk : Nat) (Dz la' lm' : Addr), Stg h₀ h L D tbl la lm l8 l9 c1 c2 c3 vs8 vs9 kt k8 k9 w1 w2 dm is ru base adr pc1 pc2 c3' w3' vsz vru vm kz kr kk Dz la' lm' := by
  obtain ⟨base, adr, h1, h2, h3, h4, h5, h6, h7, h8, h9, h10⟩ := stage N e1 e2 e3 hD hA hO
  exact ⟨base, adr, _, _, _, _, _, _, _, _, _, _, _, _, _, rfl, rfl, rfl, rfl, rfl, rfl, ⟨_, e3⟩, h1, h2, h3, h4, h5, h6, h7, dM.mono h8, iz, iu, h9, h10⟩
end Mine
namespace Mine
theorem fr_ps {h₀ h : Heap} {L : Addr} (ps : List (Str × Value)) {m : Str → Option Value} (F : Fr h₀ L h m) (h1 : ∀ p ∈ ps, m p.1 = some p.2) : ∃ m' ps', ps' = ps ∧ Fr h₀ L h m' ∧ ∀ p ∈ ps', m' p.1 = some p.2 := ⟨m, ps, rfl, F, h1⟩
theorem name_mem {a : Int} {l : List Int} (_ : a ∈ l) : ∃ b, b = a := ⟨a, rfl⟩
end Mine
namespace Mine
theorem take_map_snoc {l : List Int} {i : Nat} {r : Int} {f : Int → Int} (h : l[i]? = some r) : (l.take (i + 1)).map f = (l.take i).map f ++ [f r] := by
  rw [List.take_add_one, h]; simp
end Mine
namespace Mine
theorem sizes_len {M T : Int} (h : 0 ≤ M ∧ M ≤ 43) : (sizesOf M T).length ≤ 45 := by
  unfold sizesOf
  rw [List.length_append, rangeKs_length, List.length_singleton]; omega
theorem take_row_len {d : Told} {beh : Bool} {sizes : List Int} {i : Nat} : ((sizes.take i).map (rowAt d beh)).length ≤ sizes.length := by
  rw [List.length_map, List.length_take]; omega
end Mine
namespace Mine
theorem TbOk.next {d : Told} {beh : Bool} {sizes : List Int} {base tl own : Led} {tbl c1 c2 c3 D i : Nat} {vs : List Value} {k' : Nat} {os' : Obj} {u e1 e2 e3 : Int} {a1 a2 a3 : Tok}
    (P1 : DatAll tl vs (((sizes.take i).map (rowAt d beh)).map rowD)) (P3 : OwnOff tl [tbl, c1, c2, c3]) (P4 : OwnOff tl (base.map (·.1))) (hu : sizes[i]? = some u) (he : (e1, e2, e3) = rowAt d beh u) (l : tbl < D ∧ c1 < D ∧ c2 < D ∧ c3 < D ∧ AllLt D (tl ++ (base ++ own))) (hc : ∃ v, os'.data = .cell v) :
    TbOk d beh sizes base [tbl, c1, c2, c3] (i + 1) ⟨vs ++ [.ref D], k', (D, tupOf [.int e1 a1, .int e2 a2, .int e3 a3]) :: tl, os'⟩ := by
  have q := allLt_append l.2.2.2.2
  have q2 := allLt_append q.2
  refine ⟨?_, hc, off_push P3 l.1 l.2.1 l.2.2.1 l.2.2.2.1, ownOff_new q2.1 P4⟩
  dsimp only
  rw [List.take_add_one, hu]
  simp only [Option.toList_some, List.map_append, List.map_cons, List.map_nil]
  rw [← he]
  exact (DatAll.mono (fun _ h => .tail _ h) P1).append (.one (.tuple (.head _) (.cons (.int _ _) (.cons (.int _ _) (.cons (.int _ _) .nil)))))
end Mine
end
section
open PySem PySem.W PyProof.Rows
set_option maxHeartbeats 4000000
namespace Mine
structure WsB (i : Nat) (st : Ws) : Prop where
  len : st.cnt.length ≤ i + 1
  b : st.b ≤ i
  n : st.n ≤ i
  nt : st.nt ≤ i
  pos : ∀ c ∈ st.cnt, 0 ≤ c ∧ c ≤ (i : Int)
theorem getD_b {l : List Int} {i : Nat} (h : ∀ c ∈ l, 0 ≤ c ∧ c ≤ (i : Int)) (k : Nat) : 0 ≤ l.getD k 0 ∧ l.getD k 0 ≤ (i : Int) := by
  rw [List.getD_eq_getElem?_getD]
  cases e : l[k]? with
  | none => exact ⟨Int.le_refl _, Int.natCast_nonneg i⟩
  | some c => exact h c (List.mem_of_getElem? e)
theorem wsB_step {i : Nat} {st : Ws} (h : WsB i st) (c : Nat) : WsB (i + 1) (wsStep st c) := by
  obtain ⟨h1, h2, h3, h4, h5⟩ := h
  unfold wsStep
  split
  · exact ⟨by dsimp only; omega, by dsimp only; omega, by dsimp only; omega, by dsimp only; omega, fun c hc => by have := h5 c hc; omega⟩
  · refine ⟨?_, by dsimp only; omega, by dsimp only; omega, by dsimp only; omega, ?_⟩
    · dsimp only; rw [wsAdd_length]; split <;> omega
    · dsimp only
      unfold wsAdd
      have key : ∀ c2 : List Int, (∀ c ∈ c2, 0 ≤ c ∧ c ≤ (i : Int)) → ∀ c ∈ c2.set st.b (c2.getD st.b 0 + 1), 0 ≤ c ∧ c ≤ ((i + 1 : Nat) : Int) := by
        intro c2 hc2 c hc
        rcases List.mem_or_eq_of_mem_set hc with h | h
        · have := hc2 c h; omega
        · have := getD_b hc2 st.b; omega
      refine key _ ?_
      split
      · intro c hc
        rcases List.mem_append.mp hc with h | h
        · exact h5 c h
        · rw [(List.mem_replicate.mp h).2]; exact ⟨Int.le_refl _, Int.natCast_nonneg i⟩
      · exact h5
theorem wsB_fold : ∀ (l : List Nat) (i : Nat) (st : Ws), WsB i st → WsB (i + l.length) (l.foldl wsStep st)
  | [], _, _, h => h
  | a :: r, i, st, h => by
    rw [List.foldl_cons, List.length_cons, show i + (r.length + 1) = i + 1 + r.length by omega]
    exact wsB_fold r (i + 1) _ (wsB_step h a)
theorem wsRun_ok {l : List Nat} (h : l.length ≤ 1000000) : WsOk (wsRun l) := by
  have b0 : WsB 0 ⟨[], 0, 0, 0⟩ := ⟨Nat.zero_le _, Nat.le_refl _, Nat.le_refl _, Nat.le_refl _, fun _ h => nomatch h⟩
  have b := wsB_fold (l.takeWhile isWs) 0 _ b0
  have hl : (l.takeWhile isWs).length ≤ l.length := (List.takeWhile_prefix _).length_le
  obtain ⟨h1, h2, h3, h4, h5⟩ := b
  unfold wsRun
  exact ⟨by omega, by omega, by omega, by omega, fun c hc => by have := h5 c hc; omega⟩
theorem writ_len : ∀ (rw : List Int) (x : Str), (writ rw x).length ≤ x.length * 6 ^ rw.length
  | [], x => by simp [writ]
  | h :: r, x => by
    have ih := writ_len r (escT (psOf h) x)
    have e : (writ (h :: r) x) = writ r (escT (psOf h) x) := rfl
    have := escT_length (psOf h) x (psOf_ok h)
    rw [e, List.length_cons, Nat.pow_succ]
    refine Nat.le_trans ih ?_
    calc _ ≤ 6 * x.length * 6 ^ r.length := Nat.mul_le_mul_right _ this
      _ = x.length * (6 ^ r.length * 6) := by rw [Nat.mul_comm 6 x.length, Nat.mul_assoc, Nat.mul_comm 6]
theorem lead_len {rw : List Int} {x : Str} (hr : rw.length ≤ 3) (hx : x.length ≤ 100) : (leadCodes rw x).length ≤ 1000000 := by
  have h := writ_len rw x
  have h6 : 6 ^ rw.length ≤ 216 := Nat.pow_le_pow_right (by decide) hr
  have : x.length * 6 ^ rw.length ≤ 100 * 216 := Nat.mul_le_mul hx h6
  unfold leadCodes
  rw [List.length_append, List.length_map]
  have e : (writ rw x).length = (writ rw x).cps.toList.length := by simp [Str.length]
  show _ + 3 ≤ _
  omega
theorem lead_ok {rw : List Int} {x : Str} (hr : rw.length ≤ 3) (hx : x.length ≤ 100) : WsOk (wsRun (leadCodes rw x)) := wsRun_ok (lead_len hr hx)
end Mine
end
section
open PySem PySem.W PyProof.Rows PyProof.Rows.LCg
set_option maxHeartbeats 8000000
namespace Mine
theorem news_swap4 {h₀ h : Heap} {L : Addr} {t r : Led} {a b c d : Addr × Obj} (N : News h₀ L h (t ++ (a :: b :: c :: d :: r))) : News h₀ L h (a :: b :: c :: d :: (t ++ r)) := by
  intro p hp
  refine N p ?_
  simp only [List.mem_cons, List.mem_append] at hp ⊢
  rcases hp with h | h | h | h | h | h <;> simp [h]
theorem off4 {t r : Led} {a b c d : Addr} {o1 o2 o3 o4 : Obj} (o : OwnOff t (((a, o1) :: (b, o2) :: (c, o3) :: (d, o4) :: r).map (·.1))) : OwnOff t [a, b, c, d] := by
  intro p hp x hx
  refine o p hp x ?_
  simp only [List.map_cons, List.mem_cons, List.not_mem_nil, or_false] at hx ⊢
  rcases hx with h | h | h | h <;> simp [h]
/-- the ledger ahead of the comparisons -/
theorem stage2 {P : Params} {h₀ h : Heap} {L : Addr} {t1 t2 : Led} {a b c d : Addr × Obj} {one other : Addr} {s1 s2 : Ws} {vs : List Value} {ds : List Dat} {tl base : Led}
    (N : News h₀ L h (a :: b :: c :: d :: (t2 ++ (t1 ++ (tl ++ base))))) (h1 : WsIn P t1 one s1) (h2 : WsIn P t2 other s2) (D : DatAll tl vs ds) :
    ∃ (bs : Led) (one' other' : Addr), one' = one ∧ other' = other ∧ News h₀ L h (a :: b :: c :: d :: bs) ∧ WsIn P bs one' s1 ∧ WsIn P bs other' s2 ∧ DatAll bs vs ds :=
  ⟨_, _, _, rfl, rfl, N, h1.mono fun p hp => List.mem_append_right _ (List.mem_append_left _ hp), h2.mono fun p hp => List.mem_append_left _ hp, DatAll.mono (fun p hp => List.mem_append_right _ (List.mem_append_right _ (List.mem_append_left _ hp))) D⟩
def nearOf (d : Told) (beh : Bool) (M : Int) : List Row := (rangeKs 1 (1 + M + 1 - 1).toNat).map (rowAt d beh)
def swapRow (r : Row) : Row := (r.1, r.2.2, r.2.1)
/-- what the plain law says of the two leads -/
structure Plain (s1 s2 : Ws) (d : Told) (beh : Bool) (M : Int) : Prop where
  lev1 : ∀ s, 1 ≤ s → levelOf s1 s = levAt d s
  lev2 : ∀ s, 1 ≤ s → levelOf s2 s = levAt d s + s * stepsOf d.moved beh s
  len1 : 2 ≤ s1.cnt.length
  len2 : 2 ≤ s2.cnt.length
  less1 : lessB s1 s2 = decide ((nearOf d beh M).filter (fun r => decide (r.2.2 ≤ r.2.1)) = [])
  less2 : lessB s2 s1 = decide ((nearOf d beh M).filter (fun r => decide (r.2.1 ≤ r.2.2)) = [])
  eq1 : eqB s1 s2 = decide ((nearOf d beh M).filter (fun r => decide (r.2.1 ≠ r.2.2)) = [])
  eq2 : eqB s2 s1 = decide ((nearOf d beh M).filter (fun r => decide (r.2.1 ≠ r.2.2)) = [])
  wit1 : witL (fun a b => decide (a ≥ b)) s1 s2 (topOf s1 s2).toNat = (nearOf d beh M).filter (fun r => decide (r.2.2 ≤ r.2.1))
  wit2 : witL (fun a b => decide (a ≥ b)) s2 s1 (topOf s2 s1).toNat = ((nearOf d beh M).filter (fun r => decide (r.2.1 ≤ r.2.2))).map swapRow
  wit3 : witL (fun a b => decide (a ≠ b)) s1 s2 (topOf s1 s2).toNat = (nearOf d beh M).filter (fun r => decide (r.2.1 ≠ r.2.2))
theorem Plain.row {s1 s2 : Ws} {d : Told} {beh : Bool} {M s : Int} (p : Plain s1 s2 d beh M) (h : 1 ≤ s) : (s, levelOf s1 s, levelOf s2 s) = rowAt d beh s := by
  unfold rowAt; rw [p.lev1 s h, p.lev2 s h]
/-- what a comprehension's turn over rows knows -/
theorem rows_src {news : Led} {vs : List Value} {rows : List Row} (D : DatAll news vs (rows.map rowD)) : ∀ (i : Nat) (v : Value), i < vs.length → vs[i]? = some v → ∃ t a b c k, v = .ref t ∧ (t, ({ cls := .type "tuple", data := .seq [a, b, c].toArray k } : Obj)) ∈ news := by
  intro i v _ hv
  obtain ⟨r, _, hD⟩ := dat_rows D hv
  obtain ⟨a, t1, t2, t3, n, e, hm⟩ := dat_row hD
  exact ⟨a, _, _, _, n, e, hm⟩
theorem rows_bnd {h₀ h : Heap} {L : Addr} {news : Led} {vs : List Value} {rows : List Row} {i : Nat} {v : Value} {m₂ : Str → Option Value} {x1 x2 x3 : Str} (N : News h₀ L h news) (D : DatAll news vs (rows.map rowD)) (hv : vs[i]? = some v)
    (hB : ∃ t a b c k, v = .ref t ∧ (t, ({ cls := .type "tuple", data := .seq [a, b, c].toArray k } : Obj)) ∈ news ∧ m₂ x1 = some a ∧ m₂ x2 = some b ∧ m₂ x3 = some c) :
    ∃ (e1 e2 e3 : Int) (t1 t2 t3 : Tok), rows[i]? = some (e1, e2, e3) ∧ m₂ x1 = some (.int e1 t1) ∧ m₂ x2 = some (.int e2 t2) ∧ m₂ x3 = some (.int e3 t3) := by
  obtain ⟨⟨e1, e2, e3⟩, hr, hD⟩ := dat_rows D hv
  obtain ⟨t', t1, t2, t3, n, e, hm⟩ := dat_row hD
  obtain ⟨t, a, b, c, k, e', hm', h1, h2, h3⟩ := hB
  rw [e'] at e
  have e := Value.ref.inj e
  subst e
  have g1 := (N _ hm).1
  have g2 := (N _ hm').1
  dsimp only at g1 g2
  rw [g2] at g1
  have g := congrArg Obj.data (Option.some.inj g1)
  simp only [Data.seq.injEq, List.toArray_inj, Array.mk.injEq, List.cons.injEq, and_true] at g
  obtain ⟨⟨q1, q2, q3⟩, _⟩ := g
  subst q1 q2 q3
  exact ⟨e1, e2, e3, t1, t2, t3, hr, h1, h2, h3⟩
end Mine
namespace Mine
theorem rows_bnd' {h₀ h : Heap} {L : Addr} {news : Led} {vs : List Value} {rows : List Row} {i : Nat} {v : Value} {m₂ : Str → Option Value} {x1 x2 x3 : Str} {G : Prop} (N : News h₀ L h news) (D : DatAll news vs (rows.map rowD)) (hv : vs[i]? = some v)
    (hB : ∃ t a b c k, v = .ref t ∧ (t, ({ cls := .type "tuple", data := .seq [a, b, c].toArray k } : Obj)) ∈ news ∧ m₂ x1 = some a ∧ m₂ x2 = some b ∧ m₂ x3 = some c)
    (k9 : ∀ (e1 e2 e3 : Int) (t1 t2 t3 : Tok), rows[i]? = some (e1, e2, e3) → m₂ x1 = some (.int e1 t1) → m₂ x2 = some (.int e2 t2) → m₂ x3 = some (.int e3 t3) → G) : G := by
  obtain ⟨e1, e2, e3, t1, t2, t3, h1, h2, h3, h4⟩ := rows_bnd N D hv hB
  exact k9 e1 e2 e3 t1 t2 t3 h1 h2 h3 h4
theorem rows_at {sizes : List Int} {d : Told} {beh : Bool} {i : Nat} {e1 e2 e3 : Int} (h : (sizes.map (rowAt d beh))[i]? = some (e1, e2, e3)) : sizes[i]? = some e1 ∧ rowAt d beh e1 = (e1, e2, e3) := by
  rw [List.getElem?_map] at h
  cases hs : sizes[i]? with
  | none => rw [hs] at h; cases h
  | some s =>
    rw [hs] at h
    have h := Option.some.inj h
    have : s = e1 := congrArg Prod.fst h
    subst this
    exact ⟨rfl, h⟩
theorem take_rows {rows : List Row} {i : Nat} {r : Row} (h : rows[i]? = some r) : (rows.take (i + 1)).map rowD = (rows.take i).map rowD ++ [rowD r] := by
  rw [List.take_add_one, h]; simp
end Mine
namespace Mine
theorem CEnd.row {h₀ : Heap} {L : Addr} {m : Str → Option Value} {s₁ : Shared} {I C D D' : Nat} {oI oC oD o : Obj} {news tl : Led} {R : Value → Led → Prop} {h' : Heap} {tk : Nat}
    (F : Fr h₀ L h' m) (N : News h₀ L h' ((D', o) :: (I, oI) :: (C, oC) :: (D, oD) :: (tl ++ news))) (l : I < D' ∧ C < D' ∧ D < D' ∧ AllLt D' (tl ++ news)) (off : OwnOff tl [I, C, D]) (own : OwnOff tl (news.map (·.1))) (r : R (.ref D') ((D', o) :: tl)) :
    CEnd h₀ L m s₁ I oI C oC D oD news R (.ref D') { s₁ with heap := h', toks := tk } := by
  refine CEnd.mk ((D', o) :: tl) F N ?_ ?_ (ownOff_new (allLt_append l.2.2.2).2 own) r
  · intro p hp
    simp only [List.mem_cons, List.mem_append] at hp ⊢
    rcases hp with h | h | h | (h | h) | h <;> simp [h]
  · intro p hp
    rcases List.mem_cons.mp hp with rfl | hp
    · exact ⟨Nat.ne_of_gt l.1, Nat.ne_of_gt l.2.1, Nat.ne_of_gt l.2.2.1⟩
    · exact ⟨off p hp _ (.head _), off p hp _ (.tail _ (.head _)), off p hp _ (.tail _ (.tail _ (.head _)))⟩
/-- one row more -/
theorem rows_snoc {tl : Led} {ys : List Value} {rows : List Row} {i : Nat} {e1 e2 e3 f2 f3 : Int} {a1 a2 a3 : Tok} {D : Addr} (h : DatAll tl ys ((rows.take i).map rowD)) (hr : rows[i]? = some (e1, e2, e3)) (e : (e1, f2, f3) = (e1, e2, e3)) :
    DatAll ((D, tupOf [.int e1 a1, .int f2 a2, .int f3 a3]) :: tl) (ys ++ [.ref D]) ((rows.take (i + 1)).map rowD) := by
  rw [take_rows hr, ← e]
  exact (DatAll.mono (fun _ h => .tail _ h) h).append (.one (.tuple (.head _) (.cons (.int _ _) (.cons (.int _ _) (.cons (.int _ _) .nil)))))
theorem rows_ok (rows : List Row) : kqdOk 8 (.list (rows.map rowD)) = true := by
  simp only [kqdOk, List.all_map]
  exact List.all_eq_true.mpr fun _ _ => rfl
theorem rowD_inj : ∀ {a b : List Row}, a.map rowD = b.map rowD → a = b
  | [], [], _ => rfl
  | [], _ :: _, h => by cases h
  | _ :: _, [], h => by cases h
  | (x1, x2, x3) :: a, (y1, y2, y3) :: b, h => by
    simp only [List.map_cons, List.cons.injEq, rowD, Dat.tuple.injEq, Dat.int.injEq, and_true] at h
    obtain ⟨⟨q1, q2, q3⟩, h⟩ := h
    subst q1 q2 q3
    rw [rowD_inj h]
theorem rows_iff (a b : List Row) : Dat.list (a.map rowD) = Dat.list (b.map rowD) ↔ a = b :=
  ⟨fun h => rowD_inj (Dat.list.inj h), fun h => by rw [h]⟩
section
variable {prog : Program} {w : World} {A : Around} {E : Value → Shared → Prop} {s : Shared} {h₀ : Heap} {L : Addr} {news : Led} {Q : Value → Shared → Prop}
theorem ne_rows {D D' : Addr} {ys vs : List Value} {k k' : Nat} {r : List Row} (N : News h₀ L s.heap news) (h1 : (D, W.listOf ys.toArray k) ∈ news) (h2 : (D', W.listOf vs.toArray k') ∈ news) (d1 : DatAll news ys (r.map rowD)) (d2 : DatAll news vs (r.map rowD)) (hu : A.units + 64 < cLine) (h : Q (.bool false) s) :
    wpAny (model prog w) A (compareOp .NotEq (.ref D) (.ref D')) Q E s := by
  refine my_neD (P := r = r) N (.list h1 d1) (.list h2 d2) (rows_ok _) (rows_ok _) (rows_iff _ _) hu ?_
  rw [decide_eq_true rfl]; exact h
theorem eq_rows {D D' : Addr} {ys vs : List Value} {k k' : Nat} {r : List Row} (N : News h₀ L s.heap news) (h1 : (D, W.listOf ys.toArray k) ∈ news) (h2 : (D', W.listOf vs.toArray k') ∈ news) (d1 : DatAll news ys (r.map rowD)) (d2 : DatAll news vs (r.map rowD)) (hu : A.units + 64 < cLine) (h : Q (.bool true) s) :
    wpAny (model prog w) A (compareOp .Eq (.ref D) (.ref D')) Q E s := by
  refine my_eqD (P := r = r) N (.list h1 d1) (.list h2 d2) (rows_ok _) (rows_ok _) (rows_iff _ _) hu ?_
  rw [decide_eq_true rfl]; exact h
theorem nil_rows {D l : Addr} {ys : List Value} {j k : Nat} {r : List Row} (N : News h₀ L s.heap news) (h1 : (D, W.listOf ys.toArray k) ∈ news) (h2 : (l, ({ cls := .type "list", data := .seq #[] j } : Obj)) ∈ news) (d1 : DatAll news ys (r.map rowD)) (hu : A.units + 64 < cLine) (h : Q (.bool (decide (r = []))) s) :
    wpAny (model prog w) A (compareOp .Eq (.ref D) (.ref l)) Q E s :=
  my_eqD (P := r = []) N (.list h1 d1) (.list (vs := []) h2 .nil) (rows_ok _) rfl (rows_iff r []) hu h
end
end Mine
namespace Mine
theorem pick_last (vs : List Value) : kms_pick vs.toArray.toList none (some (-1)) = vs.dropLast := by
  simp [kms_pick, kms_lo, kms_hi, List.dropLast_eq_take]
theorem datAll_init {news : Led} {f : Row → Dat} {x : Row} : ∀ {a : List Row} {vs : List Value}, DatAll news vs ((a ++ [x]).map f) → DatAll news vs.dropLast (a.map f)
  | [], _, .cons _ .nil => .nil
  | y :: a, _, .cons (vs := us) h r => by
    have ih := datAll_init (a := a) r
    cases us with
    | nil =>
      cases a with
      | nil => cases r
      | cons _ _ => cases r
    | cons u us => exact .cons h ih
theorem near_init {d : Told} {beh : Bool} {M T : Int} {news : Led} {vs : List Value} (h : DatAll news vs (((sizesOf M T).map (rowAt d beh)).map rowD)) : DatAll news vs.dropLast ((nearOf d beh M).map rowD) := by
  unfold sizesOf at h
  rw [List.map_append] at h
  exact datAll_init h
section
variable {prog : Program} {w : World} {A : Around} {E : Value → Shared → Prop} {s : Shared} {h₀ : Heap} {L l : Addr} {m : Str → Option Value} {news : Led} {value slice : PySem.Expr} {vs : List Value} {k : Nat} {t : Tok} {Q : Value → Shared → Prop}
theorem slice_last (F : Fr h₀ L s.heap m) (N : News h₀ L s.heap news) (hl : (l, ({ cls := .type "list", data := .seq vs.toArray k } : Obj)) ∈ news) (hz : vs.length ≤ 1000)
    (h : ∀ D h', Fr h₀ L h' m → News h₀ L h' ((D, W.listOf vs.dropLast.toArray 0) :: news) → (∀ p ∈ news, p.1 < D) → Q (.ref D) { s with heap := h' })
    (hs : subscripted slice false (.ref l) (.ref s.heap.objs.size) = operate [.ref s.heap.objs.size, .ref l] (getItem (.ref l) (.ref s.heap.objs.size))) (ht : ∀ r, letTemporaryGo value (.ref l) r = pure ()) :
    wpAny (model prog w) A (subscriptTail value slice (.ref l) (.ref s.heap.objs.size)) Q E { s with heap := s.heap.push { cls := .type "slice", data := .fields #[.none, .int (-1) t, .none] } } :=
  kms_slice_lit F N (News.isList N hl) .none (.int _ _) (pick_last vs) h hs ht (by rw [List.size_toArray, sizeLine_eq]; omega)
theorem isn_same {M : Model} {b c : Bool} (e : b = c) (h : Q (.bool false) s) : wpAny M A (compareOp .IsNot (.bool b) (.bool c)) Q E s := by
  subst e; exact wpAny_isNot_self rfl h
end
theorem near_len {d : Told} {beh : Bool} {M : Int} (h : 0 ≤ M ∧ M ≤ 43) : (nearOf d beh M).length ≤ 45 := by
  unfold nearOf; rw [List.length_map, rangeKs_length]; omega
theorem filt_snoc {rows : List Row} {i : Nat} {r : Row} {p : Row → Bool} (h : rows[i]? = some r) : ((rows.take (i + 1)).filter p) = ((rows.take i).filter p) ++ (if p r = true then [r] else []) := by
  rw [List.take_add_one, h, List.filter_append]
  congr 1
  simp only [Option.toList_some, List.filter_cons, List.filter_nil]
theorem ints_snoc {ys : List Value} {rows : List Row} {i : Nat} {e1 e2 e3 : Int} {p : Row → Bool} {t : Tok} (h : IntsAre ys (((rows.take i).filter p).map (·.1))) (hr : rows[i]? = some (e1, e2, e3)) (hp : p (e1, e2, e3) = true) : IntsAre (ys ++ [.int e1 t]) (((rows.take (i + 1)).filter p).map (·.1)) := by
  rw [filt_snoc hr, if_pos hp, List.map_append]
  exact h.append (.cons _ _ .nil)
theorem ints_skip {ys : List Value} {rows : List Row} {i : Nat} {r : Row} {p : Row → Bool} (h : IntsAre ys (((rows.take i).filter p).map (·.1))) (hr : rows[i]? = some r) (hp : p r = false) : IntsAre ys (((rows.take (i + 1)).filter p).map (·.1)) := by
  rw [filt_snoc hr, hp, if_neg Bool.false_ne_true, List.append_nil]
  exact h
end Mine
namespace Mine
theorem rowsF_snoc {tl : Led} {ys : List Value} {rows : List Row} {p : Row → Bool} {i : Nat} {e1 e2 e3 : Int} {a1 a2 a3 : Tok} {D : Addr} (h : DatAll tl ys (((rows.take i).filter p).map rowD)) (hr : rows[i]? = some (e1, e2, e3)) (hp : p (e1, e2, e3) = true) :
    DatAll ((D, tupOf [.int e1 a1, .int e2 a2, .int e3 a3]) :: tl) (ys ++ [.ref D]) (((rows.take (i + 1)).filter p).map rowD) := by
  rw [filt_snoc hr, if_pos hp, List.map_append]
  exact (DatAll.mono (fun _ h => .tail _ h) h).append (.one (.tuple (.head _) (.cons (.int _ _) (.cons (.int _ _) (.cons (.int _ _) .nil)))))
theorem rowsF_skip {tl : Led} {ys : List Value} {rows : List Row} {p : Row → Bool} {i : Nat} {r : Row} (h : DatAll tl ys (((rows.take i).filter p).map rowD)) (hr : rows[i]? = some r) (hp : p r = false) :
    DatAll tl ys (((rows.take (i + 1)).filter p).map rowD) := by
  rw [filt_snoc hr, hp, if_neg Bool.false_ne_true, List.append_nil]
  exact h
theorem rowsG_snoc {tl : Led} {ys : List Value} {rows : List Row} {p : Row → Bool} {i : Nat} {e1 e2 e3 : Int} {a1 a2 a3 : Tok} {D : Addr} (h : DatAll tl ys ((((rows.take i).filter p).map swapRow).map rowD)) (hr : rows[i]? = some (e1, e2, e3)) (hp : p (e1, e2, e3) = true) :
    DatAll ((D, tupOf [.int e1 a1, .int e3 a3, .int e2 a2]) :: tl) (ys ++ [.ref D]) ((((rows.take (i + 1)).filter p).map swapRow).map rowD) := by
  rw [filt_snoc hr, if_pos hp, List.map_append, List.map_append]
  exact (DatAll.mono (fun _ h => .tail _ h) h).append (.one (.tuple (.head _) (.cons (.int _ _) (.cons (.int _ _) (.cons (.int _ _) .nil)))))
theorem rowsG_skip {tl : Led} {ys : List Value} {rows : List Row} {p : Row → Bool} {i : Nat} {r : Row} (h : DatAll tl ys ((((rows.take i).filter p).map swapRow).map rowD)) (hr : rows[i]? = some r) (hp : p r = false) :
    DatAll tl ys ((((rows.take (i + 1)).filter p).map swapRow).map rowD) := by
  rw [filt_snoc hr, hp, if_neg Bool.false_ne_true, List.append_nil]
  exact h
theorem CEnd.same {h₀ : Heap} {L : Addr} {m : Str → Option Value} {s₁ : Shared} {I C D : Nat} {oI oC oD : Obj} {news tl : Led} {R : Value → Led → Prop} {h' : Heap} {tk : Nat} {y : Value}
    (F : Fr h₀ L h' m) (N : News h₀ L h' ((I, oI) :: (C, oC) :: (D, oD) :: (tl ++ news))) (off : OwnOff tl [I, C, D]) (own : OwnOff tl (news.map (·.1))) (r : R y tl) :
    CEnd h₀ L m s₁ I oI C oC D oD news R y { s₁ with heap := h', toks := tk } :=
  CEnd.mk tl F N (fun _ hp => hp) (fun p hp => ⟨off p hp _ (.head _), off p hp _ (.tail _ (.head _)), off p hp _ (.tail _ (.tail _ (.head _)))⟩) own r
end Mine
end
section
open PySem PySem.W PyProof.Rows
set_option maxHeartbeats 4000000
namespace Mine
/-! what is told is what is written -/
theorem spellers_nil (ch : Nat) : spellers [] ch = [] := rfl
theorem spellers_cons (h : Int) (r : List Int) (ch : Nat) : spellers (h :: r) ch = (if spl h ch = true then [0] else []) ++ (spellers r ch).map (· + 1) := by
  unfold spellers spellersN
  rw [List.length_cons, List.range_succ_eq_map, List.map_cons, List.filter_cons, List.map_map, List.filter_map, List.filter_map, List.map_map]
  have e : ((fun (k : Int) => spl ((h :: r).getD k.toNat 0) ch) ∘ ((fun (k : Nat) => (k : Int)) ∘ Nat.succ)) = ((fun (k : Int) => spl (r.getD k.toNat 0) ch) ∘ fun (k : Nat) => (k : Int)) := by
    funext k
    simp only [Function.comp]
    rw [Int.toNat_natCast, Int.toNat_natCast]
    rfl
  have e2 : ((fun (k : Nat) => (k : Int)) ∘ Nat.succ) = ((fun (x : Int) => x + 1) ∘ fun (k : Nat) => (k : Int)) := by
    funext k
    simp only [Function.comp]
    omega
  rw [e, e2]
  have e3 : spl ((h :: r).getD ((0 : Nat) : Int).toNat 0) ch = spl h ch := rfl
  rw [e3]
  cases spl h ch <;> rfl
/-- the place of the first hand that spells the sign -/
theorem first_cases (ch : Nat) (R : List Int) (b : Int) : ∀ rw : List Int,
    (spellers rw ch = [] ∧ wrL rw [ch] = [ch]) ∨ (∃ (k : Nat) (t : List Int), k < rw.length ∧ spellers rw ch = (k : Int) :: t ∧ (wrL rw [ch]).foldl rStep (R, b) = (R ++ piece (rw.length - 1 - k) b (nameOf ch), 0))
  | [] => .inl ⟨rfl, rfl⟩
  | h :: r => by
    cases e : spl h ch with
    | true =>
      refine .inr ⟨0, (spellers r ch).map (· + 1), by simp, ?_, ?_⟩
      · rw [spellers_cons, if_pos e]; rfl
      · rw [rStep_spelled e]; rfl
    | false =>
      have e' : ¬ spl h ch = true := by rw [e]; exact Bool.false_ne_true
      rcases first_cases ch R b r with ⟨h1, h2⟩ | ⟨k, t, h1, h2, h3⟩
      · refine .inl ⟨?_, ?_⟩
        · rw [spellers_cons, if_neg e', h1]; rfl
        · rw [wrL_skip e, h2]
      · refine .inr ⟨k + 1, t.map (· + 1), by rw [List.length_cons]; omega, ?_, ?_⟩
        · rw [spellers_cons, if_neg e', h2, List.map_cons, List.nil_append]
          rfl
        · rw [wrL_skip e, h3, List.length_cons]
          congr 3
          omega
theorem told_piece {rw : List Int} {d : Told} {ch k : Nat} {t : List Int} (hk : k < rw.length) (h : spellers rw ch = (k : Int) :: t) : toldRuns rw d ch = d.runs ++ piece (rw.length - 1 - k) d.bare (nameOf ch) := by
  unfold toldRuns piece
  rw [h]
  show (if (k : Int) = (rw.length : Int) - 1 then _ else _) = _
  by_cases e : (k : Int) = (rw.length : Int) - 1
  · rw [if_pos e, if_pos (by omega)]
  · rw [if_neg e, if_neg (by omega)]
    have e2 : ((rw.length : Int) - ((k : Int) :: t).getD (Int.toNat 0) 0 - 2).toNat = rw.length - 1 - k - 1 := by
      show ((rw.length : Int) - (k : Int) - 2).toNat = _
      omega
    rw [e2]
theorem step_runs {rw : List Int} {place : Int} {d : Told} {ch : Nat} : (wrL rw [ch]).foldl rStep (d.runs, d.bare) = ((toldStep rw place d ch).runs, (toldStep rw place d ch).bare) := by
  unfold toldStep
  by_cases h59 : ch = 59
  · rw [if_pos h59]
    subst h59
    rw [wrL_semi]
    rfl
  · rw [if_neg h59]
    rcases first_cases ch d.runs d.bare rw with ⟨h1, h2⟩ | ⟨k, t, h1, h2, h3⟩
    · rw [if_pos (by rw [h1]; rfl), h2]
      show rStep (d.runs, d.bare) ch = _
      unfold rStep
      rw [if_neg h59]
    · rw [if_neg (by rw [h2]; simp), h3, told_piece h1 h2]
theorem told_runs (rw : List Int) (place : Int) (cs : List Nat) : (wrL rw cs).foldl rStep ([], 0) = ((told rw place cs).runs, (told rw place cs).bare) := by
  have key : ∀ (cs : List Nat) (d : Told), (wrL rw cs).foldl rStep (d.runs, d.bare) = ((cs.foldl (toldStep rw place) d).runs, (cs.foldl (toldStep rw place) d).bare) := by
    intro cs
    induction cs with
    | nil => intro d; rw [wrL_nil]; rfl
    | cons c r ih =>
      intro d
      rw [wrL_cons, List.foldl_append, step_runs (place := place), ih]
      rfl
  exact key cs ⟨[], 0, []⟩
/-! the exchange of the neighbours -/
def gSum (s : Int) (R : List Int) : Int := (R.map fun r => Int.fdiv r s + 1).sum
theorem gSum_append (s : Int) (a b : List Int) : gSum s (a ++ b) = gSum s a + gSum s b := by
  unfold gSum; rw [List.map_append, List.sum_append]
theorem fdiv_succ {x s : Int} (hx : 0 ≤ x) (hs : 1 ≤ s) : Int.fdiv (x + 1) s = Int.fdiv x s + if Int.fmod (x + 1) s = 0 then 1 else 0 := by
  rw [Int.fdiv_eq_ediv_of_nonneg _ (by omega), Int.fdiv_eq_ediv_of_nonneg _ (by omega), Int.fmod_eq_emod_of_nonneg _ (by omega)]
  have h1 := Int.emod_nonneg x (b := s) (by omega)
  have h2 := Int.emod_lt_of_pos x (b := s) (by omega)
  have h3 := Int.mul_ediv_add_emod x s
  by_cases e : x % s + 1 = s
  · have u := (Int.ediv_emod_unique (a := x + 1) (b := s) (r := 0) (q := x / s + 1) (by omega)).mpr ⟨by rw [Int.mul_add, Int.mul_one]; omega, Int.le_refl _, by omega⟩
    rw [u.1, u.2, if_pos rfl]
  · have u := (Int.ediv_emod_unique (a := x + 1) (b := s) (r := x % s + 1) (q := x / s) (by omega)).mpr ⟨by omega, by omega, by omega⟩
    rw [u.1, u.2, if_neg (by omega)]
    omega
theorem name_cases (ch : Nat) : nameOf ch = 2 ∨ nameOf ch = 3 ∨ nameOf ch = 4 := by
  unfold nameOf
  (repeat' split) <;> simp
theorem far_last {s b name : Int} (hs : 1 ≤ s) (hb : 0 ≤ b) (hn : name = 2 ∨ name = 3 ∨ name = 4) : gSum s (piece 1 b name) = gSum s (piece 0 b name) + farOf false s b name := by
  have e1 : gSum s (piece 1 b name) = (Int.fdiv (b + 4) s + 1) + (Int.fdiv name s + 1) := by
    simp [gSum, piece]
  have e0 : gSum s (piece 0 b name) = Int.fdiv (b + 1 + name) s + 1 := by
    simp [gSum, piece]
  rw [e1, e0]
  unfold farOf
  rw [if_neg Bool.false_ne_true]
  dsimp only
  rcases hn with rfl | rfl | rfl
  · have := fdiv_succ (x := b + 3) (s := s) (by omega) hs
    rw [show b + 3 + 1 = b + 4 by omega] at this
    rw [this, show b + 1 + 2 = b + 3 by omega, if_neg (c := (2 : Int) = 4 ∧ _) (fun h => absurd h.1 (by decide))]
    by_cases e : Int.fmod (b + 4) s = 0
    · rw [if_pos e, if_pos ⟨rfl, e⟩]; omega
    · rw [if_neg e, if_neg fun h => e h.2]; omega
  · rw [show b + 1 + 3 = b + 4 by omega, if_neg (by omega), if_neg (by omega)]
    omega
  · have := fdiv_succ (x := b + 4) (s := s) (by omega) hs
    rw [show b + 4 + 1 = b + 5 by omega] at this
    rw [show b + 1 + 4 = b + 5 by omega, this, if_neg (c := (4 : Int) = 2 ∧ _) (fun h => absurd h.1 (by decide))]
    by_cases e : Int.fmod (b + 5) s = 0
    · rw [if_pos e, if_pos ⟨rfl, e⟩]; omega
    · rw [if_neg e, if_neg fun h => e h.2]; omega
theorem far_behind {s b name : Int} {k : Nat} (hk : 1 ≤ k) : gSum s (piece (k + 1) b name) = gSum s (piece k b name) + farOf true s b name := by
  unfold piece farOf
  rw [if_neg (by omega), if_neg (by omega), if_pos rfl]
  have e : List.replicate (k + 1 - 1) (3 : Int) = [3] ++ List.replicate (k - 1) 3 := by
    rw [show k + 1 - 1 = (k - 1) + 1 by omega]; rfl
  rw [e]
  simp only [gSum_append]
  have : gSum s [3] = 1 + Int.fdiv 3 s := by simp [gSum]; omega
  rw [this]
  omega
end Mine
end
section
open PySem PySem.W PyProof.Rows
set_option maxHeartbeats 4000000
namespace Mine
/-- the two tellings, side by side -/
structure Side (s : Int) (beh : Bool) (d1 d2 : Told) : Prop where
  bare : d2.bare = d1.bare
  b0 : 0 ≤ d1.bare
  lev : gSum s d2.runs = gSum s d1.runs + stepsOf d1.moved beh s
theorem stepsOf_snoc (mv : List Row) (r : Row) (beh : Bool) (s : Int) : stepsOf (mv ++ [r]) beh s = stepsOf mv beh s + r.1 * farOf beh s r.2.1 r.2.2 := by
  unfold stepsOf
  rw [List.map_append, List.sum_append]
  simp
/-- where a spelled sign stands in both rows, and what the exchange makes of it -/
def Moves (rw sw : List Int) (p : Int) (beh : Bool) (ch : Nat) : Prop :=
  (spellers rw ch = [] ∧ spellers sw ch = []) ∨
  (∃ (k1 k2 : Nat) (t1 t2 : List Int), k1 < rw.length ∧ k2 < sw.length ∧ spellers rw ch = (k1 : Int) :: t1 ∧ spellers sw ch = (k2 : Int) :: t2 ∧
    ((k1 = k2 ∧ ∀ d, toldMoved rw p d ch = d.moved) ∨
     (k2 = k1 + 1 ∧ (∀ d, toldMoved rw p d ch = d.moved ++ [(-1, d.bare, nameOf ch)]) ∧ ((beh = true ∧ k2 + 1 < rw.length) ∨ (beh = false ∧ k2 + 1 = rw.length))) ∨
     (k1 = k2 + 1 ∧ (∀ d, toldMoved rw p d ch = d.moved ++ [(1, d.bare, nameOf ch)]) ∧ ((beh = true ∧ k1 + 1 < rw.length) ∨ (beh = false ∧ k1 + 1 = rw.length)))))
theorem side_step {rw sw : List Int} {p s : Int} {beh : Bool} {d1 d2 : Told} {ch : Nat} (hs : 1 ≤ s) (hl : sw.length = rw.length) (hm : Moves rw sw p beh ch) (h : Side s beh d1 d2) : Side s beh (toldStep rw p d1 ch) (toldStep sw p d2 ch) := by
  obtain ⟨h1, h2, h3⟩ := h
  unfold toldStep
  by_cases h59 : ch = 59
  · rw [if_pos h59, if_pos h59]
    refine ⟨rfl, Int.le_refl _, ?_⟩
    dsimp only
    rw [gSum_append, gSum_append, h3, h1]
    omega
  · rw [if_neg h59, if_neg h59]
    rcases hm with ⟨e1, e2⟩ | ⟨k1, k2, t1, t2, l1, l2, e1, e2, hk⟩
    · rw [if_pos (by rw [e1]; rfl), if_pos (by rw [e2]; rfl)]
      refine ⟨?_, ?_, h3⟩
      · dsimp only; rw [h1]
      · dsimp only; omega
    · rw [if_neg (by rw [e1]; simp), if_neg (by rw [e2]; simp), told_piece l1 e1, told_piece l2 e2]
      refine ⟨rfl, Int.le_refl _, ?_⟩
      dsimp only
      rw [gSum_append, gSum_append, h3, h1, hl]
      rcases hk with ⟨rfl, hmv⟩ | ⟨rfl, hmv, hb⟩ | ⟨rfl, hmv, hb⟩
      · rw [hmv]; omega
      · rw [hmv, stepsOf_snoc]
        dsimp only
        rcases hb with ⟨rfl, hb⟩ | ⟨rfl, hb⟩
        · have := far_behind (s := s) (b := d1.bare) (name := nameOf ch) (k := rw.length - 1 - (k1 + 1)) (by omega)
          rw [show rw.length - 1 - (k1 + 1) + 1 = rw.length - 1 - k1 by omega] at this
          omega
        · have := far_last (b := d1.bare) hs h2 (name_cases ch)
          rw [show rw.length - 1 - (k1 + 1) = 0 by omega, show rw.length - 1 - k1 = 1 by omega]
          omega
      · rw [hmv, stepsOf_snoc]
        dsimp only
        rcases hb with ⟨rfl, hb⟩ | ⟨rfl, hb⟩
        · have := far_behind (s := s) (b := d1.bare) (name := nameOf ch) (k := rw.length - 1 - (k2 + 1)) (by omega)
          rw [show rw.length - 1 - (k2 + 1) + 1 = rw.length - 1 - k2 by omega] at this
          omega
        · have := far_last (b := d1.bare) hs h2 (name_cases ch)
          rw [show rw.length - 1 - (k2 + 1) = 0 by omega, show rw.length - 1 - k2 = 1 by omega]
          omega
theorem side_told {rw sw : List Int} {p s : Int} {beh : Bool} (hs : 1 ≤ s) (hl : sw.length = rw.length) (hm : ∀ ch, Moves rw sw p beh ch) (cs : List Nat) : Side s beh (told rw p cs) (told sw p cs) := by
  have key : ∀ (cs : List Nat) (d1 d2 : Told), Side s beh d1 d2 → Side s beh (cs.foldl (toldStep rw p) d1) (cs.foldl (toldStep sw p) d2) := by
    intro cs
    induction cs with
    | nil => intro d1 d2 h; exact h
    | cons c r ih => intro d1 d2 h; exact ih _ _ (side_step hs hl (hm c) h)
  exact key cs _ _ ⟨rfl, Int.le_refl _, by simp [gSum, stepsOf]⟩
theorem rows_move {a b c : Int} {rw : List Int} {p : Int} (h : rowP a b c rw p) (ch : Nat) : Moves rw (swapAt rw p) p (decide (p + 2 < (rw.length : Int))) ch := by
  rcases h with ⟨rfl, rfl⟩ | ⟨rfl, rfl⟩ | ⟨rfl, rfl⟩
  · show Moves [a, b] [b, a] 0 false ch
    cases ha : spl a ch <;> cases hb : spl b ch
    · exact .inl ⟨by simp [spellers_cons, spellers_nil, ha, hb], by simp [spellers_cons, spellers_nil, ha, hb]⟩
    · exact .inr ⟨1, 0, [], [], by simp, by simp, by simp [spellers_cons, spellers_nil, ha, hb], by simp [spellers_cons, spellers_nil, ha, hb], .inr (.inr ⟨rfl, fun d => by simp [toldMoved, spellers_cons, spellers_nil, ha, hb], .inr ⟨rfl, rfl⟩⟩)⟩
    · exact .inr ⟨0, 1, [], [], by simp, by simp, by simp [spellers_cons, spellers_nil, ha, hb], by simp [spellers_cons, spellers_nil, ha, hb], .inr (.inl ⟨rfl, fun d => by simp [toldMoved, spellers_cons, spellers_nil, ha, hb], .inr ⟨rfl, rfl⟩⟩)⟩
    · exact .inr ⟨0, 0, [1], [1], by simp, by simp, by simp [spellers_cons, spellers_nil, ha, hb], by simp [spellers_cons, spellers_nil, ha, hb], .inl ⟨rfl, fun d => by simp [toldMoved, spellers_cons, spellers_nil, ha, hb]⟩⟩
  · show Moves [a, b, c] [b, a, c] 0 true ch
    cases ha : spl a ch <;> cases hb : spl b ch <;> cases hc : spl c ch
    · exact .inl ⟨by simp [spellers_cons, spellers_nil, ha, hb, hc], by simp [spellers_cons, spellers_nil, ha, hb, hc]⟩
    · exact .inr ⟨2, 2, [], [], by simp, by simp, by simp [spellers_cons, spellers_nil, ha, hb, hc], by simp [spellers_cons, spellers_nil, ha, hb, hc], .inl ⟨rfl, fun d => by simp [toldMoved, spellers_cons, spellers_nil, ha, hb, hc]⟩⟩
    · exact .inr ⟨1, 0, [], [], by simp, by simp, by simp [spellers_cons, spellers_nil, ha, hb, hc], by simp [spellers_cons, spellers_nil, ha, hb, hc], .inr (.inr ⟨rfl, fun d => by simp [toldMoved, spellers_cons, spellers_nil, ha, hb, hc], .inl ⟨rfl, by simp⟩⟩)⟩
    · exact .inr ⟨1, 0, [2], [2], by simp, by simp, by simp [spellers_cons, spellers_nil, ha, hb, hc], by simp [spellers_cons, spellers_nil, ha, hb, hc], .inr (.inr ⟨rfl, fun d => by simp [toldMoved, spellers_cons, spellers_nil, ha, hb, hc], .inl ⟨rfl, by simp⟩⟩)⟩
    · exact .inr ⟨0, 1, [], [], by simp, by simp, by simp [spellers_cons, spellers_nil, ha, hb, hc], by simp [spellers_cons, spellers_nil, ha, hb, hc], .inr (.inl ⟨rfl, fun d => by simp [toldMoved, spellers_cons, spellers_nil, ha, hb, hc], .inl ⟨rfl, by simp⟩⟩)⟩
    · exact .inr ⟨0, 1, [2], [2], by simp, by simp, by simp [spellers_cons, spellers_nil, ha, hb, hc], by simp [spellers_cons, spellers_nil, ha, hb, hc], .inr (.inl ⟨rfl, fun d => by simp [toldMoved, spellers_cons, spellers_nil, ha, hb, hc], .inl ⟨rfl, by simp⟩⟩)⟩
    · exact .inr ⟨0, 0, [1], [1], by simp, by simp, by simp [spellers_cons, spellers_nil, ha, hb, hc], by simp [spellers_cons, spellers_nil, ha, hb, hc], .inl ⟨rfl, fun d => by simp [toldMoved, spellers_cons, spellers_nil, ha, hb, hc]⟩⟩
    · exact .inr ⟨0, 0, [1, 2], [1, 2], by simp, by simp, by simp [spellers_cons, spellers_nil, ha, hb, hc], by simp [spellers_cons, spellers_nil, ha, hb, hc], .inl ⟨rfl, fun d => by simp [toldMoved, spellers_cons, spellers_nil, ha, hb, hc]⟩⟩
  · show Moves [a, b, c] [a, c, b] 1 false ch
    cases ha : spl a ch <;> cases hb : spl b ch <;> cases hc : spl c ch
    · exact .inl ⟨by simp [spellers_cons, spellers_nil, ha, hb, hc], by simp [spellers_cons, spellers_nil, ha, hb, hc]⟩
    · exact .inr ⟨2, 1, [], [], by simp, by simp, by simp [spellers_cons, spellers_nil, ha, hb, hc], by simp [spellers_cons, spellers_nil, ha, hb, hc], .inr (.inr ⟨rfl, fun d => by simp [toldMoved, spellers_cons, spellers_nil, ha, hb, hc], .inr ⟨rfl, rfl⟩⟩)⟩
    · exact .inr ⟨1, 2, [], [], by simp, by simp, by simp [spellers_cons, spellers_nil, ha, hb, hc], by simp [spellers_cons, spellers_nil, ha, hb, hc], .inr (.inl ⟨rfl, fun d => by simp [toldMoved, spellers_cons, spellers_nil, ha, hb, hc], .inr ⟨rfl, rfl⟩⟩)⟩
    · exact .inr ⟨1, 1, [2], [2], by simp, by simp, by simp [spellers_cons, spellers_nil, ha, hb, hc], by simp [spellers_cons, spellers_nil, ha, hb, hc], .inl ⟨rfl, fun d => by simp [toldMoved, spellers_cons, spellers_nil, ha, hb, hc]⟩⟩
    · exact .inr ⟨0, 0, [], [], by simp, by simp, by simp [spellers_cons, spellers_nil, ha, hb, hc], by simp [spellers_cons, spellers_nil, ha, hb, hc], .inl ⟨rfl, fun d => by simp [toldMoved, spellers_cons, spellers_nil, ha, hb, hc]⟩⟩
    · exact .inr ⟨0, 0, [2], [1], by simp, by simp, by simp [spellers_cons, spellers_nil, ha, hb, hc], by simp [spellers_cons, spellers_nil, ha, hb, hc], .inl ⟨rfl, fun d => by simp [toldMoved, spellers_cons, spellers_nil, ha, hb, hc]⟩⟩
    · exact .inr ⟨0, 0, [1], [2], by simp, by simp, by simp [spellers_cons, spellers_nil, ha, hb, hc], by simp [spellers_cons, spellers_nil, ha, hb, hc], .inl ⟨rfl, fun d => by simp [toldMoved, spellers_cons, spellers_nil, ha, hb, hc]⟩⟩
    · exact .inr ⟨0, 0, [1, 2], [1, 2], by simp, by simp, by simp [spellers_cons, spellers_nil, ha, hb, hc], by simp [spellers_cons, spellers_nil, ha, hb, hc], .inl ⟨rfl, fun d => by simp [toldMoved, spellers_cons, spellers_nil, ha, hb, hc]⟩⟩
end Mine
end
section
open PySem PySem.W PyProof.Rows
set_option maxHeartbeats 4000000
namespace Mine
/-! the counted runs -/
def wsum (f : Int → Int) : List Int → Int → Int
  | [], _ => 0
  | c :: r, i => f i * c + wsum f r (i + 1)
theorem wsum_append (f : Int → Int) : ∀ (a b : List Int) (i : Int), wsum f (a ++ b) i = wsum f a i + wsum f b (i + a.length)
  | [], b, i => by simp [wsum]
  | c :: r, b, i => by
    show f i * c + wsum f (r ++ b) (i + 1) = f i * c + wsum f r (i + 1) + wsum f b _
    rw [wsum_append f r b, List.length_cons, show i + 1 + (r.length : Int) = i + ((r.length + 1 : Nat) : Int) by omega]
    omega
theorem wsum_zero (f : Int → Int) : ∀ (k : Nat) (i : Int), wsum f (List.replicate k 0) i = 0
  | 0, _ => rfl
  | k + 1, i => by
    show f i * 0 + wsum f (List.replicate k 0) (i + 1) = 0
    rw [wsum_zero f k, Int.mul_zero]; rfl
theorem wsum_bump (f : Int → Int) : ∀ (l : List Int) (j : Nat) (i : Int), j < l.length → wsum f (l.set j (l.getD j 0 + 1)) i = wsum f l i + f (i + j)
  | [], _, _, h => absurd h (Nat.not_lt_zero _)
  | c :: r, 0, i, _ => by
    show f i * (c + 1) + wsum f r (i + 1) = f i * c + wsum f r (i + 1) + f (i + 0)
    rw [Int.mul_add, Int.mul_one, Int.add_zero]; omega
  | c :: r, j + 1, i, h => by
    have ih := wsum_bump f r j (i + 1) (by rw [List.length_cons] at h; omega)
    show f i * c + wsum f (r.set j (r.getD j 0 + 1)) (i + 1) = f i * c + wsum f r (i + 1) + f (i + ((j + 1 : Nat) : Int))
    rw [ih, show i + 1 + (j : Int) = i + ((j + 1 : Nat) : Int) by omega]
    omega
theorem wsum_add (f : Int → Int) (cnt : List Int) (b : Nat) : wsum f (wsAdd cnt b) 0 = wsum f cnt 0 + f b := by
  unfold wsAdd
  by_cases h : cnt.length ≤ b
  · simp only [if_pos h]
    rw [wsum_bump f _ _ _ (by simp only [List.length_append, List.length_replicate]; omega), wsum_append, wsum_zero, Int.zero_add]
    omega
  · simp only [if_neg h]
    rw [wsum_bump f _ _ _ (by omega), Int.zero_add]
structure Rel (R : List Int) (b : Int) (st : Ws) : Prop where
  tail : (st.b : Int) = b
  nt : (st.nt : Int) = R.length
  n : (st.n : Int) = (R.map (· + 1)).sum + b
  pos : ∀ r ∈ R, 0 ≤ r ∧ r < st.cnt.length
  top : st.cnt = [] ∨ ∃ r ∈ R, r + 1 = st.cnt.length
  cnt : ∀ f : Int → Int, wsum f st.cnt 0 = (R.map f).sum
theorem rel_step {R : List Int} {b : Int} {st : Ws} (h : Rel R b st) (c : Nat) : Rel (rStep (R, b) c).1 (rStep (R, b) c).2 (wsStep st (tabOf c)) := by
  obtain ⟨h1, h2, h3, h4, h5, h6⟩ := h
  unfold rStep tabOf
  by_cases e : c = 59
  · rw [if_pos e, if_pos e]
    have ew : wsStep st 9 = { cnt := wsAdd st.cnt st.b, b := 0, n := st.n + 1, nt := st.nt + 1 } := if_neg (by decide)
    rw [ew]
    have hl := wsAdd_length st.cnt st.b
    refine ⟨rfl, ?_, ?_, ?_, .inr ?_, ?_⟩
    · dsimp only; rw [List.length_append, List.length_singleton]; omega
    · dsimp only; rw [List.map_append, List.sum_append]; simp only [List.map_cons, List.map_nil, List.sum_cons, List.sum_nil]; omega
    · intro r hr
      dsimp only
      rw [hl]
      rcases List.mem_append.mp hr with hr | hr
      · have := h4 r hr; split <;> omega
      · rw [List.mem_singleton.mp hr]; split <;> omega
    · dsimp only
      rw [hl]
      by_cases hb : st.cnt.length ≤ st.b
      · rw [if_pos hb]
        exact ⟨b, List.mem_append.mpr (.inr (List.mem_singleton.mpr rfl)), by omega⟩
      · rw [if_neg hb]
        rcases h5 with h5 | ⟨r, hr, h5⟩
        · rw [h5] at hb; simp at hb
        · exact ⟨r, List.mem_append.mpr (.inl hr), h5⟩
    · intro f
      dsimp only
      rw [wsum_add, h6, h1, List.map_append, List.sum_append]
      simp
  · rw [if_neg e, if_neg e]
    have ew : wsStep st 32 = { st with b := st.b + 1, n := st.n + 1 } := if_pos rfl
    rw [ew]
    exact ⟨by dsimp only; omega, h2, by dsimp only; omega, h4, h5, h6⟩
theorem rel_fold : ∀ (l : List Nat) (R : List Int) (b : Int) (st : Ws), Rel R b st → Rel (l.foldl rStep (R, b)).1 (l.foldl rStep (R, b)).2 ((l.map tabOf).foldl wsStep st)
  | [], _, _, _, h => h
  | c :: r, R, b, st, h => by
    rw [List.foldl_cons, List.map_cons, List.foldl_cons]
    exact rel_fold r (rStep (R, b) c).1 (rStep (R, b) c).2 _ (rel_step h c)
theorem rel_lead (rw : List Int) (place : Int) (Y : Str) : Rel (told rw place Y.cps.toList).runs (told rw place Y.cps.toList).bare (wsRun (leadCodes rw Y)) := by
  have h := rel_fold (wrL rw Y.cps.toList) [] 0 ⟨[], 0, 0, 0⟩ ⟨rfl, rfl, rfl, (fun _ h => nomatch h), .inl rfl, fun _ => rfl⟩
  rw [told_runs rw place] at h
  have e : wsRun (leadCodes rw Y) = ((wrL rw Y.cps.toList).map tabOf).foldl wsStep ⟨[], 0, 0, 0⟩ := by
    unfold wsRun leadCodes
    rw [writ_codes]
    have ht : ∀ l : List Nat, ((l.map tabOf) ++ [120, 32, 9]).takeWhile isWs = l.map tabOf := by
      intro l
      induction l with
      | nil => rfl
      | cons a r ih =>
        rw [List.map_cons, List.cons_append, List.takeWhile_cons]
        have : isWs (tabOf a) = true := by
          unfold tabOf
          split <;> rfl
        rw [if_pos this, ih]
    rw [ht]
  rw [e]
  exact h
/-! the level of a lead -/
theorem wsum_range (f : Int → Int) : ∀ (l : List Int) (i : Nat), wsum f l i = ((List.range l.length).map fun (j : Nat) => f ((i : Int) + j) * l.getD j 0).sum
  | [], _ => rfl
  | c :: r, i => by
    have ih := wsum_range f r (i + 1)
    rw [List.length_cons, List.range_succ_eq_map, List.map_cons, List.sum_cons, List.map_map]
    show f i * c + wsum f r ((i : Int) + 1) = f ((i : Int) + 0) * c + _
    rw [Int.add_zero, show (i : Int) + 1 = ((i + 1 : Nat) : Int) by omega, ih]
    congr 2
    apply List.map_congr_left
    intro j _
    simp only [Function.comp]
    rw [show ((i + 1 : Nat) : Int) + (j : Int) = (i : Int) + (Nat.succ j : Int) by omega]
    rfl
theorem sum_map_zero {α : Type} (g : α → Int) : ∀ l : List α, (∀ x ∈ l, g x = 0) → (l.map g).sum = 0
  | [], _ => rfl
  | a :: r, h => by
    rw [List.map_cons, List.sum_cons, h a (.head _), sum_map_zero g r fun x hx => h x (.tail _ hx)]; rfl
theorem fdiv_small {i s : Int} (h0 : 0 ≤ i) (h : i < s) : Int.fdiv i s = 0 := by
  rw [Int.fdiv_eq_ediv_of_nonneg _ (by omega)]
  exact Int.ediv_eq_zero_of_lt h0 h
theorem lvS_wsum (cnt : List Int) (s : Int) (hs : 1 ≤ s) : lvS cnt s ((cnt.length : Int) - s).toNat = wsum (fun i => Int.fdiv i s) cnt 0 := by
  have e := wsum_range (fun i => Int.fdiv i s) cnt 0
  rw [show wsum (fun i => Int.fdiv i s) cnt 0 = wsum (fun i => Int.fdiv i s) cnt ((0 : Nat) : Int) from rfl, e]
  unfold lvS
  by_cases h : s ≤ cnt.length
  · have e1 : cnt.length = s.toNat + ((cnt.length : Int) - s).toNat := by omega
    have e2 : List.range cnt.length = List.range s.toNat ++ (List.range ((cnt.length : Int) - s).toNat).map (s.toNat + ·) := by
      conv => lhs; rw [e1]
      exact List.range_add
    rw [e2, List.map_append, List.sum_append, sum_map_zero (l := List.range s.toNat), Int.zero_add, List.map_map]
    · congr 1
      apply List.map_congr_left
      intro j _
      unfold lvT
      simp only [Function.comp]
      rw [show ((0 : Nat) : Int) + ((s.toNat + j : Nat) : Int) = s + j by omega, show (s + (j : Int)).toNat = s.toNat + j by omega]
    · intro j hj
      have := List.mem_range.mp hj
      rw [fdiv_small (by omega) (by omega), Int.zero_mul]
  · rw [show ((cnt.length : Int) - s).toNat = 0 by omega]
    rw [sum_map_zero (l := List.range cnt.length)]
    · rfl
    · intro j hj
      have := List.mem_range.mp hj
      rw [fdiv_small (by omega) (by omega), Int.zero_mul]
theorem sum_add_len (f : Int → Int) : ∀ R : List Int, (R.map fun r => f r + 1).sum = (R.map f).sum + R.length
  | [] => rfl
  | a :: r => by
    have ih := sum_add_len f r
    simp only [List.map_cons, List.sum_cons, List.length_cons]
    rw [ih]; omega
theorem level_rel {R : List Int} {b : Int} {st : Ws} (h : Rel R b st) {s : Int} (hs : 1 ≤ s) : levelOf st s = b + s * gSum s R := by
  unfold levelOf gSum
  rw [lvS_wsum _ _ hs, h.cnt, h.tail, h.nt, sum_add_len]
end Mine
end
section
open PySem PySem.W PyProof.Rows
set_option maxHeartbeats 4000000
namespace Mine
/-! the longest run, and the counts back from the levels -/
theorem lrun_rel {R : List Int} {b : Int} {st : Ws} (h : Rel R b st) (hb : 0 ≤ b) : lrun st ∈ R ++ [b] ∧ ∀ a ∈ R ++ [b], a ≤ lrun st := by
  obtain ⟨h1, _, _, h4, h5, _⟩ := h
  unfold lrun
  rw [h1]
  constructor
  · by_cases hl : b ≤ (st.cnt.length : Int) - 1
    · rw [Int.max_eq_left hl]
      rcases h5 with h5 | ⟨r, hr, h5⟩
      · rw [h5] at hl; simp at hl; omega
      · rw [show (st.cnt.length : Int) - 1 = r by omega]
        exact List.mem_append.mpr (.inl hr)
    · rw [Int.max_eq_right (by omega)]
      exact List.mem_append.mpr (.inr (List.mem_singleton.mpr rfl))
  · intro a ha
    rcases List.mem_append.mp ha with ha | ha
    · have := h4 a ha
      have := Int.le_max_left ((st.cnt.length : Int) - 1) b
      omega
    · rw [List.mem_singleton.mp ha]
      exact Int.le_max_right _ _
theorem topOf_rel {R1 R2 : List Int} {b M : Int} {s1 s2 : Ws} (h1 : Rel R1 b s1) (h2 : Rel R2 b s2) (hb : 0 ≤ b) (m1 : M ∈ R1 ++ R2 ++ [b]) (m2 : ∀ a, a ∈ R1 ++ R2 ++ [b] → a ≤ M) : topOf s1 s2 = M + 1 := by
  obtain ⟨a1, a2⟩ := lrun_rel h1 hb
  obtain ⟨b1, b2⟩ := lrun_rel h2 hb
  unfold topOf
  have u1 : lrun s1 ≤ M := m2 _ (by
    rcases List.mem_append.mp a1 with h | h
    · exact List.mem_append.mpr (.inl (List.mem_append.mpr (.inl h)))
    · exact List.mem_append.mpr (.inr h))
  have u2 : lrun s2 ≤ M := m2 _ (by
    rcases List.mem_append.mp b1 with h | h
    · exact List.mem_append.mpr (.inl (List.mem_append.mpr (.inr h)))
    · exact List.mem_append.mpr (.inr h))
  have u3 : M ≤ lrun s1 ∨ M ≤ lrun s2 := by
    rcases List.mem_append.mp m1 with h | h
    · rcases List.mem_append.mp h with h | h
      · exact .inl (a2 _ (List.mem_append.mpr (.inl h)))
      · exact .inr (b2 _ (List.mem_append.mpr (.inl h)))
    · exact .inl (a2 _ (List.mem_append.mpr (.inr h)))
  omega
def ind (j x : Int) : Int := if x = j then 1 else 0
theorem wsum_none (f : Int → Int) : ∀ (l : List Int) (i : Int), (∀ k, i ≤ k → f k = 0) → wsum f l i = 0
  | [], _, _ => rfl
  | c :: r, i, h => by
    show f i * c + wsum f r (i + 1) = 0
    rw [h i (Int.le_refl _), wsum_none f r (i + 1) fun k hk => h k (by omega), Int.zero_mul]; rfl
theorem wsum_ind : ∀ (l : List Int) (i : Int) (j : Nat), wsum (ind (i + j)) l i = l.getD j 0
  | [], _, _ => by simp [wsum]
  | c :: r, i, 0 => by
    show ind (i + 0) i * c + wsum (ind (i + 0)) r (i + 1) = c
    rw [wsum_none _ r (i + 1) fun k hk => by unfold ind; rw [if_neg (by omega)]]
    unfold ind
    rw [if_pos (by omega)]; omega
  | c :: r, i, j + 1 => by
    have ih := wsum_ind r (i + 1) j
    show ind (i + ((j + 1 : Nat) : Int)) i * c + wsum (ind (i + ((j + 1 : Nat) : Int))) r (i + 1) = r.getD j 0
    rw [show i + ((j + 1 : Nat) : Int) = i + 1 + (j : Int) by omega, ih]
    unfold ind
    rw [if_neg (by omega)]; omega
theorem cnt_at {R : List Int} {b : Int} {st : Ws} (h : Rel R b st) (j : Nat) : st.cnt.getD j 0 = (R.map (ind j)).sum := by
  have := wsum_ind st.cnt 0 j
  rw [Int.zero_add] at this
  rw [← this, h.cnt]
theorem sum_congr_range {N : Nat} {f g : Nat → Int} (h : ∀ i, i < N → f i = g i) : ((List.range N).map f).sum = ((List.range N).map g).sum := by
  congr 1
  exact List.map_congr_left fun i hi => h i (List.mem_range.mp hi)
theorem sum_range_add (N : Nat) (f g : Nat → Int) : ((List.range N).map fun i => f i + g i).sum = ((List.range N).map f).sum + ((List.range N).map g).sum := by
  induction N with
  | zero => rfl
  | succ n ih =>
    simp only [List.range_succ, List.map_append, List.sum_append, List.map_cons, List.map_nil, List.sum_cons, List.sum_nil] at ih ⊢
    rw [ih]; omega
theorem sum_single {N j : Nat} {g : Nat → Int} (hj : j < N) (h : ∀ i, i < N → i ≠ j → g i = 0) : ((List.range N).map g).sum = g j := by
  induction N with
  | zero => omega
  | succ n ih =>
    simp only [List.range_succ, List.map_append, List.sum_append, List.map_cons, List.map_nil, List.sum_cons, List.sum_nil]
    by_cases e : j = n
    · subst e
      rw [sum_map_zero (l := List.range j) g fun x hx => h x (by have := List.mem_range.mp hx; omega) (by have := List.mem_range.mp hx; omega)]
      omega
    · rw [ih (by omega) fun i hi hij => h i (by omega) hij, h n (by omega) (by omega)]
      omega
/-- a sum over runs, by their counts -/
theorem sum_counts (f : Int → Int) (N : Nat) : ∀ R : List Int, (∀ r ∈ R, 0 ≤ r ∧ r < N) → (R.map f).sum = ((List.range N).map fun (i : Nat) => f i * (R.map (ind i)).sum).sum
  | [], _ => by
    rw [sum_map_zero (l := List.range N)]
    · rfl
    · intro x _; simp
  | r :: R, h => by
    have ih := sum_counts f N R fun x hx => h x (.tail _ hx)
    have hr := h r (.head _)
    have e : ((List.range N).map fun (i : Nat) => f i * ((r :: R).map (ind i)).sum).sum = ((List.range N).map fun (i : Nat) => f i * ind i r + f i * (R.map (ind i)).sum).sum := by
      refine sum_congr_range fun i _ => ?_
      rw [List.map_cons, List.sum_cons, Int.mul_add]
    rw [e, sum_range_add, ← ih, List.map_cons, List.sum_cons]
    congr 1
    rw [sum_single (j := r.toNat) (by omega)]
    · rw [show ((r.toNat : Nat) : Int) = r by omega]
      unfold ind
      rw [if_pos rfl, Int.mul_one]
    · intro i _ hij
      unfold ind
      rw [if_neg (by omega), Int.mul_zero]
theorem uniq {N : Nat} {e : Nat → Int} (h1 : ∀ s : Nat, 1 ≤ s → s ≤ N → ((List.range N).map fun (i : Nat) => Int.fdiv i s * e i).sum = 0) (h0 : ((List.range N).map e).sum = 0) : ∀ i, i < N → e i = 0 := by
  have down : ∀ m : Nat, ∀ i, N - m ≤ i → i < N → 1 ≤ i → e i = 0 := by
    intro m
    induction m with
    | zero => intro i a b _; omega
    | succ m ih =>
      intro i a b c
      by_cases hi : N - m ≤ i
      · exact ih i hi b c
      · have := h1 i c (by omega)
        rw [sum_single b] at this
        · have e1 : Int.fdiv (i : Int) i = 1 := by
            rw [Int.fdiv_eq_ediv_of_nonneg _ (by omega)]
            exact Int.ediv_self (by omega)
          rw [e1, Int.one_mul] at this
          exact this
        · intro k hk hki
          by_cases hlt : k < i
          · rw [fdiv_small (by omega) (by omega), Int.zero_mul]
          · rw [ih k (by omega) hk (by omega), Int.mul_zero]
  intro i hi
  by_cases h : 1 ≤ i
  · exact down N i (by omega) hi h
  · obtain rfl : i = 0 := by omega
    rw [sum_single hi] at h0
    · exact h0
    · intro k hk hk0
      exact down N k (by omega) hk (by omega)
end Mine
end
section
open PySem PySem.W PyProof.Rows
set_option maxHeartbeats 4000000
namespace Mine
theorem ind_pos {r : Int} : ∀ {R : List Int}, r ∈ R → 1 ≤ (R.map (ind r)).sum
  | a :: R, h => by
    have nn : ∀ l : List Int, 0 ≤ (l.map (ind r)).sum := by
      intro l
      induction l with
      | nil => exact Int.le_refl _
      | cons x l ih =>
        rw [List.map_cons, List.sum_cons]
        have : 0 ≤ ind r x := by unfold ind; split <;> omega
        omega
    rw [List.map_cons, List.sum_cons]
    rcases List.mem_cons.mp h with rfl | h
    · have := nn R
      have e : ind r r = 1 := if_pos rfl
      omega
    · have := ind_pos h
      have : 0 ≤ ind r a := by unfold ind; split <;> omega
      omega
theorem len_ones (R : List Int) : (R.map fun _ => (1 : Int)).sum = R.length := by
  induction R with
  | nil => rfl
  | cons a r ih => rw [List.map_cons, List.sum_cons, ih, List.length_cons]; omega
theorem len_le {R1 R2 : List Int} {b1 b2 : Int} {s1 s2 : Ws} {N : Nat} (h1 : Rel R1 b1 s1) (h2 : Rel R2 b2 s2) (hN : ∀ r ∈ R1, r < (N : Int)) (hc : ∀ i, i < N → (R1.map (ind i)).sum = (R2.map (ind i)).sum) : s1.cnt.length ≤ s2.cnt.length := by
  rcases h1.top with h | ⟨r, hr, h⟩
  · rw [h]; exact Nat.zero_le _
  · have p := h1.pos r hr
    have q := hc r.toNat (by have := hN r hr; omega)
    rw [show ((r.toNat : Nat) : Int) = r by omega] at q
    have c2 := cnt_at h2 r.toNat
    rw [show ((r.toNat : Nat) : Int) = r by omega, ← q] at c2
    have := ind_pos hr
    by_cases hl : r.toNat < s2.cnt.length
    · omega
    · rw [List.getD_eq_getElem?_getD, List.getElem?_eq_none (by omega)] at c2
      simp at c2
      omega
theorem cnt_eq {R1 R2 : List Int} {b1 b2 : Int} {s1 s2 : Ws} {N : Nat} (h1 : Rel R1 b1 s1) (h2 : Rel R2 b2 s2) (hN1 : ∀ r ∈ R1, r < (N : Int)) (hN2 : ∀ r ∈ R2, r < (N : Int)) (hp : 1 ≤ N) (hg : ∀ s : Nat, 1 ≤ s → s ≤ N → gSum s R1 = gSum s R2) : s1.cnt = s2.cnt := by
  have g1 : ∀ s : Int, gSum s R1 = (R1.map fun r => Int.fdiv r s).sum + R1.length := fun s => sum_add_len _ R1
  have g2 : ∀ s : Int, gSum s R2 = (R2.map fun r => Int.fdiv r s).sum + R2.length := fun s => sum_add_len _ R2
  have hl : (R1.length : Int) = R2.length := by
    have := hg N hp (Nat.le_refl _)
    rw [g1, g2, sum_map_zero (l := R1) _ fun r hr => fdiv_small (h1.pos r hr).1 (hN1 r hr), sum_map_zero (l := R2) _ fun r hr => fdiv_small (h2.pos r hr).1 (hN2 r hr)] at this
    omega
  have b1 : ∀ r ∈ R1, 0 ≤ r ∧ r < N := fun r hr => ⟨(h1.pos r hr).1, hN1 r hr⟩
  have b2 : ∀ r ∈ R2, 0 ≤ r ∧ r < N := fun r hr => ⟨(h2.pos r hr).1, hN2 r hr⟩
  have split : ∀ f : Int → Int, (R1.map f).sum = (R2.map f).sum → ((List.range N).map fun (i : Nat) => f i * ((R1.map (ind i)).sum - (R2.map (ind i)).sum)).sum = 0 := by
    intro f hf
    rw [sum_counts f N R1 b1, sum_counts f N R2 b2] at hf
    have e : ((List.range N).map fun (i : Nat) => f i * (R1.map (ind i)).sum).sum = ((List.range N).map fun (i : Nat) => f i * ((R1.map (ind i)).sum - (R2.map (ind i)).sum) + f i * (R2.map (ind i)).sum).sum := by
      refine sum_congr_range fun i _ => ?_
      rw [← Int.mul_add]
      congr 1
      omega
    rw [e, sum_range_add] at hf
    omega
  have hc : ∀ i, i < N → (R1.map (ind i)).sum = (R2.map (ind i)).sum := by
    intro i hi
    have := uniq (N := N) (e := fun i => (R1.map (ind i)).sum - (R2.map (ind i)).sum) (fun s q1 q2 => split (fun r => Int.fdiv r s) (by
      have := hg s q1 q2
      rw [g1, g2] at this
      omega)) (by
      have := split (fun _ => 1) (by rw [len_ones, len_ones]; exact hl)
      simpa using this) i hi
    omega
  have hlen : s1.cnt.length = s2.cnt.length := Nat.le_antisymm (len_le h1 h2 hN1 hc) (len_le h2 h1 hN2 fun i hi => (hc i hi).symm)
  have hlN : s1.cnt.length ≤ N := by
    rcases h1.top with h | ⟨r, hr, h⟩
    · rw [h]; exact Nat.zero_le _
    · have := hN1 r hr; omega
  refine List.ext_getElem hlen fun i q1 q2 => ?_
  have c1 := cnt_at h1 i
  have c2 := cnt_at h2 i
  rw [hc i (by omega), ← c2, List.getD_eq_getElem?_getD, List.getD_eq_getElem?_getD, List.getElem?_eq_getElem q1, List.getElem?_eq_getElem q2] at c1
  exact c1
theorem gSum_cnt {R1 R2 : List Int} {b1 b2 : Int} {s1 s2 : Ws} (h1 : Rel R1 b1 s1) (h2 : Rel R2 b2 s2) (h : s1.cnt = s2.cnt) (s : Int) : gSum s R1 = gSum s R2 := by
  have f : ∀ f : Int → Int, (R1.map f).sum = (R2.map f).sum := fun f => by rw [← h1.cnt, ← h2.cnt, h]
  exact f fun r => Int.fdiv r s + 1
/-! the near sizes -/
theorem near_filter {d : Told} {beh : Bool} {M : Int} {p : Row → Bool} (hM : 0 ≤ M) : (nearOf d beh M).filter p = [] ↔ ∀ s : Int, 1 ≤ s → s ≤ 1 + M → p (rowAt d beh s) = false := by
  unfold nearOf
  rw [List.filter_eq_nil_iff]
  constructor
  · intro h s h1 h2
    have := h (rowAt d beh s) (List.mem_map.mpr ⟨s, List.mem_map.mpr ⟨(s - 1).toNat, List.mem_range.mpr (by omega), by omega⟩, rfl⟩)
    simpa using this
  · intro h r hr
    obtain ⟨s, hs, rfl⟩ := List.mem_map.mp hr
    have := mem_rangeKs hs
    rw [h s (by omega) (by omega)]
    exact Bool.false_ne_true
theorem less_iff {a b : Ws} {M : Int} (hM : 0 ≤ M) (ht : topOf a b = M + 1) (na : levelOf a 1 = a.n) (nb : levelOf b 1 = b.n) : lessB a b = true ↔ ∀ s : Int, 1 ≤ s → s ≤ 1 + M → levelOf a s < levelOf b s := by
  unfold lessB
  rw [ht]
  by_cases h : (a.n : Int) ≥ b.n
  · rw [if_pos h]
    constructor
    · intro q; cases q
    · intro q
      have := q 1 (Int.le_refl _) (by omega)
      omega
  · rw [if_neg h, List.all_eq_true]
    constructor
    · intro q s h1 h2
      by_cases e : s = 1
      · subst e; omega
      · have := q (s - 2).toNat (List.mem_range.mpr (by omega))
        have := of_decide_eq_true this
        rw [show 2 + (((s - 2).toNat : Nat) : Int) = s by omega] at this
        exact this
    · intro q i hi
      have := List.mem_range.mp hi
      exact decide_eq_true (q _ (by omega) (by omega))
theorem level_one {R : List Int} {b : Int} {st : Ws} (h : Rel R b st) : levelOf st 1 = st.n := by
  rw [level_rel h (Int.le_refl _), h.n, Int.one_mul]
  unfold gSum
  have : (R.map fun r => Int.fdiv r 1 + 1) = R.map (· + 1) := List.map_congr_left fun r _ => by rw [Int.fdiv_one]
  rw [this]; omega
theorem wit_near {d : Told} {beh : Bool} {M : Int} {a b : Ws} {p : Int → Int → Bool} {q : Row → Bool} (g : Row → Row) (hM : 0 ≤ M) (ht : topOf a b = M + 1) (hg : ∀ s : Int, 1 ≤ s → (s, levelOf a s, levelOf b s) = g (rowAt d beh s)) (hq : ∀ r, p (g r).2.1 (g r).2.2 = q r) :
    witL p a b (topOf a b).toNat = ((nearOf d beh M).filter q).map g := by
  unfold witL nearOf rangeKs
  rw [ht, show (M + 1).toNat = (1 + M + 1 - 1).toNat by omega, List.map_map]
  have e : ((List.range (1 + M + 1 - 1).toNat).map fun (i : Nat) => ((1 + (i : Int)), levelOf a (1 + (i : Int)), levelOf b (1 + (i : Int)))) = ((List.range (1 + M + 1 - 1).toNat).map (rowAt d beh ∘ fun (i : Nat) => 1 + (i : Int))).map g := by
    rw [List.map_map]
    refine List.map_congr_left fun i _ => ?_
    exact hg (1 + (i : Int)) (by omega)
  rw [e, List.filter_map]
  congr 1
  congr 1
  funext r
  exact hq r
end Mine
end
section
open PySem PySem.W PyProof.Rows
set_option maxHeartbeats 4000000
namespace Mine
theorem two_signs (h : Int) : spl h 60 = true ∨ spl h 34 = true := by
  rw [spl_txt, spl_txt]
  unfold psOf
  (repeat' split) <;> decide
theorem piece_big {k : Nat} {b name : Int} (hb : 0 ≤ b) (hn : 2 ≤ name) : ∃ r ∈ piece k b name, 1 ≤ r := by
  unfold piece
  split
  · exact ⟨_, List.mem_singleton.mpr rfl, by omega⟩
  · exact ⟨name, List.mem_append.mpr (.inr (List.mem_singleton.mpr rfl)), by omega⟩
theorem runs_big {rw : List Int} {place : Int} {ch : Nat} (h59 : ch ≠ 59) (hs : spellers rw ch ≠ []) : ∀ (cs : List Nat) (d : Told), 0 ≤ d.bare → ((∃ r ∈ d.runs, 1 ≤ r) ∨ ch ∈ cs) → ∃ r ∈ (cs.foldl (toldStep rw place) d).runs, 1 ≤ r
  | [], d, _, h => by
    rcases h with h | h
    · exact h
    · cases h
  | c :: r, d, hb, h => by
    rw [List.foldl_cons]
    have mono : ∀ x ∈ d.runs, x ∈ (toldStep rw place d c).runs := by
      intro x hx
      unfold toldStep
      split
      · exact List.mem_append.mpr (.inl hx)
      split
      · exact hx
      · dsimp only
        unfold toldRuns
        split <;> exact List.mem_append.mpr (.inl hx)
    have bare : 0 ≤ (toldStep rw place d c).bare := by
      unfold toldStep
      split
      · exact Int.le_refl _
      split
      · dsimp only; omega
      · exact Int.le_refl _
    refine runs_big h59 hs r _ bare ?_
    rcases h with ⟨x, hx, h1⟩ | h
    · exact .inl ⟨x, mono x hx, h1⟩
    · rcases List.mem_cons.mp h with rfl | h
      · refine .inl ?_
        unfold toldStep
        rw [if_neg h59]
        rcases first_cases ch d.runs d.bare rw with ⟨e1, _⟩ | ⟨k, t, l1, e1, _⟩
        · exact absurd e1 hs
        · rw [if_neg (by rw [e1]; simp), told_piece l1 e1]
          obtain ⟨x, hx, h1⟩ := piece_big (k := rw.length - 1 - k) hb (nameOf_b ch).1
          exact ⟨x, List.mem_append.mpr (.inr hx), h1⟩
      · exact .inr h
theorem len_big {rw : List Int} {place : Int} {Y : Str} (hr : rw ≠ []) (h60 : 60 ∈ Y.cps.toList) (h34 : 34 ∈ Y.cps.toList) : 2 ≤ (wsRun (leadCodes rw Y)).cnt.length := by
  have hb : ∃ r ∈ (told rw place Y.cps.toList).runs, 1 ≤ r := by
    cases rw with
    | nil => exact absurd rfl hr
    | cons h t =>
      have ne : ∀ ch, spl h ch = true → spellers (h :: t) ch ≠ [] := by
        intro ch e
        rw [spellers_cons, if_pos e]
        simp
      rcases two_signs h with e | e
      · exact runs_big (by decide) (ne _ e) _ _ (Int.le_refl _) (.inr h60)
      · exact runs_big (by decide) (ne _ e) _ _ (Int.le_refl _) (.inr h34)
  obtain ⟨r, hr, h1⟩ := hb
  have := (rel_lead rw place Y).pos r hr
  omega
theorem bool_dec {x : Bool} {P : Prop} [Decidable P] (h : x = true ↔ P) : x = decide P := by
  cases x with
  | true => exact (decide_eq_true (h.mp rfl)).symm
  | false => exact (decide_eq_false fun p => by have := h.mpr p; cases this).symm
theorem plain_law {a b c : Int} {rw : List Int} {p M : Int} {Y : Str} (hrp : rowP a b c rw p) (h60 : 60 ∈ Y.cps.toList) (h34 : 34 ∈ Y.cps.toList)
    (m1 : M ∈ (told rw p Y.cps.toList).runs ++ (told (swapAt rw p) p Y.cps.toList).runs ++ [(told rw p Y.cps.toList).bare]) (m2 : ∀ x, x ∈ (told rw p Y.cps.toList).runs ++ (told (swapAt rw p) p Y.cps.toList).runs ++ [(told rw p Y.cps.toList).bare] → x ≤ M) :
    Plain (wsRun (leadCodes rw Y)) (wsRun (leadCodes (swapAt rw p) Y)) (told rw p Y.cps.toList) (decide (p + 2 < (rw.length : Int))) M := by
  obtain ⟨⟨l1, l2⟩, ⟨l3, l4⟩, l5⟩ := rp_len hrp
  have sd : ∀ s : Int, 1 ≤ s → Side s (decide (p + 2 < (rw.length : Int))) (told rw p Y.cps.toList) (told (swapAt rw p) p Y.cps.toList) := fun s hs => side_told hs l5 (rows_move hrp) _
  have r1 := rel_lead rw p Y
  have r2 := rel_lead (swapAt rw p) p Y
  rw [(sd 1 (Int.le_refl _)).bare] at r2
  have hb := (sd 1 (Int.le_refl _)).b0
  have n1 : 2 ≤ (wsRun (leadCodes rw Y)).cnt.length := len_big (place := p) (by intro e; rw [e] at l1; simp at l1) h60 h34
  have n2 : 2 ≤ (wsRun (leadCodes (swapAt rw p) Y)).cnt.length := len_big (place := p) (by intro e; rw [e] at l5; simp at l5; omega) h60 h34
  generalize wsRun (leadCodes rw Y) = s1 at r1 n1 ⊢
  generalize wsRun (leadCodes (swapAt rw p) Y) = s2 at r2 n2 ⊢
  generalize hbe : decide (p + 2 < (rw.length : Int)) = beh at sd ⊢
  generalize hd1 : told rw p Y.cps.toList = d1 at r1 r2 sd m1 m2 hb ⊢
  generalize hd2 : told (swapAt rw p) p Y.cps.toList = d2 at r2 sd m1 m2
  have hM : 0 ≤ M := by
    have := m2 d1.bare (List.mem_append.mpr (.inr (List.mem_singleton.mpr rfl)))
    omega
  have t1 : topOf s1 s2 = M + 1 := topOf_rel r1 r2 hb m1 m2
  have t2 : topOf s2 s1 = M + 1 := by
    rw [← t1]; unfold topOf; rw [Int.max_comm]
  have lev1 : ∀ s, 1 ≤ s → levelOf s1 s = levAt d1 s := fun s hs => level_rel r1 hs
  have lev2 : ∀ s, 1 ≤ s → levelOf s2 s = levAt d1 s + s * stepsOf d1.moved beh s := by
    intro s hs
    rw [level_rel r2 hs, (sd s hs).lev, Int.mul_add]
    show _ = d1.bare + s * gSum s d1.runs + _
    omega
  have row : ∀ s, 1 ≤ s → (s, levelOf s1 s, levelOf s2 s) = rowAt d1 beh s := fun s hs => by unfold rowAt; rw [lev1 s hs, lev2 s hs]
  have e1 : ∀ s, 1 ≤ s → (rowAt d1 beh s).2.1 = levelOf s1 s := fun s hs => by rw [← row s hs]
  have e2 : ∀ s, 1 ≤ s → (rowAt d1 beh s).2.2 = levelOf s2 s := fun s hs => by rw [← row s hs]
  have eqs : s1.cnt = s2.cnt ↔ (nearOf d1 beh M).filter (fun r => decide (r.2.1 ≠ r.2.2)) = [] := by
    rw [near_filter hM]
    constructor
    · intro h s q1 q2
      rw [e1 s q1, e2 s q1, level_rel r1 q1, level_rel r2 q1, gSum_cnt r1 r2 h]
      simp
    · intro h
      refine cnt_eq (N := (1 + M).toNat) r1 r2 (fun r hr => ?_) (fun r hr => ?_) (by omega) fun s q1 q2 => ?_
      · have := m2 r (List.mem_append.mpr (.inl (List.mem_append.mpr (.inl hr)))); omega
      · have := m2 r (List.mem_append.mpr (.inl (List.mem_append.mpr (.inr hr)))); omega
      · have := h s (by omega) (by omega)
        rw [e1 s (by omega), e2 s (by omega), level_rel r1 (by omega), level_rel r2 (by omega)] at this
        have := Classical.not_not.mp (of_decide_eq_false this)
        have : (s : Int) * gSum s d1.runs = s * gSum s d2.runs := by omega
        exact Int.eq_of_mul_eq_mul_left (by omega) this
  have tails : s1.b = s2.b := by have := r1.tail; have := r2.tail; omega
  refine ⟨lev1, lev2, n1, n2, bool_dec ?_, bool_dec ?_, bool_dec ?_, bool_dec ?_, ?_, ?_, ?_⟩
  · rw [less_iff hM t1 (level_one r1) (level_one r2), near_filter hM]
    refine forall_congr' fun s => forall_congr' fun q1 => forall_congr' fun q2 => ?_
    rw [e1 s q1, e2 s q1, decide_eq_false_iff_not]
    omega
  · rw [less_iff hM t2 (level_one r2) (level_one r1), near_filter hM]
    refine forall_congr' fun s => forall_congr' fun q1 => forall_congr' fun q2 => ?_
    rw [e1 s q1, e2 s q1, decide_eq_false_iff_not]
    omega
  · unfold eqB
    rw [decide_eq_true_iff, ← eqs]
    exact ⟨fun h => h.1, fun h => ⟨h, tails⟩⟩
  · unfold eqB
    rw [decide_eq_true_iff, ← eqs]
    exact ⟨fun h => h.1.symm, fun h => ⟨h.symm, tails.symm⟩⟩
  · have := wit_near (d := d1) (beh := beh) (p := fun a b => decide (a ≥ b)) (q := fun r => decide (r.2.2 ≤ r.2.1)) id hM t1 (fun s hs => row s hs) (fun r => rfl)
    rw [List.map_id] at this
    exact this
  · exact wit_near (d := d1) (beh := beh) (p := fun a b => decide (a ≥ b)) (q := fun r => decide (r.2.1 ≤ r.2.2)) swapRow hM t2 (fun s hs => by rw [← row s hs]; rfl) (fun r => rfl)
  · have := wit_near (d := d1) (beh := beh) (p := fun a b => decide (a ≠ b)) (q := fun r => decide (r.2.1 ≠ r.2.2)) id hM t1 (fun s hs => row s hs) (fun r => rfl)
    rw [List.map_id] at this
    exact this
end Mine
end
section
open PySem PySem.W PyProof.Rows PyProof.Rows.LCg
set_option maxHeartbeats 8000000
namespace Mine
theorem off_LW : True := by
  w_top off
  k_with_none
  exact True.intro
section
variable {prog : Program} {w : World} {A : Around} {E : Value → Shared → Prop} {s : Shared} {env : Env} {h₀ : Heap} {x : Str} {body : List Stmt} {Q : Flow → Shared → Prop}
theorem loop_listN {σ : Type} {l : Addr} {vs : List Value} {nn : Nat} {m₀ : Str → Option Value} {news : Led} (ps : σ → List (Str × Value)) (P : Nat → σ → Prop) (c₀ : σ)
    (hh : A.handled = none) (F : Fr h₀ env.locals s.heap m₀) (N : News h₀ env.locals s.heap news) (hl : (l, W.listOf vs.toArray nn) ∈ news) (hk : ∀ p ∈ ps c₀, m₀ p.1 = some p.2) (hp : P 0 c₀)
    (turn : ∀ (c : σ) i v (m₁ : Str → Option Value) h tk own, vs[i]? = some v → OwnOff own (news.map (·.1)) → P i c →
      Fr h₀ env.locals h (fun y => if y = x then some v else kstB m₁ (ps c) y) → News h₀ env.locals h (news ++ own) →
      wpAny (model prog w) A (execs body env) (InvPostG h₀ env.locals (JS (fun _ => news) ps P (i + 1)) own { s with heap := h, toks := tk } Q) E { s with heap := h, toks := tk })
    (done : ∀ (c : σ) (m₁ : Str → Option Value) h tk, P vs.length c → Fr h₀ env.locals h (kstB m₁ (ps c)) → News h₀ env.locals h news → Q .next { s with heap := h, toks := tk }) :
    wpAny (model prog w) A (pyIter (.ref l)) (fun it s₂ => LoopAtV prog w A h₀ env x body Q E it s₂) E s :=
  loop_list (fun _ => news) ps P c₀ hh (fun _ => hl) F N (fun _ h => h) hk hp turn done
end
theorem ds_facts {ws : List Value} {l : List Int} (h : IntsAre ws (List.take 3 (List.map (fun k' => Int.fmod k' 1000000) l) ++ [0, 7, 14])) :
    ∃ ds : List Int, IntsAre ws ds ∧ ds.length ≤ 6 ∧ (∀ d ∈ ds, 0 ≤ d ∧ d < 1000000) ∧ (0 : Int) ∈ ds ∧ (7 : Int) ∈ ds := by
  refine ⟨_, h, ?_, ?_, by simp, by simp⟩
  · simp only [List.length_append, List.length_take, List.length_cons, List.length_nil]; omega
  · intro d hd
    rcases List.mem_append.mp hd with hd | hd
    · obtain ⟨k, _, rfl⟩ := List.mem_map.mp (List.mem_of_mem_take hd)
      exact ⟨fmod_lo k (by decide), fmod_hi k (by decide)⟩
    · simp at hd; omega
theorem sum_fm : ∀ l : List Int, 0 ≤ (l.map fun k' => Int.fmod k' 1000000).sum ∧ (l.map fun k' => Int.fmod k' 1000000).sum ≤ 1000000 * (l.length : Int)
  | [] => ⟨Int.le_refl _, Int.le_refl _⟩
  | k :: r => by
    have ih := sum_fm r
    have h1 := fmod_lo k (n := 1000000) (by decide)
    have h2 := fmod_hi k (n := 1000000) (by decide)
    simp only [List.map_cons, List.sum_cons, List.length_cons]
    omega
end Mine
open Mine
section
local macro_rules | `(tactic| walk_at $s:str) => `(tactic| k_extra $s)
local macro_rules | `(tactic| k_mem) => `(tactic| first | assumption | exact List.Mem.head _ | (refine List.Mem.tail _ ?_; k_mem) | (refine List.mem_append_left _ ?_; k_mem) | (refine List.mem_append_right _ ?_; k_mem))
theorem PySem.Challenge.cw_pg0246_01_holds : PySem.Challenge.rw_pg0246_01.Holds := by
  exact Mine.hd (by
  k_with_none
  k_with "exec For Name BinOp cons nil" => (k_here; (rename Fr _ _ _ _ => lF'); (with_unfolding_all refine' For_stop lF' ?q9a ?q9b ?_; (case q9a => exact rfl); (case q9b => exact rfl); k_whole))
  k_with "exec If" => (k_here; refine Stop.un ?_)
  k_with "exec Assign" => (k_here; (fail_if_success (rename NoMerge => nm')); (with_reducible show wpAny _ _ (exec (Stmt.Assign _ (Expr.BinOp (Expr.BinOp (Expr.Subscript _ _ _) _ (Expr.List _ _) _) _ _ _) _) _) _ _ _); refine Stop.un ?_)
  k_with "call ref" => (k_here; refine Stop.un ?_)
  k_with "call builtin:max" => (k_here; (rename Late => Late9); (with_reducible show wpAny _ _ (call (Value.builtin _) [Value.ref _]) _ _ _); k_dflt (refine' my_max ?q9F ?q9N ?q9m ?q9i ?q9n rfl ?_; (case q9F => k_asm); (case q9N => k_asm); (case q9m => k_mem); (case q9i => assumption); (case q9n => ((simp only [List.length_append, List.length_cons, List.length_nil]); omega))); intro h' M' t' tk' F' N' hM1' hM2'; (have hM3' := max_bnd (by assumption) (by assumption) (by assumption) hM1'); obtain ⟨hM4', hM5'⟩ := hM3')
  k_with "subscriptTail Call Name cons nil Constant ref int" => (k_here; (rename Late => Late9); k_dflt (refine' my_item0 ?q9N ?q9m ?_ ?q9h; (case q9N => k_asm); (case q9m => k_mem); (case q9h => with_unfolding_all rfl)))
  k_with "binaryOp Add ref ref" => (k_here; (rename Late => Late9); (with_reducible show wpAny _ _ (binaryOp _ (Value.ref _) (Value.ref _)) _ _ _); k_dflt (refine' my_addL ?q9F ?q9N ?q9a ?q9b ?q9i ?q9j ?q9z ?q9y ?_; (case q9F => k_asm); (case q9N => k_asm); (case q9a => k_mem); (case q9b => k_mem); (case q9i => (first | exact IntsAre.cons _ _ .nil | assumption)); (case q9j => (first | exact IntsAre.cons _ _ .nil | assumption)); (case q9z => ((try simp only [List.length_cons, List.length_nil]); omega)); (case q9y => ((try simp only [List.length_cons, List.length_nil]); omega))); intro D' ws' h' F' N' l1 hI' hL'; (try simp only [List.length_cons, List.length_nil] at hL'); (try k_lt l1); (try k_sweep))
  k_with "exec For Name BinOp cons nil" => (k_here; (rename Late => Late9); (rename Fr _ _ _ _ => lF'); (with_unfolding_all refine' For_stopT lF' ?_); k_whole)
  k_with "call type:list" => (k_here; (rename Late => Late9); (rename IsRange _ _ _ _ _ _ _ _ => rgX); (with_unfolding_all refine' kll_range rfl ?q9F ?q9N rgX ?q9s ?q9r ?q9z ?_; (case q9F => k_asm); (case q9N => k_asm); (case q9s => exact small_one (by omega) (by omega) (by omega) (by omega)); (case q9r => exact rangeSize_nat _ _); (case q9z => omega); k_whole); intro D' vs' c' h' tk' F' N' l1 hI'; (have hL' := hI'.length); (simp only [rangeKs_length] at hL'); (try k_lt l1); (try k_sweep))
  k_with "call ref" => (k_here; k_dflt (refine' Ctr.use (ctr_told _ _ _ _ _ _ _ _ _ ?q9l ?q9i ?q9r ?q9s ?q9p ?q9q ?q9x) ?q9a ?q9b ?q9c ?q9d ?q9e ?q9K ?q9D ?q9U ?_; (case q9b => k_asm); (case q9d => k_asm); (case q9a => k_asm); (case q9c => k_asm); (case q9e => k_asm); (case q9l => k_mem); (case q9i => assumption); (case q9r => omega); (case q9s => omega); (case q9p => omega); (case q9q => omega); (case q9x => omega); (case q9K => exact rfl); (case q9D => ktr_room); (case q9U => ktr_units); intro v' tl' h' tk' F' N' o' hR'; obtain ⟨a', la', lm', us', ms', k', km', t', e', N', iR', dM'⟩ := told_front N' hR'; subst e'; clear hR'; have hU' := iR'.length))
  k_with "call builtin:len" => (k_here; (rename Late => Late9); (with_reducible show wpAny _ _ (call (Value.builtin "len") [Value.ref _]) _ _ _); k_dflt (refine' my_lenL ?q9k1 ?q9k2 ?q9k3 ?q9k4 ?_; (case q9k1 => k_asm); (case q9k2 => k_mem); (case q9k3 => assumption); (case q9k4 => omega); k_whole))
  k_with "call ref" => (k_here; (rename Late => Late9); k_dflt (refine' Ctr.use (ctr_level _ _ _ _ _ ?q9w ?q9o ?q9x ?q9y) ?q9a ?q9b ?q9c ?q9d ?q9e ?q9K ?q9D ?q9U ?_; (case q9b => k_asm); (case q9d => k_asm); (case q9a => k_asm); (case q9c => k_asm); (case q9e => k_asm); (case q9w => first | assumption | exact WsIn.mono (by assumption) (by intro p hp; simp [hp])); (case q9o => assumption); (case q9x => omega); (case q9y => omega); (case q9K => exact rfl); (case q9D => ktr_room); (case q9U => ktr_units); intro v' tl' h' tk' F' N' o' hR'; obtain ⟨e', t', e2'⟩ := hR'; subst e'; subst e2'; clear o'; (try simp only [List.nil_append] at N')))
  k_with "compareOp NotEq ref ref" => (k_here; (rename Late => Late9); refine Stop.un ?_)
  k_with "compareOp Eq ref ref" => (k_here; (rename Late => Late9); refine Stop.un ?_)
  k_with "subscriptTail Name Slice ref ref" => (k_here; (rename Late => Late9); refine Stop.un ?_)
  k_with "compareOp IsNot bool bool" => (k_here; (rename Late => Late9); refine Stop.un ?_)
  k_with "exec Assign cons ListComp" => (k_here; (rename Late => Late9); k_dflt (refine Assign_ListComp_G (F₀ := by k_asm) (by rfl) (by with_unfolding_all rfl) (by with_unfolding_all rfl) (by decide) (by rfl) (by decide) (by rfl) (by rfl) ?_))
  k_with "eval ListComp" => (k_here; (rename Late => Late9); k_dflt (refine ListComp_G (F₀ := by k_asm) (by with_unfolding_all rfl) (by decide) (by rfl) (by decide) ?_))
  w_strict (
    k_go0
    (all_goals try k_fold)
    as_aux_lemma =>
    k_steps
    refine Stop.mk ?_
    (rename Fr _ _ _ _ => lF); (rename News _ _ _ _ => lN); (rename IntsAre _ (List.take 3 _ ++ _) => hds0)
    obtain ⟨ds, hds, d1, d2, d3, d4⟩ := ds_facts hds0
    clear hds0
    refine' loop_listN (σ := LwL) (fun c => [(Str.ofString "text", .str c.x c.t), (Str.ofString "total", .int c.T c.tT)]) (LwOk ds) ⟨_, _, _, _⟩ rfl lF lN (.head _) ?q9k ?q9p ?q9t ?q9d
    case q9k => kst_all
    case q9p =>
      refine ⟨⟨?_, ?_⟩, Nat.le_refl _, fun h => ?_, fun h => ?_⟩
      · exact Int.add_nonneg (by decide) (sum_fm _).1
      · refine Int.le_trans (Int.add_le_add_left (sum_fm _).2 765) ?_
        rename (List.take 60 _).length = min 60 _ => h60
        rw [h60]; omega
      · exact absurd h (by simp)
      · exact absurd h (by simp)
    case q9t =>
      rintro ⟨y, ty, T, tT⟩ i v m1 h tk own hv hoff hP F1 N1
      obtain ⟨u, hu9, rfl, hu⟩ := hds.at i v hv
      have hP9 := hP
      obtain ⟨⟨g1, g2⟩, g3, g4, g5⟩ := hP
      dsimp only at g1 g2 g3 g4 g5 F1 N1 hoff
      have hMk := kstMark
      have hu2 := d2 u (List.mem_of_getElem? hu)
      have hlt : i < 6 := by
        have := (List.getElem?_eq_some_iff.mp hu).1
        omega
      have hy6 : y.length ≤ 36 := by omega
      have hm1 := fmod_lo u (n := 6) (by decide)
      have hm2 := fmod_hi u (n := 6) (by decide)
      as_aux_lemma =>
      k_steps
      refine' turn_end (P := LwOk ds) ⟨_, _, T, tT⟩ (by assumption) (by assumption) ?q9n ?q9o ?q9a ?q9k ?q9p
      case q9k => kst_all
      case q9n => exact fun p hp => List.mem_append.mpr (.inl hp)
      case q9o => exact fun p hp => List.mem_append.mpr (.inr hp)
      case q9a => exact hoff
      case q9p => exact lw_next hP9 hu rfl (by omega)
    case q9d =>
      rintro ⟨y, ty, T, tT⟩ m1 h tk hP F1 N1
      obtain ⟨⟨g1, g2⟩, g3, g4, g5⟩ := hP
      dsimp only at g1 g2 g3 g4 g5 F1 N1
      have hMk := kstMark
      have hy6 : y.length ≤ 36 := by have := hds.length; omega
      have hz1 := fmod_lo (Int.fdiv T 375) (n := 3) (by decide)
      have hz2 := fmod_hi (Int.fdiv T 375) (n := 3) (by decide)
      as_aux_lemma =>
      k_steps
      refine Stop.mk ?_
      (rename Fr _ _ _ _ => lF); (rename News _ _ _ _ => lN)
      have hrp := rp_facts T (Int.fmod T 5) (Int.fmod (Int.fdiv T 5) 5) (Int.fmod (Int.fdiv T 25) 5)
      refine cut_row (Str.ofString "row") (if Int.fmod (Int.fdiv T 125) 3 = 0 then [Int.fmod T 5, Int.fmod (Int.fdiv T 5) 5] else [Int.fmod T 5, Int.fmod (Int.fdiv T 5) 5, Int.fmod (Int.fdiv T 25) 5]) lF lN ?q9A ?q9B
      case q9A =>
        refine wpAny_If ?_
        as_aux_lemma =>
        k_steps
        · as_aux_lemma =>
          rename Int.fmod (Int.fdiv T 125) 3 = 0 => hm0
          rename Fr _ _ _ _ => nF
          rename News _ _ _ _ => nN
          rename IntsAre _ _ => nI

          refine row_new nF rfl nN (.head _) ?_ ?_
          · exact fun p hp => .tail _ hp
          · rw [if_pos hm0]; exact .cons _ _ (.cons _ _ .nil)
        · as_aux_lemma =>
          rename ¬ Int.fmod (Int.fdiv T 125) 3 = 0 => hm0
          rename Fr _ _ _ _ => nF
          rename News _ _ _ _ => nN

          refine row_new nF (store_same rfl) nN (.head _) (fun _ hp => hp) ?_
          rw [if_neg hm0]; exact .cons _ _ (.cons _ _ (.cons _ _ .nil))
      case q9B =>
        intro l9 vs9 k9 h9 tk9 F9 N9 I9
        generalize (if Int.fmod (Int.fdiv T 125) 3 = 0 then [Int.fmod T 5, Int.fmod (Int.fdiv T 5) 5] else [Int.fmod T 5, Int.fmod (Int.fdiv T 5) 5, Int.fmod (Int.fdiv T 25) 5]) = rw9 at hrp I9
        have hMk := kstMark
        as_aux_lemma =>
        k_steps
        refine Stop.mk ?_
        (rename Fr _ _ _ _ => lF2); (rename News _ _ _ _ => lN2)
        generalize Int.fdiv (Int.fmod (Int.fdiv T 125) 3) 2 = p9 at hrp lF2
        refine cut_row (Str.ofString "turned") (swapAt rw9 p9) lF2 lN2 ?q9C ?q9D
        case q9C =>
          have nm : NoMerge := True.intro
          rcases hrp with ⟨e1, e2⟩ | ⟨e1, e2⟩ | ⟨e1, e2⟩
          · subst e1 e2
            obtain ⟨t1, t2, e3⟩ := ints2 I9
            subst e3
            as_aux_lemma =>
            k_steps
            rename Fr _ _ _ _ => nF
            rename News _ _ _ _ => nN
            exact row_new nF rfl nN (.head _) (fun p hp => .tail _ (.tail _ (.tail _ (.tail _ (.tail _ hp))))) (.cons _ _ (.cons _ _ .nil))
          · subst e1 e2
            obtain ⟨t1, t2, t3, e3⟩ := ints3 I9
            subst e3
            as_aux_lemma =>
            k_steps
            rename Fr _ _ _ _ => nF
            rename News _ _ _ _ => nN
            exact row_new nF rfl nN (.head _) (fun p hp => .tail _ (.tail _ (.tail _ (.tail _ (.tail _ hp))))) (.cons _ _ (.cons _ _ (.cons _ _ .nil)))
          · subst e1 e2
            obtain ⟨t1, t2, t3, e3⟩ := ints3 I9
            subst e3
            as_aux_lemma =>
            k_steps
            rename Fr _ _ _ _ => nF
            rename News _ _ _ _ => nN
            exact row_new nF rfl nN (.head _) (fun p hp => .tail _ (.tail _ (.tail _ (.tail _ (.tail _ hp))))) (.cons _ _ (.cons _ _ (.cons _ _ .nil)))
        case q9D =>
          intro l8 vs8 k8 h8 tk8 F8 N8 I8
          have N7 := news_drop N8 6
          simp only [List.drop_succ_cons, List.drop_zero] at N7
          clear N8 N9 lN2
          have Late9 : Late := True.intro
          obtain ⟨⟨z1, z2⟩, ⟨z3, z4⟩, z5⟩ := rp_len hrp
          obtain ⟨z6, z7, z8⟩ := text_ok (n := Int.fmod (Int.fdiv T 375) 3) hy6 (g4 (by have := hds.length; rw [this, List.take_length]; exact d3)) (g5 (by have := hds.length; rw [this, List.take_length]; exact d4)) (by omega)
          generalize y ++ Txt.mul (Str.ofString "a") (Int.fmod (Int.fdiv T 375) 3) = Y at F8 z6 z7 z8
          obtain ⟨m8, F7⟩ := fr_over_ex [(Str.ofString "text", .str Y _), (Str.ofString "total", .int T _), (Str.ofString "row", .ref l9), (Str.ofString "place", .int p9 _), (Str.ofString "turned", .ref l8)] F8 (by kst_all)
          have tb1 := tb_told (rw := rw9) (place := p9) z2 Y.cps.toList
          have tb2 := tb_told (rw := swapAt rw9 p9) (place := p9) (by omega) Y.cps.toList
          have hYl : Y.cps.toList.length ≤ 38 := by have : Y.length = Y.cps.toList.length := by simp [Str.length]
                                                    omega
          have tl1 := tb1.rl
          have tb3 := tb1.b0
          have tb4 := tb1.b1
          have tl2 := tb2.rl
          clear F8 F9 lF2
          as_aux_lemma =>
          k_steps
          refine Stop.mk ?_
          rename Fr _ _ _ _ => lF3
          rename News _ _ _ _ => lN3
          rename IntsAre _ (Told.runs (told rw9 p9 _)) => iR1
          rename DatAll _ _ (List.map rowD (Told.moved (told rw9 p9 _))) => dM1
          rename IntsAre _ (rangeKs _ _ ++ _) => iz9
          obtain ⟨tbl, e⟩ := name_ref (x := Str.ofString "table") lF3 (by kst_all)
          subst e
          rename ((_ : Nat) < tbl ∧ _) => ql1
          rename (_ < _ ∧ _ < _ ∧ tbl < _ ∧ _) => ql3
          rename (_ ∈ Told.runs _ ++ _ ++ _) => hM1
          rename (∀ a, a ∈ _ → a ≤ _) => hM2
          obtain ⟨M, eM⟩ := name_mem hM1
          subst eM
          refine ex15 (stageV lN3 (by assumption) (by assumption) (by assumption) ql3.2.2.1 ql1.2.2.2.2.2.2 (by assumption) iz9 iR1 dM1) ?_
          intro base adr pc1 pc2 c3 w3 vsz vru vm kz kr kk Dz la lm wq9
          have e1 := wq9.q1
          have e2 := wq9.q2
          have e3 := wq9.q3
          have e4 := wq9.q4
          have e5 := wq9.q5
          have e6 := wq9.q6
          have hcell := wq9.cell
          have hadr := wq9.qa
          have N9 := wq9.news
          have mz := wq9.mz
          have mr := wq9.mr
          have mm := wq9.mm
          have m8' := wq9.m8
          have m9' := wq9.m9
          have dM9 := wq9.dat
          have iz := wq9.iz
          have ir := wq9.ir
          have off9 := wq9.off
          have ne1 := wq9.ne.1
          have ne2 := wq9.ne.2.1
          have ne3 := wq9.ne.2.2
          clear wq9
          subst e4 e5 e6
          change IntsAre vsz (sizesOf M T) at iz
          have hszl : (sizesOf M T).length ≤ 45 := sizes_len ⟨by assumption, by assumption⟩
          have hsz : ∀ s ∈ sizesOf M T, 1 ≤ s ∧ s ≤ 1000000000 := fun s hs => sizes_b ⟨by assumption, by assumption⟩ ⟨g1, g2⟩ hs
          obtain ⟨m9, ps9, hps9, F9, hk9⟩ := fr_ps [(Str.ofString "text", .str Y _), (Str.ofString "total", .int T _), (Str.ofString "row", .ref l9), (Str.ofString "place", .int p9 _), (Str.ofString "turned", .ref l8), (Str.ofString "runs", .ref la), (Str.ofString "tail", .int (told rw9 p9 Y.cps.toList).bare _), (Str.ofString "moved", .ref lm), (Str.ofString "table", .ref tbl)] lF3 (by kst_all)
          clear lF3 lN3 ql1 ql3 iz9 iR1 dM1 N7 F7
          refine' loop_listT (σ := TbL) (vs := vsz) (nn := kz) (fun c => (tbl, W.listOf c.vs.toArray c.k) :: pc1 :: pc2 :: (c3, c.os) :: (c.tl ++ base)) (fun _ => ps9) (TbOk (told rw9 p9 Y.cps.toList) (decide (p9 + 2 < (rw9.length : Int))) (sizesOf M T) base adr) ⟨[], _, [], w3⟩ rfl (fun c => .tail _ (.tail _ (.tail _ (.tail _ (List.mem_append_right _ mz))))) F9 N9 (fun p hp => hp) hk9 ⟨.nil, hcell, ownOff_nil, ownOff_nil⟩ ?q8t ?q8d
          case q8t =>
            rintro ⟨vs, k, tl, os⟩ i v m1 h tk own hi hoff hP F1 N1
            obtain ⟨u, hu9, rfl, hu⟩ := iz.at i v hi
            obtain ⟨P1, ⟨vo, P2⟩, P3, P4⟩ := hP
            subst hps9 hadr e1 e2 e3
            dsimp only at P1 P2 P3 P4 F1 N1 hoff
            simp only [List.map_cons, List.map_append, List.cons_append, List.append_assoc] at hoff N1
            have hMk := kstMark
            have hsu := hsz u (List.mem_of_getElem? hu)
            have hvl : vs.length ≤ 1000 := DatAll.len P1 (Nat.le_trans take_row_len (Nat.le_trans hszl (by decide)))
            have hmv9 : ∀ r ∈ (told rw9 p9 Y.cps.toList).moved, (-1 ≤ r.1 ∧ r.1 ≤ 1) ∧ (0 ≤ r.2.1 ∧ r.2.1 ≤ 1000000) ∧ (0 ≤ r.2.2 ∧ r.2.2 ≤ 1000000) := fun r hr => by have := tb1.m r hr; omega
            as_aux_lemma =>
            k_steps
            refine Stop.mk ?_
            (rename Fr _ _ _ _ => lF4); (rename News _ _ _ _ => lN4)
            refine ⟨_, vru.length, _, _, fun i ys tl => tl = [] ∧ IntsAre ys (((told rw9 p9 Y.cps.toList).runs.take i).map fun r => Int.fdiv r u + 1), ?sz, csrc_list rfl lF4 lN4 (by k_mem), ⟨rfl, .nil⟩, casg_name rfl rfl, cturn_none ?ct, ?cf⟩
            case sz => rw [sizeLine_eq, ir.length]; omega
            case ct =>
              intro i2 v2 ys2 tl2 I2 oI2 C2 oC2 D2 m2 h2 tk2 E2 hi2 hv2 hR2 hb2 own2 hC2 F2 N2 off2 lt2 ne2
              obtain ⟨r2, _, rfl, hr2⟩ := ir.at i2 v2 hv2
              obtain ⟨rfl, hI2⟩ := hR2
              simp only [List.nil_append] at N2
              have hMk := kstMark
              as_aux_lemma =>
              k_steps
              all_goals (
                refine CEnd.mk [] (by assumption) (by assumption) (fun p hp => hp) (fun _ hp => nomatch hp) own2 ⟨rfl, ?_⟩
                rw [take_map_snoc hr2]
                exact hI2.append (.cons _ _ .nil))
            case cf =>
              intro ys2 tl2 hR2 own2 D2 h2 tk2 F2 N2 ltD2 off2
              obtain ⟨rfl, hI2⟩ := hR2
              rw [ir.length, List.take_length] at hI2
              simp only [List.nil_append] at N2
              simp only [AllLt] at ltD2
              as_aux_lemma =>
              k_steps
              refine Stop.mk ?_
              rename News _ _ _ _ => lN5
              rename Fr _ _ _ _ => lF5
              refine' Ctr.use (ctr_steps _ lm vm kk (told rw9 p9 Y.cps.toList).moved _ u _ (by k_mem) (dM9.mono ?q9i) hmv9 hsu.1 hsu.2) ?q9a lF5 ?q9c lN5 ?q9e ?q9K ?q9D ?q9U ?_
              case q9a => k_asm
              case q9c => k_asm
              case q9e => k_asm
              case q9i => intro p hp; simp [hp]
              case q9K => exact rfl
              case q9D => ktr_room
              case q9U => ktr_units
              intro v' tl' h' tk' F' N' o' hR'
              obtain ⟨e', t', e2'⟩ := hR'
              subst e'
              subst e2'
              clear o'
              simp only [List.nil_append] at N'
              as_aux_lemma =>
              k_steps
              rename _ ∧ _ ∧ _ ∧ _ ∧ _ ∧ AllLt _ _ => q9
              (rename News _ _ _ _ => N9'); (simp only [List.push_toArray] at N9')
              refine' turn_end (P := TbOk (told rw9 p9 Y.cps.toList) (decide (p9 + 2 < (rw9.length : Int))) (sizesOf M T) base _) ⟨vs ++ [.ref _], _, (_, tupOf [.int _ _, .int _ _, .int _ _]) :: tl, _⟩ ?q7F N9' ?q7n ?q7o ?q7a ?q7k (TbOk.next P1 P3 P4 hu rfl q9.2 ⟨_, by assumption⟩)
              case q7F => assumption
              case q7k => kst_all
              case q7n => kst_inAny
              case q7o => intro p hp; simp [hp]
              case q7a => (simp only [List.map_cons, List.map_append, List.cons_append]; exact own_push hoff (allLt_append (allLt_append q9.2.2.2.2.2).2).2)
          case q8d =>
            rintro ⟨vs, k, tl, os⟩ m1 h tk hP F1 N1
            obtain ⟨P1, ⟨vo, P2⟩, P3, P4⟩ := hP
            subst hps9 hadr e1 e2 e3
            dsimp only at P1 P2 P3 P4 F1 N1
            rw [iz.length, List.take_length] at P1
            have hMk := kstMark
            as_aux_lemma =>
            k_steps
            refine Stop.mk ?_
            (rename Fr _ _ _ _ => lF6); (rename News _ _ _ _ => lN6)
            refine' Ctr.use (ctr_lead _ l9 vs9 k9 rw9 Y _ (by k_mem) I9 (by omega) (by omega)) ?q9a lF6 ?q9c lN6 ?q9e ?q9K ?q9D ?q9U ?_
            case q9a => k_asm
            case q9c => k_asm
            case q9e => k_asm
            case q9K => exact rfl
            case q9D => ktr_room
            case q9U => ktr_units
            intro v' tA h' tk' F' N' o' hR'
            obtain ⟨one, e', W1⟩ := hR'
            subst e'
            replace o' := off4 o'
            replace N' := news_swap4 N'
            clear lF6 lN6
            as_aux_lemma =>
            k_steps
            refine Stop.mk ?_
            (rename Fr _ _ _ _ => lF6); (rename News _ _ _ _ => lN6)
            refine' Ctr.use (ctr_lead _ l8 vs8 k8 (swapAt rw9 p9) Y _ (by k_mem) I8 (by omega) (by omega)) ?q9a lF6 ?q9c lN6 ?q9e ?q9K ?q9D ?q9U ?_
            case q9a => k_asm
            case q9c => k_asm
            case q9e => k_asm
            case q9K => exact rfl
            case q9D => ktr_room
            case q9U => ktr_units
            intro v' tB h' tk' F' N' o' hR'
            obtain ⟨other, e', W2⟩ := hR'
            subst e'
            replace o' := off4 o'
            replace N' := news_swap4 N'
            clear lF6 lN6
            as_aux_lemma =>
            k_steps
            refine Stop.mk ?_
            (rename Fr _ _ _ _ => lF7); (rename News _ _ _ _ => lN7)
            obtain ⟨bs, one', other', e1, e2, N6, W1', W2', dT⟩ := stage2 lN7 W1 W2 P1
            subst e1 e2
            have ok1 : WsOk (wsRun (leadCodes rw9 Y)) := lead_ok z2 (by omega)
            have ok2 : WsOk (wsRun (leadCodes (swapAt rw9 p9) Y)) := lead_ok (by omega) (by omega)
            have pl : Plain (wsRun (leadCodes rw9 Y)) (wsRun (leadCodes (swapAt rw9 p9) Y)) (told rw9 p9 Y.cps.toList) (decide (p9 + 2 < (rw9.length : Int))) M := plain_law hrp z7 z8 hM1 hM2
            generalize wsRun (leadCodes rw9 Y) = s1 at W1' ok1 pl
            generalize wsRun (leadCodes (swapAt rw9 p9) Y) = s2 at W2' ok2 pl
            clear W1 W2 P1 P3 P4 off9 lN7 o'
            have W1c := W1'
            have W2c := W2'
            refine WsIn.use W1' ?_
            clear W1'
            intro d1 D11 D12 vw1 raw1 u11 u12 u13 u14 u15 u1r u1n u1nt u1b wq1
            have i11 := wq1.inst
            have i12 := wq1.dict
            have i13 := wq1.norm
            have i14 := wq1.tup
            have i15 := wq1.its
            clear wq1
            refine WsIn.use W2' ?_
            clear W2'
            intro d2 D21 D22 vw2 raw2 u21 u22 u23 u24 u25 u2r u2n u2nt u2b wq2
            have i21 := wq2.inst
            have i22 := wq2.dict
            have i23 := wq2.norm
            have i24 := wq2.tup
            have i25 := wq2.its
            clear wq2
            refine wpAny_If ?_
            as_aux_lemma =>
            k_steps
            refine Stop.mk ?_
            (rename Fr _ _ _ _ => lF8); (rename News _ _ _ _ => lN8)
            refine ⟨_, vs.length, _, _, fun i ys tl => DatAll tl ys ((((sizesOf M T).map (rowAt (told rw9 p9 Y.cps.toList) (decide (p9 + 2 < (rw9.length : Int))))).take i).map rowD), ?sz, csrc_list rfl lF8 lN8 (.head _), .nil, casg_three rfl rfl rfl rfl rfl (by decide) (by decide) (by decide) (rows_src (DatAll.mono (fun p hp => by simp [hp]) dT)), cturn_none ?ct, ?cf⟩
            case sz => rw [sizeLine_eq]; have := W.DatAll.length dT; simp only [List.length_map] at this; omega
            case ct =>
              intro i2 v2 ys2 tl2 I2 oI2 C2 oC2 D2 m2 h2 tk2 E2 hi2 hv2 hR2 hb2 own2 hC2 F2 N2 off2 lt2 ne2
              refine rows_bnd' (fun p hp => N2 p (by simp [hp])) (DatAll.mono (fun p hp => by simp [hp]) dT) hv2 hb2 ?_
              intro e1 e2 e3 t1 t2 t3 hr2 b1 b2 b3
              have hra := rows_at hr2
              have hsu := hsz e1 (List.mem_of_getElem? hra.1)
              have hMk := kstMark
              as_aux_lemma =>
              k_steps
              rename _ ∧ _ ∧ _ ∧ AllLt _ _ => q9
              rename Fr _ _ _ _ => nF
              rename News _ _ _ _ => nN
              exact CEnd.row nF nN q9 off2 own2 (rows_snoc hR2 hr2 ((pl.row hsu.1).trans hra.2))
            case cf =>
              intro ys2 tl2 hR2 own2 D2 h2 tk2 F2 N2 ltD2 off2
              have hl2 : ((sizesOf M T).map (rowAt (told rw9 p9 Y.cps.toList) (decide (p9 + 2 < (rw9.length : Int))))).length = vs.length := by have := W.DatAll.length dT; rw [List.length_map] at this; exact this.symm
              rw [← hl2, List.take_length] at hR2
              as_aux_lemma =>
              k_steps
              refine Stop.mk ?_
              refine ne_rows N2 (.head _) (.tail _ (List.mem_append_right _ (.head _))) (DatAll.mono (fun p hp => .tail _ (List.mem_append_left _ hp)) hR2) (DatAll.mono (fun p hp => .tail _ (List.mem_append_right _ (by simp [hp]))) dT) (by ktr_units) ?_
              replace N2 : News _ _ _ _ := fun p hp => N2 p (.tail _ (List.mem_append_right _ hp))
              clear hR2 own2 ltD2 off2
              as_aux_lemma =>
              k_steps
              refine Stop.mk ?_
              (rename Fr _ _ _ _ => lF9); (rename News _ _ _ _ => lN9)
              have hvl : vs.length ≤ 1000 := by rw [← hl2, List.length_map]; omega
              refine slice_last lF9 lN9 (.head _) hvl ?_ (by with_unfolding_all rfl) (by intro _; with_unfolding_all rfl)
              intro nr hn Fn Nn ln
              have dN := near_init dT
              clear lN9 hl2
              have hnl : (nearOf (told rw9 p9 Y.cps.toList) (decide (p9 + 2 < (rw9.length : Int))) M).length = vs.dropLast.length := by have := W.DatAll.length dN; rw [List.length_map] at this; exact this.symm
              as_aux_lemma =>
              k_steps
              refine Stop.mk ?_
              refine wpAny_If ?_
              as_aux_lemma =>
              k_steps
              refine Stop.mk ?_
              (rename Fr _ _ _ _ => lFa); (rename News _ _ _ _ => lNa)
              refine' Ctr.use (ctr_less _ one' other' s1 s2 (W1c.mono (fun p hp => by simp [hp])) ok1 (W2c.mono (fun p hp => by simp [hp])) ok2 pl.len1) ?q9a lFa ?q9c lNa ?q9e ?q9K ?q9D ?q9U ?_
              case q9a => k_asm
              case q9c => k_asm
              case q9e => k_asm
              case q9K => exact rfl
              case q9D => ktr_room
              case q9U => ktr_units
              intro v' tl' h' tk' F' N' o' hR'
              obtain ⟨e', e2'⟩ := hR'
              subst e' e2'
              clear o'
              simp only [List.nil_append] at N'
              clear lFa lNa
              as_aux_lemma =>
              k_steps
              refine Stop.mk ?_
              (rename Fr _ _ _ _ => lFb); (rename News _ _ _ _ => lNb)
              refine ⟨_, vs.dropLast.length, _, _, fun i ys tl => tl = [] ∧ IntsAre ys ((((nearOf (told rw9 p9 Y.cps.toList) (decide (p9 + 2 < (rw9.length : Int))) M).take i).filter (fun r => decide (r.2.2 ≤ r.2.1))).map (·.1)), ?sz, csrc_list rfl lFb lNb (by k_mem), ⟨rfl, .nil⟩, casg_three rfl rfl rfl rfl rfl (by decide) (by decide) (by decide) (rows_src (DatAll.mono (fun p hp => by simp [hp]) dN)), cturn_one ?ct, ?cf⟩
              case sz => rw [sizeLine_eq]; rw [List.length_dropLast]; omega
              case ct =>
                intro i2 v2 ys2 tl2 I2 oI2 C2 oC2 D2 m2 h2 tk2 E2 hi2 hv2 hR2 hb2 own2 hC2 F2 N2 off2 lt2 ne2
                refine rows_bnd' (fun p hp => N2 p (by simp [hp])) (DatAll.mono (fun p hp => by simp [hp]) dN) hv2 hb2 ?_
                intro e1 e2 e3 t1 t2 t3 hr2 b1 b2 b3
                obtain ⟨rfl, hI2⟩ := hR2
                simp only [List.nil_append] at N2
                have hMk := kstMark
                as_aux_lemma =>
                k_steps
                all_goals first
                  | exact CEnd.mk [] (by assumption) (by assumption) (fun p hp => hp) (fun _ hp => nomatch hp) own2 ⟨rfl, ints_snoc hI2 hr2 (decide_eq_true (by assumption))⟩
                  | exact CEnd.mk [] (by assumption) (by assumption) (fun p hp => hp) (fun _ hp => nomatch hp) own2 ⟨rfl, ints_skip hI2 hr2 (decide_eq_false (by assumption))⟩
              case cf =>
                intro ys2 tl2 hR2 own2 D2 h2 tk2 F2 N2 ltD2 off2
                obtain ⟨rfl, hI2⟩ := hR2
                rw [← hnl, List.take_length] at hI2
                simp only [List.nil_append] at N2
                as_aux_lemma =>
                k_steps
                refine Stop.mk ?_
                rename News _ _ _ _ => lNc
                refine my_eqNil lNc (by k_mem) hI2 (by k_mem) (by ktr_units) ?_
                as_aux_lemma =>
                k_steps
                refine Stop.mk ?_
                refine isn_same (pl.less1.trans (decide_eq_decide.mpr (by rw [List.length_map, List.length_eq_zero_iff]))) ?_
                clear hI2 own2 ltD2 off2
                replace lNc : News _ _ _ _ := fun p hp => lNc p (.tail _ (.tail _ hp))
                as_aux_lemma =>
                k_steps
                refine Stop.mk ?_
                refine wpAny_If ?_
                as_aux_lemma =>
                k_steps
                refine Stop.mk ?_
                (rename Fr _ _ _ _ => lFa); (rename News _ _ _ _ => lNa)
                refine' Ctr.use (ctr_less _ other' one' s2 s1 (W2c.mono (fun p hp => by simp [hp])) ok2 (W1c.mono (fun p hp => by simp [hp])) ok1 pl.len2) ?q9a lFa ?q9c lNa ?q9e ?q9K ?q9D ?q9U ?_
                case q9a => k_asm
                case q9c => k_asm
                case q9e => k_asm
                case q9K => exact rfl
                case q9D => ktr_room
                case q9U => ktr_units
                intro v' tl' h' tk' F' N' o' hR'
                obtain ⟨e', e2'⟩ := hR'
                subst e' e2'
                clear o'
                simp only [List.nil_append] at N'
                clear lFa lNa
                as_aux_lemma =>
                k_steps
                refine Stop.mk ?_
                (rename Fr _ _ _ _ => lFb); (rename News _ _ _ _ => lNb)
                refine ⟨_, vs.dropLast.length, _, _, fun i ys tl => tl = [] ∧ IntsAre ys ((((nearOf (told rw9 p9 Y.cps.toList) (decide (p9 + 2 < (rw9.length : Int))) M).take i).filter (fun r => decide (r.2.1 ≤ r.2.2))).map (·.1)), ?sz, csrc_list rfl lFb lNb (by k_mem), ⟨rfl, .nil⟩, casg_three rfl rfl rfl rfl rfl (by decide) (by decide) (by decide) (rows_src (DatAll.mono (fun p hp => by simp [hp]) dN)), cturn_one ?ct, ?cf⟩
                case sz => rw [sizeLine_eq]; rw [List.length_dropLast]; omega
                case ct =>
                  intro i2 v2 ys2 tl2 I2 oI2 C2 oC2 D2 m2 h2 tk2 E2 hi2 hv2 hR2 hb2 own2 hC2 F2 N2 off2 lt2 ne2
                  refine rows_bnd' (fun p hp => N2 p (by simp [hp])) (DatAll.mono (fun p hp => by simp [hp]) dN) hv2 hb2 ?_
                  intro e1 e2 e3 t1 t2 t3 hr2 b1 b2 b3
                  obtain ⟨rfl, hI2⟩ := hR2
                  simp only [List.nil_append] at N2
                  have hMk := kstMark
                  as_aux_lemma =>
                  k_steps
                  all_goals first
                    | exact CEnd.mk [] (by assumption) (by assumption) (fun p hp => hp) (fun _ hp => nomatch hp) own2 ⟨rfl, ints_snoc hI2 hr2 (decide_eq_true (by assumption))⟩
                    | exact CEnd.mk [] (by assumption) (by assumption) (fun p hp => hp) (fun _ hp => nomatch hp) own2 ⟨rfl, ints_skip hI2 hr2 (decide_eq_false (by assumption))⟩
                case cf =>
                  intro ys2 tl2 hR2 own2 D2 h2 tk2 F2 N2 ltD2 off2
                  obtain ⟨rfl, hI2⟩ := hR2
                  rw [← hnl, List.take_length] at hI2
                  simp only [List.nil_append] at N2
                  as_aux_lemma =>
                  k_steps
                  refine Stop.mk ?_
                  rename News _ _ _ _ => lNc
                  refine my_eqNil lNc (by k_mem) hI2 (by k_mem) (by ktr_units) ?_
                  as_aux_lemma =>
                  k_steps
                  refine Stop.mk ?_
                  refine isn_same (pl.less2.trans (decide_eq_decide.mpr (by rw [List.length_map, List.length_eq_zero_iff]))) ?_
                  clear hI2 own2 ltD2 off2
                  replace lNc : News _ _ _ _ := fun p hp => lNc p (.tail _ (.tail _ hp))
                  as_aux_lemma =>
                  k_steps
                  refine Stop.mk ?_
                  (rename Fr _ _ _ _ => lFb); (rename News _ _ _ _ => lNb)
                  refine ⟨_, vs.dropLast.length, _, _, fun i ys tl => DatAll tl ys (((((nearOf (told rw9 p9 Y.cps.toList) (decide (p9 + 2 < (rw9.length : Int))) M).take i).filter (fun r => decide (r.2.1 ≠ r.2.2)))).map rowD), ?sz, csrc_list rfl lFb lNb (by k_mem), .nil, casg_three rfl rfl rfl rfl rfl (by decide) (by decide) (by decide) (rows_src (DatAll.mono (fun p hp => by simp [hp]) dN)), cturn_one ?ct, ?cf⟩
                  case sz => rw [sizeLine_eq]; rw [List.length_dropLast]; omega
                  case ct =>
                    intro i2 v2 ys2 tl2 I2 oI2 C2 oC2 D2 m2 h2 tk2 E2 hi2 hv2 hR2 hb2 own2 hC2 F2 N2 off2 lt2 ne2
                    refine rows_bnd' (fun p hp => N2 p (by simp [hp])) (DatAll.mono (fun p hp => by simp [hp]) dN) hv2 hb2 ?_
                    intro e1 e2 e3 t1 t2 t3 hr2 b1 b2 b3
                    have hMk := kstMark
                    as_aux_lemma =>
                    k_steps
                    · as_aux_lemma =>
                      rename _ ∧ _ ∧ _ ∧ AllLt _ _ => q9
                      rename Fr _ _ _ _ => nF
                      rename News _ _ _ _ => nN
                      exact CEnd.row nF nN q9 off2 own2 (rowsF_snoc hR2 hr2 (decide_eq_true (by assumption)))
                    · as_aux_lemma =>
                      exact CEnd.same (by assumption) (by assumption) off2 own2 (rowsF_skip hR2 hr2 (decide_eq_false (by first | assumption | exact not_not_intro (by assumption))))
                  case cf =>
                    intro ys2 tl2 hR2 own2 D2 h2 tk2 F2 N2 ltD2 off2
                    rw [← hnl, List.take_length] at hR2
                    have dU := hR2
                    clear hR2 own2 ltD2 off2
                    as_aux_lemma =>
                    k_steps
                    refine Stop.mk ?_
                    refine wpAny_If ?_
                    as_aux_lemma =>
                    k_steps
                    refine Stop.mk ?_
                    (rename Fr _ _ _ _ => lFa); (rename News _ _ _ _ => lNa)
                    refine' Ctr.use (ctr_equal _ one' other' s1 s2 (W1c.mono (fun p hp => by simp [hp])) (W2c.mono (fun p hp => by simp [hp]))) ?q9a lFa ?q9c lNa ?q9e ?q9K ?q9D ?q9U ?_
                    case q9a => k_asm
                    case q9c => k_asm
                    case q9e => k_asm
                    case q9K => exact rfl
                    case q9D => ktr_room
                    case q9U => ktr_units
                    intro v' tl' h' tk' F' N' o' hR'
                    obtain ⟨e', e2'⟩ := hR'
                    subst e' e2'
                    clear o'
                    simp only [List.nil_append] at N'
                    clear lFa lNa
                    as_aux_lemma =>
                    k_steps
                    refine Stop.mk ?_
                    rename News _ _ _ _ => lNc
                    refine nil_rows lNc (by k_mem) (by k_mem) (DatAll.mono (fun p hp => by simp [hp]) dU) (by ktr_units) ?_
                    as_aux_lemma =>
                    k_steps
                    refine Stop.mk ?_
                    refine isn_same pl.eq1 ?_
                    replace lNc : News _ _ _ _ := fun p hp => lNc p (.tail _ hp)
                    as_aux_lemma =>
                    k_steps
                    refine Stop.mk ?_
                    (rename Fr _ _ _ _ => lFa); (rename News _ _ _ _ => lNa)
                    refine' Ctr.use (ctr_equal _ other' one' s2 s1 (W2c.mono (fun p hp => by simp [hp])) (W1c.mono (fun p hp => by simp [hp]))) ?q9a lFa ?q9c lNa ?q9e ?q9K ?q9D ?q9U ?_
                    case q9a => k_asm
                    case q9c => k_asm
                    case q9e => k_asm
                    case q9K => exact rfl
                    case q9D => ktr_room
                    case q9U => ktr_units
                    intro v' tl' h' tk' F' N' o' hR'
                    obtain ⟨e', e2'⟩ := hR'
                    subst e' e2'
                    clear o'
                    simp only [List.nil_append] at N'
                    clear lFa lNa
                    as_aux_lemma =>
                    k_steps
                    refine Stop.mk ?_
                    rename News _ _ _ _ => lNc
                    refine nil_rows lNc (by k_mem) (by k_mem) (DatAll.mono (fun p hp => by simp [hp]) dU) (by ktr_units) ?_
                    as_aux_lemma =>
                    k_steps
                    refine Stop.mk ?_
                    refine isn_same pl.eq2 ?_
                    replace lNc : News _ _ _ _ := fun p hp => lNc p (.tail _ hp)
                    as_aux_lemma =>
                    k_steps
                    refine Stop.mk ?_
                    refine wpAny_If ?_
                    as_aux_lemma =>
                    k_steps
                    refine Stop.mk ?_
                    (rename Fr _ _ _ _ => lFa); (rename News _ _ _ _ => lNa)
                    refine' Ctr.use (ctr_leWit _ one' other' s1 s2 (W1c.mono (fun p hp => by simp [hp])) ok1 (W2c.mono (fun p hp => by simp [hp])) ok2) ?q9a lFa ?q9c lNa ?q9e ?q9K ?q9D ?q9U ?_
                    case q9a => k_asm
                    case q9c => k_asm
                    case q9e => k_asm
                    case q9K => exact rfl
                    case q9D => ktr_room
                    case q9U => ktr_units
                    intro v' tl' h' tk' F' N' o' hR'
                    obtain ⟨la9, vs9', k9', e', hla, hdl⟩ := hR'
                    subst e'
                    rw [pl.wit1] at hdl
                    clear o'
                    clear lFa lNa
                    as_aux_lemma =>
                    k_steps
                    refine Stop.mk ?_
                    (rename Fr _ _ _ _ => lFb); (rename News _ _ _ _ => lNb)
                    refine ⟨_, vs.dropLast.length, _, _, fun i ys tl => DatAll tl ys (((((nearOf (told rw9 p9 Y.cps.toList) (decide (p9 + 2 < (rw9.length : Int))) M).take i).filter (fun r => decide (r.2.2 ≤ r.2.1)))).map rowD), ?sz, csrc_list rfl lFb lNb (by k_mem), .nil, casg_three rfl rfl rfl rfl rfl (by decide) (by decide) (by decide) (rows_src (DatAll.mono (fun p hp => by simp [hp]) dN)), cturn_one ?ct, ?cf⟩
                    case sz => rw [sizeLine_eq]; rw [List.length_dropLast]; omega
                    case ct =>
                      intro i2 v2 ys2 tl2 I2 oI2 C2 oC2 D2 m2 h2 tk2 E2 hi2 hv2 hR2 hb2 own2 hC2 F2 N2 off2 lt2 ne2
                      refine rows_bnd' (fun p hp => N2 p (by simp [hp])) (DatAll.mono (fun p hp => by simp [hp]) dN) hv2 hb2 ?_
                      intro e1 e2 e3 t1 t2 t3 hr2 b1 b2 b3
                      have hMk := kstMark
                      as_aux_lemma =>
                      k_steps
                      · as_aux_lemma =>
                        rename _ ∧ _ ∧ _ ∧ AllLt _ _ => q9
                        rename Fr _ _ _ _ => nF
                        rename News _ _ _ _ => nN
                        exact CEnd.row nF nN q9 off2 own2 (rowsF_snoc hR2 hr2 (decide_eq_true (by assumption)))
                      · as_aux_lemma =>
                        exact CEnd.same (by assumption) (by assumption) off2 own2 (rowsF_skip hR2 hr2 (decide_eq_false (by first | assumption | exact not_not_intro (by assumption))))
                    case cf =>
                      intro ys2 tl2 hR2 own2 D2 h2 tk2 F2 N2 ltD2 off2
                      rw [← hnl, List.take_length] at hR2
                      as_aux_lemma =>
                      k_steps
                      refine Stop.mk ?_
                      rename News _ _ _ _ => lNc
                      refine ne_rows lNc (by k_mem) (by k_mem) (DatAll.mono (fun p hp => by simp [hp]) hdl) (DatAll.mono (fun p hp => by simp [hp]) hR2) (by ktr_units) ?_
                      replace lNc : News _ _ _ _ := fun p hp => lNc p (.tail _ (List.mem_append_right _ (List.mem_append_right _ hp)))
                      clear hR2 own2 ltD2 off2 hdl hla
                      as_aux_lemma =>
                      k_steps
                      refine Stop.mk ?_
                      refine wpAny_If ?_
                      as_aux_lemma =>
                      k_steps
                      refine Stop.mk ?_
                      (rename Fr _ _ _ _ => lFa); (rename News _ _ _ _ => lNa)
                      refine' Ctr.use (ctr_leWit _ other' one' s2 s1 (W2c.mono (fun p hp => by simp [hp])) ok2 (W1c.mono (fun p hp => by simp [hp])) ok1) ?q9a lFa ?q9c lNa ?q9e ?q9K ?q9D ?q9U ?_
                      case q9a => k_asm
                      case q9c => k_asm
                      case q9e => k_asm
                      case q9K => exact rfl
                      case q9D => ktr_room
                      case q9U => ktr_units
                      intro v' tl' h' tk' F' N' o' hR'
                      obtain ⟨la9, vs9', k9', e', hla, hdl⟩ := hR'
                      subst e'
                      rw [pl.wit2] at hdl
                      clear o'
                      clear lFa lNa
                      as_aux_lemma =>
                      k_steps
                      refine Stop.mk ?_
                      (rename Fr _ _ _ _ => lFb); (rename News _ _ _ _ => lNb)
                      refine ⟨_, vs.dropLast.length, _, _, fun i ys tl => DatAll tl ys (((((nearOf (told rw9 p9 Y.cps.toList) (decide (p9 + 2 < (rw9.length : Int))) M).take i).filter (fun r => decide (r.2.1 ≤ r.2.2))).map swapRow).map rowD), ?sz, csrc_list rfl lFb lNb (by k_mem), .nil, casg_three rfl rfl rfl rfl rfl (by decide) (by decide) (by decide) (rows_src (DatAll.mono (fun p hp => by simp [hp]) dN)), cturn_one ?ct, ?cf⟩
                      case sz => rw [sizeLine_eq]; rw [List.length_dropLast]; omega
                      case ct =>
                        intro i2 v2 ys2 tl2 I2 oI2 C2 oC2 D2 m2 h2 tk2 E2 hi2 hv2 hR2 hb2 own2 hC2 F2 N2 off2 lt2 ne2
                        refine rows_bnd' (fun p hp => N2 p (by simp [hp])) (DatAll.mono (fun p hp => by simp [hp]) dN) hv2 hb2 ?_
                        intro e1 e2 e3 t1 t2 t3 hr2 b1 b2 b3
                        have hMk := kstMark
                        as_aux_lemma =>
                        k_steps
                        · as_aux_lemma =>
                          rename _ ∧ _ ∧ _ ∧ AllLt _ _ => q9
                          rename Fr _ _ _ _ => nF
                          rename News _ _ _ _ => nN
                          exact CEnd.row nF nN q9 off2 own2 (rowsG_snoc hR2 hr2 (decide_eq_true (by assumption)))
                        · as_aux_lemma =>
                          exact CEnd.same (by assumption) (by assumption) off2 own2 (rowsG_skip hR2 hr2 (decide_eq_false (by first | assumption | exact not_not_intro (by assumption))))
                      case cf =>
                        intro ys2 tl2 hR2 own2 D2 h2 tk2 F2 N2 ltD2 off2
                        rw [← hnl, List.take_length] at hR2
                        as_aux_lemma =>
                        k_steps
                        refine Stop.mk ?_
                        rename News _ _ _ _ => lNc
                        refine ne_rows lNc (by k_mem) (by k_mem) (DatAll.mono (fun p hp => by simp [hp]) hdl) (DatAll.mono (fun p hp => by simp [hp]) hR2) (by ktr_units) ?_
                        replace lNc : News _ _ _ _ := fun p hp => lNc p (.tail _ (List.mem_append_right _ (List.mem_append_right _ hp)))
                        clear hR2 own2 ltD2 off2 hdl hla
                        as_aux_lemma =>
                        k_steps
                        refine Stop.mk ?_
                        (rename Fr _ _ _ _ => lFa); (rename News _ _ _ _ => lNa)
                        refine' Ctr.use (ctr_neWit _ one' other' s1 s2 (W1c.mono (fun p hp => by simp [hp])) ok1 (W2c.mono (fun p hp => by simp [hp])) ok2) ?q9a lFa ?q9c lNa ?q9e ?q9K ?q9D ?q9U ?_
                        case q9a => k_asm
                        case q9c => k_asm
                        case q9e => k_asm
                        case q9K => exact rfl
                        case q9D => ktr_room
                        case q9U => ktr_units
                        intro v' tl' h' tk' F' N' o' hR'
                        obtain ⟨la9, vs9', k9', e', hla, hdl⟩ := hR'
                        subst e'
                        rw [pl.wit3] at hdl
                        clear o'
                        clear lFa lNa
                        as_aux_lemma =>
                        k_steps
                        refine Stop.mk ?_
                        rename News _ _ _ _ => lNc
                        refine eq_rows lNc (by k_mem) (by k_mem) (DatAll.mono (fun p hp => by simp [hp]) hdl) (DatAll.mono (fun p hp => by simp [hp]) dU) (by ktr_units) ?_
                        as_aux_lemma =>
                        k_steps
))
end
end
